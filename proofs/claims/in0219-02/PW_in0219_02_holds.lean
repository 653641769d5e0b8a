import PyProof.Rows.All
import Wide.All
import OpenK.AllK
import Wide.FinOn
import PyProof.IsiH_list
import PyProof.MaxThree
import PyProof.StrLawsFirst
import Lean
import PySem.Challenge.RW_in0219_02
open PySem PySem.W PyProof.Rows
set_option Elab.async false
set_option maxRecDepth 100000
set_option linter.unusedVariables false
set_option linter.unusedSimpArgs false
/-! La1 -/
namespace Mine
/-- plain data -/
inductive D where
  | none
  | bool (b : Bool)
  | int (i : Int)
  | str (x : Str)
  | list (l : List D)
  | adr (a : Addr)
  | bi (id : String)
  | ty (n : String)
  deriving Inhabited

/-- what a name holds -/
inductive Ent where
  | sh (d : D)
  | own (l : List D)
  | app (y : Str)
  /-- a list of lists, of which the last one still grows -/
  | nest (init last : List D)
  | dead
  deriving Inhabited

theorem some_pair {α β : Type} {a a' : α} {b b' : β} (h : some (a, b) = some (a', b')) : a = a' ∧ b = b' := Prod.mk.inj (Option.some.inj h)
theorem some_one {α : Type} {a a' : α} (h : some a = some a') : a = a' := Option.some.inj h
abbrev Rho := List (Str × Ent)
def Rho.get (r : Rho) (x : Str) : Option Ent := List.lookup x r
def Rho.put : Rho → Str → Ent → Rho
  | [], x, e => [(x, e)]
  | (y, e') :: r, x, e => if x = y then (y, e) :: r else (y, e') :: Rho.put r x e
theorem Rho.get_put (r : Rho) (x y : Str) (e : Ent) : (r.put x e).get y = if y = x then some e else r.get y := by
  induction r with
  | nil =>
    show List.lookup y [(x, e)] = _
    rw [List.lookup_cons]
    by_cases h : y = x
    · subst h; simp
    · have : (y == x) = false := beq_eq_false_iff_ne.mpr h
      simp [this, h, Rho.get]
  | cons p r ih =>
    obtain ⟨z, e'⟩ := p
    unfold Rho.put
    by_cases hx : x = z
    · subst hx
      rw [if_pos rfl]
      show List.lookup y ((x, e) :: r) = _
      rw [List.lookup_cons]
      by_cases h : y = x
      · subst h; simp
      · have hb : (y == x) = false := beq_eq_false_iff_ne.mpr h
        simp [hb, h, Rho.get, List.lookup_cons]
    · rw [if_neg hx]
      show List.lookup y ((z, e') :: Rho.put r x e) = if y = x then some e else List.lookup y ((z, e') :: r)
      rw [List.lookup_cons, List.lookup_cons]
      by_cases h : y = z
      · subst h
        have hn : ¬ y = x := fun q => hx q.symm
        simp [hn]
      · have hb : (y == z) = false := beq_eq_false_iff_ne.mpr h
        rw [hb]
        exact ih

mutual
inductive R (P : Addr → Array Value → Prop) : Value → D → Prop where
  | none : R P .none .none
  | bool {b : Bool} : R P (.bool b) (.bool b)
  | int {i : Int} {t : Tok} : R P (.int i t) (.int i)
  | str {x : Str} {t : Tok} : R P (.str x t) (.str x)
  | adr {a : Addr} : R P (.ref a) (.adr a)
  | bi {id : String} : R P (.builtin id) (.bi id)
  | ty {n : String} : R P (.type n) (.ty n)
  | list {a : Addr} {vs : Array Value} {ds : List D} : P a vs → Rs P vs.toList ds → R P (.ref a) (.list ds)
inductive Rs (P : Addr → Array Value → Prop) : List Value → List D → Prop where
  | nil : Rs P [] []
  | cons {v : Value} {d : D} {vs : List Value} {ds : List D} : R P v d → Rs P vs ds → Rs P (v :: vs) (d :: ds)
end

theorem R.mono {P P' : Addr → Array Value → Prop} (h : ∀ a vs, P a vs → P' a vs) {v : Value} {d : D} (r : R P v d) : R P' v d :=
  R.rec (motive_1 := fun v d _ => R P' v d) (motive_2 := fun vs ds _ => Rs P' vs ds) .none .bool .int .str .adr .bi .ty (fun p _ ih => .list (h _ _ p) ih) .nil (fun _ _ a b => .cons a b) r
theorem Rs.mono {P P' : Addr → Array Value → Prop} (h : ∀ a vs, P a vs → P' a vs) {vs : List Value} {ds : List D} (r : Rs P vs ds) : Rs P' vs ds :=
  Rs.rec (motive_1 := fun v d _ => R P' v d) (motive_2 := fun vs ds _ => Rs P' vs ds) .none .bool .int .str .adr .bi .ty (fun p _ ih => .list (h _ _ p) ih) .nil (fun _ _ a b => .cons a b) r
section
variable {P : Addr → Array Value → Prop}
theorem Rs.ind {M : List Value → List D → Prop} (h0 : M [] []) (h1 : ∀ {v : Value} {d : D} {vs : List Value} {ds : List D}, R P v d → Rs P vs ds → M vs ds → M (v :: vs) (d :: ds)) {vs : List Value} {ds : List D} (h : Rs P vs ds) : M vs ds :=
  Rs.rec (motive_1 := fun _ _ _ => True) (motive_2 := fun vs ds _ => M vs ds) trivial trivial trivial trivial trivial trivial trivial (fun _ _ _ => trivial) h0 (fun r q _ ih => h1 r q ih) h
theorem Rs.length {vs : List Value} {ds : List D} (h : Rs P vs ds) : vs.length = ds.length :=
  Rs.ind (M := fun vs ds => vs.length = ds.length) rfl (fun _ _ ih => congrArg (· + 1) ih) h
theorem Rs.get {vs : List Value} {ds : List D} (h : Rs P vs ds) : ∀ (i : Nat) (d : D), ds[i]? = some d → ∃ v, vs[i]? = some v ∧ R P v d :=
  Rs.ind (M := fun vs ds => ∀ (i : Nat) (d : D), ds[i]? = some d → ∃ v, vs[i]? = some v ∧ R P v d) (fun i d h => nomatch h) (fun {v d vs ds} r _ ih i e h => by
    cases i with
    | zero => cases h; exact ⟨v, rfl, r⟩
    | succ i => exact ih i e h) h
theorem Rs.get' {vs : List Value} {ds : List D} (h : Rs P vs ds) : ∀ (i : Nat) (v : Value), vs[i]? = some v → ∃ d, ds[i]? = some d ∧ R P v d :=
  Rs.ind (M := fun vs ds => ∀ (i : Nat) (v : Value), vs[i]? = some v → ∃ d, ds[i]? = some d ∧ R P v d) (fun i d h => nomatch h) (fun {v d vs ds} r _ ih i e h => by
    cases i with
    | zero => cases h; exact ⟨d, rfl, r⟩
    | succ i => exact ih i e h) h
theorem Rs.append {vs : List Value} {ds : List D} {vs' : List Value} {ds' : List D} (h : Rs P vs ds) (h' : Rs P vs' ds') : Rs P (vs ++ vs') (ds ++ ds') :=
  Rs.ind (M := fun vs ds => Rs P (vs ++ vs') (ds ++ ds')) h' (fun r _ ih => .cons r ih) h
theorem Rs.one {v : Value} {d : D} (h : R P v d) : Rs P [v] [d] := .cons h .nil
end

/-- what is fixed all the way -/
structure Cx where
  Z : List Addr
  mg : Str → Option Value
  mb : Str → Option Value
  FT : Addr → Option Obj

def live (h : Heap) (a : Addr) : Prop := (h.get? a).isSome = true
theorem live.lt {h : Heap} {a : Addr} (x : live h a) : a < h.objs.size := by
  unfold live at x
  cases e : h.get? a with
  | none => rw [e] at x; cases x
  | some o => exact Heap.lt_size e
theorem live.of {h : Heap} {a : Addr} {o : Obj} (e : h.get? a = some o) : live h a := by unfold live; rw [e]; rfl
theorem live.push {h : Heap} {a : Addr} (x : live h a) (o : Obj) : live (h.push o) a := by
  unfold live at x ⊢
  cases e : h.get? a with
  | none => rw [e] at x; cases x
  | some o' => rw [Heap.get?_push_of_some _ e]; rfl
theorem not_live_size (h : Heap) : ¬ live h h.objs.size := fun x => Nat.lt_irrefl _ x.lt

structure CxOk (c : Cx) : Prop where
  zg : mainGlobals ∉ c.Z
  zb : builtinsNs ∉ c.Z
  zs : cStatics ∉ c.Z
  zf : ∀ a o, c.FT a = some o → a ∉ c.Z

/-- a table of nested code -/
def tabOk (h : Heap) (z : Addr) : Prop := ∃ ps, h.get? z = some (tabObj ps) ∧ TriplesOk ps.toList
theorem tabOk.live {h : Heap} {z : Addr} (x : tabOk h z) : live h z := by
  obtain ⟨ps, e, _⟩ := x
  unfold Mine.live
  rw [e]; rfl
theorem tabOk.keep {h h' : Heap} {z : Addr} (x : tabOk h z) (hk : ∀ o, h.get? z = some o → h'.get? z = some o) : tabOk h' z := by
  obtain ⟨ps, e, g⟩ := x
  exact ⟨ps, hk _ e, g⟩
structure Ext (c : Cx) (h h' : Heap) : Prop where
  keep : ∀ b o, b ∉ c.Z → h.get? b = some o → h'.get? b = some o
  zl : ∀ z, z ∈ c.Z → tabOk h z → tabOk h' z
  zv : ∀ z, z ∈ c.Z → live h z → live h' z
theorem Ext.refl (c : Cx) (h : Heap) : Ext c h h := ⟨fun _ _ _ e => e, fun _ _ x => x, fun _ _ x => x⟩
theorem Ext.trans {c : Cx} {h h' h'' : Heap} (x : Ext c h h') (y : Ext c h' h'') : Ext c h h'' :=
  ⟨fun b o hb e => y.keep b o hb (x.keep b o hb e), fun z hz l => y.zl z hz (x.zl z hz l), fun z hz l => y.zv z hz (x.zv z hz l)⟩
theorem Ext.of {c : Cx} {h h' : Heap} (hk : ∀ b o, h.get? b = some o → h'.get? b = some o) : Ext c h h' :=
  ⟨fun b o _ e => hk b o e, fun z _ l => l.keep (hk z), fun z _ l => by
    unfold live at l ⊢
    cases e : h.get? z with
    | none => rw [e] at l; cases l
    | some o => rw [hk z o e]; rfl⟩
theorem Ext.push (c : Cx) (h : Heap) (o : Obj) : Ext c h (h.push o) := Ext.of fun _ _ e => Heap.get?_push_of_some _ e
theorem Ext.live {c : Cx} {h h' : Heap} (x : Ext c h h') {a : Addr} (l : live h a) : live h' a := by
  by_cases ha : a ∈ c.Z
  · exact x.zv a ha l
  · unfold Mine.live at l ⊢
    cases e : h.get? a with
    | none => rw [e] at l; cases l
    | some o => rw [x.keep a o ha e]; rfl

structure Glo (c : Cx) (h : Heap) : Prop where
  g : h.Ns mainGlobals c.mg
  b : h.Ns builtinsNs c.mb
  lim : h.NoLimit
  obs : ∀ a o, c.FT a = some o → h.get? a = some o
  zl : ∀ z ∈ c.Z, tabOk h z
  ok : CxOk c
theorem Glo.ext {c : Cx} {h h' : Heap} (G : Glo c h) (x : Ext c h h') : Glo c h' where
  g := G.g.at fun o e => x.keep _ o G.ok.zg e
  b := G.b.at fun o e => x.keep _ o G.ok.zb e
  lim := by
    obtain ⟨mc, n, e⟩ := G.lim
    exact ⟨mc, n.at fun o e => x.keep _ o G.ok.zs e, e⟩
  obs := fun a o e => x.keep a o (G.ok.zf a o e) (G.obs a o e)
  zl := fun z hz => x.zl z hz (G.zl z hz)
  ok := G.ok

/-- lists outside of X -/
def LP (h : Heap) (X : List Addr) (a : Addr) (vs : Array Value) : Prop := h.IsList a vs ∧ a ∉ X
theorem IsList.at {h h' : Heap} {a : Addr} {vs : Array Value} (x : h.IsList a vs) (hk : ∀ o, h.get? a = some o → h'.get? a = some o) : h'.IsList a vs :=
  let ⟨o, ho, r⟩ := x; ⟨o, hk o ho, r⟩
theorem LP.ext {c : Cx} {h h' : Heap} {X X' : List Addr} (x : Ext c h h') (hz : ∀ z ∈ c.Z, z ∈ X) (hX : ∀ a, a ∈ X' → a ∈ X ∨ ¬ live h a) : ∀ a vs, LP h X a vs → LP h' X' a vs :=
  fun a vs l => ⟨IsList.at l.1 fun o e => x.keep a o (fun q => l.2 (hz a q)) e, fun q => by
    rcases hX a q with q | q
    · exact l.2 q
    · obtain ⟨o, e, _⟩ := l.1; exact q (live.of e)⟩
theorem IsList.live {h : Heap} {a : Addr} {vs : Array Value} (x : h.IsList a vs) : live h a := by
  obtain ⟨o, e, _⟩ := x; exact live.of e

def Flat : D → Prop
  | .list _ => False
  | _ => True
theorem R.flat {P P' : Addr → Array Value → Prop} {v : Value} {d : D} (h : R P v d) (f : Flat d) : R P' v d := by
  cases h with
  | none => exact .none
  | bool => exact .bool
  | int => exact .int
  | str => exact .str
  | adr => exact .adr
  | bi => exact .bi
  | ty => exact .ty
  | list _ _ => exact f.elim

theorem R.list_inv {P : Addr → Array Value → Prop} {v : Value} {ds : List D} (h : R P v (.list ds)) : ∃ a vs, v = .ref a ∧ P a vs ∧ Rs P vs.toList ds := by
  cases h with
  | list p r => exact ⟨_, _, rfl, p, r⟩
theorem R.str_inv {P : Addr → Array Value → Prop} {v : Value} {x : Str} (h : R P v (.str x)) : ∃ t, v = .str x t := by
  cases h with
  | str => exact ⟨_, rfl⟩
theorem R.int_inv {P : Addr → Array Value → Prop} {v : Value} {x : Int} (h : R P v (.int x)) : ∃ t, v = .int x t := by
  cases h with
  | int => exact ⟨_, rfl⟩
theorem R.none_inv {P : Addr → Array Value → Prop} {v : Value} (h : R P v .none) : v = .none := by cases h; rfl
theorem R.bool_inv {P : Addr → Array Value → Prop} {v : Value} {b : Bool} (h : R P v (.bool b)) : v = .bool b := by cases h; rfl
theorem R.ty_inv {P : Addr → Array Value → Prop} {v : Value} {x : String} (h : R P v (.ty x)) : v = .type x := by cases h; rfl
theorem R.adr_inv {P : Addr → Array Value → Prop} {v : Value} {a : Addr} (h : R P v (.adr a)) : v = .ref a := by cases h; rfl
theorem R.bi_inv {P : Addr → Array Value → Prop} {v : Value} {x : String} (h : R P v (.bi x)) : v = .builtin x := by cases h; rfl
theorem Rs.two_inv {P : Addr → Array Value → Prop} {vs : List Value} {d e : D} (h : Rs P vs [d, e]) : ∃ v w, vs = [v, w] ∧ R P v d ∧ R P w e := by
  cases h with
  | cons a q => cases q with
    | cons b q' => cases q'; exact ⟨_, _, rfl, a, b⟩
theorem Rs.one_inv {P : Addr → Array Value → Prop} {vs : List Value} {d : D} (h : Rs P vs [d]) : ∃ v, vs = [v] ∧ R P v d := by
  cases h with
  | cons a q => cases q; exact ⟨_, rfl, a⟩
theorem Rs.three_inv {P : Addr → Array Value → Prop} {vs : List Value} {d e f : D} (h : Rs P vs [d, e, f]) : ∃ v w u, vs = [v, w, u] ∧ R P v d ∧ R P w e ∧ R P u f := by
  cases h with
  | cons a q =>
    obtain ⟨v, w, rfl, x, y⟩ := Rs.two_inv q
    exact ⟨_, _, _, rfl, a, x, y⟩

structure AOk (n : Nat) (A : Around) : Prop where
  hd : A.handled = none
  dp : A.depth + n < 990
  un : A.units + 20 * n + 200 < 9900
theorem AOk.le {n m : Nat} {A : Around} (x : AOk n A) (h : m ≤ n) : AOk m A := ⟨x.hd, by have := x.dp; lia, by have := x.un; lia⟩
theorem AOk.deeper {n : Nat} {A : Around} (x : AOk (n + 1) A) (env : Env) : AOk n (A.deeper env) :=
  ⟨x.hd, by have := x.dp; show A.depth + 1 + n < 990; lia, by have := x.un; show A.units + 3 + 20 * n + 200 < 9900; lia⟩
theorem AOk.room {n : Nat} {A : Around} (x : AOk n A) : A.depth < recursionLimit := by have := x.dp; show A.depth < 1000; lia
theorem AOk.units {n : Nat} {A : Around} (x : AOk n A) : A.units < cLine := by have := x.un; show A.units < 9900; lia

end Mine

/-! La2 -/
namespace Mine

def Loads (env : Env) (h : Heap) (x : Str) (v : Value) : Prop :=
  (env.kindOf x = some .local ∧ ∃ m, h.Ns env.locals m ∧ m x = some v) ∨
  ((env.kindOf x = some .cell ∨ env.kindOf x = some .free) ∧ ∃ a, env.cells.lookup x = some a ∧ h.IsCell a (some v))

def IsApp (h : Heap) (m a : Addr) : Prop := ∃ o, h.get? m = some o ∧ o.cls = .type "builtin_function_or_method" ∧ o.data = .fields #[.builtin "list.append", .ref a]

def entOk (h : Heap) (X Z : List Addr) (ow : List (Str × Addr)) (x : Str) (v : Value) : Ent → Prop
  | .sh d => R (LP h X) v d
  | .own l => ∃ a vs, v = .ref a ∧ (x, a) ∈ ow ∧ h.PlainList a vs ∧ Rs (LP h X) vs.toList l
  | .app y => ∃ m a, v = .ref m ∧ (y, a) ∈ ow ∧ IsApp h m a ∧ m ∉ Z
  | .nest init last => ∃ (a b : Addr) (vs ws : Array Value), v = .ref a ∧ (x, a) ∈ ow ∧ ((".last" : Str), b) ∈ ow ∧ h.PlainList a (vs.push (.ref b)) ∧ Rs (LP h X) vs.toList init ∧ h.PlainList b ws ∧ Rs (LP h X) ws.toList last
  | .dead => True

def XX (ow : List (Str × Addr)) (X0 : List Addr) : List Addr := ow.map (·.2) ++ X0

structure St (c : Cx) (X0 : List Addr) (s0 : Shared) (env : Env) (gd : List (Addr × Obj)) (hid : List (Value × D)) (ow : List (Str × Addr)) (r : Rho) (s : Shared) : Prop where
  kf : env.scope.kind = .function
  eg : env.globals = mainGlobals
  eb : env.builtins = builtinsNs
  same : ∃ h tk, s = { s0 with heap := h, toks := tk }
  glo0 : Glo c s0.heap
  keep : Ext c s0.heap s.heap
  zx : ∀ z ∈ c.Z, z ∈ X0
  xl : ∀ x ∈ X0, live s0.heap x
  ns : ∃ m, s.heap.Ns env.locals m
  nz : env.locals ∉ c.Z
  nf : ¬ live s0.heap env.locals
  cl : ∀ x a, env.cells.lookup x = some a → (∃ v, s.heap.IsCell a v) ∧ a ∉ c.Z
  ci : ∀ x y a, env.cells.lookup x = some a → env.cells.lookup y = some a → x = y
  cf : env.func ≠ none → ∀ x a, env.kindOf x = some .cell → env.cells.lookup x = some a → ¬ live s0.heap a
  fnc : env.func ≠ none → ∀ x, env.kindOf x = some .cell → ∃ a, env.cells.lookup x = some a
  gds : ∀ p ∈ gd, s.heap.get? p.1 = some p.2 ∧ p.1 ∉ c.Z ∧ p.1 ≠ env.locals ∧ (∀ x, env.cells.lookup x ≠ some p.1) ∧ p.1 ∉ ow.map (·.2)
  hids : ∀ p ∈ hid, R (LP s.heap (XX ow X0)) p.1 p.2
  owk : (ow.map (·.1)).Nodup
  owa : (ow.map (·.2)).Nodup
  owp : ∀ p ∈ ow, (∃ vs, s.heap.PlainList p.2 vs) ∧ ¬ live s0.heap p.2 ∧ p.2 ∉ c.Z
  vars : ∀ x e, r.get x = some e → ∃ v, Loads env s.heap x v ∧ entOk s.heap (XX ow X0) c.Z ow x v e

section
variable {c : Cx} {X0 : List Addr} {s0 : Shared} {env : Env} {gd : List (Addr × Obj)} {hid : List (Value × D)} {ow : List (Str × Addr)} {r : Rho} {s : Shared}

theorem St.glo (S : St c X0 s0 env gd hid ow r s) : Glo c s.heap := S.glo0.ext S.keep
theorem St.zX (S : St c X0 s0 env gd hid ow r s) : ∀ z ∈ c.Z, z ∈ XX ow X0 := fun z hz => List.mem_append_right _ (S.zx z hz)
theorem St.Xl (S : St c X0 s0 env gd hid ow r s) : ∀ x ∈ XX ow X0, live s.heap x := fun x hx => by
  rcases List.mem_append.mp hx with q | q
  · obtain ⟨p, hp, rfl⟩ := List.mem_map.mp q
    obtain ⟨⟨vs, n, e⟩, _⟩ := S.owp p hp
    exact live.of e
  · exact S.keep.live (S.xl x q)

theorem Loads.ext {h' : Heap} {x : Str} {v : Value} (S : St c X0 s0 env gd hid ow r s) (l : Loads env s.heap x v) (e : Ext c s.heap h') : Loads env h' x v := by
  rcases l with ⟨k, m, n, q⟩ | ⟨k, a, q, o, ho, hd⟩
  · exact .inl ⟨k, m, n.at fun o z => e.keep _ o S.nz z, q⟩
  · exact .inr ⟨k, a, q, o, e.keep a o (S.cl x a q).2 ho, hd⟩

theorem entOk.ext {h' : Heap} {x : Str} {v : Value} {en : Ent} (S : St c X0 s0 env gd hid ow r s) (l : entOk s.heap (XX ow X0) c.Z ow x v en) (e : Ext c s.heap h') :
    entOk h' (XX ow X0) c.Z ow x v en := by
  have lp := LP.ext (X := XX ow X0) (X' := XX ow X0) e S.zX fun a q => .inl q
  cases en with
  | sh d => exact R.mono lp l
  | own l' =>
    obtain ⟨a, vs, rfl, hm, hp, hr⟩ := l
    exact ⟨a, vs, rfl, hm, hp.at fun o z => e.keep a o (S.owp _ hm).2.2 z, Rs.mono lp hr⟩
  | app y =>
    obtain ⟨m, a, rfl, hm, ⟨o, ho, q⟩, hz⟩ := l
    exact ⟨m, a, rfl, hm, ⟨o, e.keep m o hz ho, q⟩, hz⟩
  | nest init last =>
    obtain ⟨a, b, vs, ws, rfl, hm, hm2, hp, hr, hp2, hr2⟩ := l
    exact ⟨a, b, vs, ws, rfl, hm, hm2, hp.at fun o z => e.keep a o (S.owp _ hm).2.2 z, Rs.mono lp hr, hp2.at fun o z => e.keep b o (S.owp _ hm2).2.2 z, Rs.mono lp hr2⟩
  | dead => exact trivial

theorem St.ext {h' : Heap} {tk : Nat} (S : St c X0 s0 env gd hid ow r s) (e : Ext c s.heap h') : St c X0 s0 env gd hid ow r { s with heap := h', toks := tk } where
  kf := S.kf
  eg := S.eg
  eb := S.eb
  same := let ⟨_, _, q⟩ := S.same; ⟨h', tk, by rw [q]⟩
  glo0 := S.glo0
  keep := S.keep.trans e
  zx := S.zx
  xl := S.xl
  ns := let ⟨m, n⟩ := S.ns; ⟨m, n.at fun o z => e.keep _ o S.nz z⟩
  nz := S.nz
  nf := S.nf
  cl := fun x a q => let ⟨⟨v, o, ho, hd⟩, z⟩ := S.cl x a q; ⟨⟨v, o, e.keep a o z ho, hd⟩, z⟩
  ci := S.ci
  cf := S.cf
  fnc := S.fnc
  gds := fun p hp => let ⟨a1, a2, a3⟩ := S.gds p hp; ⟨e.keep _ _ a2 a1, a2, a3⟩
  hids := fun p hp => R.mono (LP.ext (X := XX ow X0) (X' := XX ow X0) e S.zX fun a q => .inl q) (S.hids p hp)
  owk := S.owk
  owa := S.owa
  owp := fun p hp => let ⟨⟨vs, a1⟩, a2, a3⟩ := S.owp p hp; ⟨⟨vs, a1.at fun o z => e.keep _ o a3 z⟩, a2, a3⟩
  vars := fun x en q => let ⟨v, a1, a2⟩ := S.vars x en q; ⟨v, Loads.ext S a1 e, entOk.ext S a2 e⟩

/-- only the frame's own place b turned -/
structure Step (c : Cx) (s0 : Shared) (env : Env) (b : Addr) (h h' : Heap) : Prop where
  sb : Heap.SameBut b h h'
  nz : b ∉ c.Z
  nf : ¬ live s0.heap b
  nl : ∀ o, h.get? b = some o → (∃ es n, o.data = .dict es n) ∨ ∃ v, o.data = .cell v

theorem Step.isList {b : Addr} {h h' : Heap} (T : Step c s0 env b h h') {a : Addr} {vs : Array Value} (x : h.IsList a vs) : h'.IsList a vs := by
  obtain ⟨o, ho, hc, n, hd⟩ := x
  refine ⟨o, (T.sb.2 a fun q => ?_).trans ho, hc, n, hd⟩
  rcases T.nl o (q ▸ ho) with ⟨es, n', e⟩ | ⟨v, e⟩ <;> rw [hd] at e <;> cases e
theorem Step.plain {b : Addr} {h h' : Heap} (T : Step c s0 env b h h') {a : Addr} {vs : Array Value} (x : h.PlainList a vs) : h'.PlainList a vs := by
  obtain ⟨n, ho⟩ := x
  refine ⟨n, (T.sb.2 a fun q => ?_).trans ho⟩
  rcases T.nl _ (q ▸ ho) with ⟨es, n', e⟩ | ⟨v, e⟩ <;> cases e
theorem Step.isApp {b : Addr} {h h' : Heap} (T : Step c s0 env b h h') {m a : Addr} (x : IsApp h m a) : IsApp h' m a := by
  obtain ⟨o, ho, hc, hd⟩ := x
  refine ⟨o, (T.sb.2 m fun q => ?_).trans ho, hc, hd⟩
  rcases T.nl o (q ▸ ho) with ⟨es, n', e⟩ | ⟨v, e⟩ <;> rw [hd] at e <;> cases e
theorem Step.ext {b : Addr} {h h' : Heap} (T : Step c s0 env b h h') (e : Ext c s0.heap h) : Ext c s0.heap h' :=
  ⟨fun a o hz q => (T.sb.2 a fun z => T.nf (z ▸ live.of q)).trans (e.keep a o hz q), fun z hz l => (e.zl z hz l).keep fun o w => (T.sb.2 z fun q => T.nz (q ▸ hz)).trans w, fun z hz l => by
    have := e.zv z hz l
    unfold live at this ⊢
    rw [T.sb.2 z fun q => T.nz (q ▸ hz)]
    exact this⟩

def Ent.kill (x : Str) : Ent → Ent
  | .app y => if y = x then .dead else .app y
  | .nest i l => if x = ".last" then .dead else .nest i l
  | e => e
def Rho.kill (r : Rho) (x : Str) : Rho := r.map fun p => (p.1, p.2.kill x)
theorem Rho.get_kill (r : Rho) (x y : Str) : (r.kill x).get y = (r.get y).map (Ent.kill x) := by
  induction r with
  | nil => rfl
  | cons p r ih =>
    obtain ⟨z, e'⟩ := p
    show List.lookup y ((z, e'.kill x) :: Rho.kill r x) = (List.lookup y ((z, e') :: r)).map (Ent.kill x)
    rw [List.lookup_cons, List.lookup_cons]
    cases hb : y == z with
    | true => rfl
    | false => exact ih

def dropO (ow : List (Str × Addr)) (x : Str) : List (Str × Addr) := ow.filter fun p => !(p.1 == x)
theorem mem_dropO {ow : List (Str × Addr)} {x : Str} {p : Str × Addr} : p ∈ dropO ow x ↔ p ∈ ow ∧ p.1 ≠ x := by
  unfold dropO
  rw [List.mem_filter]
  simp
theorem dropO_sub (ow : List (Str × Addr)) (x : Str) : (dropO ow x).Sublist ow := List.filter_sublist

theorem Loads.step {h' : Heap} {b : Addr} {x y : Str} {v v' : Value} (S : St c X0 s0 env gd hid ow r s) (l : Loads env s.heap y v') (hyx : y ≠ x)
    (hw : (env.kindOf x = some .local ∧ b = env.locals ∧ ∃ m, s.heap.Ns env.locals m ∧ h'.Ns env.locals (fun z => if z = x then some v else m z)) ∨
      (env.kindOf x = some .cell ∧ env.cells.lookup x = some b ∧ h'.IsCell b (some v)))
    (T : Step c s0 env b s.heap h') : Loads env h' y v' := by
  rcases hw with ⟨hk, rfl, m, hn, hn'⟩ | ⟨hk, hb, hcell⟩
  · rcases l with ⟨k, m', n, q⟩ | ⟨k, a, q, o, ho, hd⟩
    · refine .inl ⟨k, _, hn', ?_⟩
      show (if y = x then some v else m y) = some v'
      rw [if_neg hyx, hn.agree n y]; exact q
    · refine .inr ⟨k, a, q, o, (T.sb.2 a fun z => ?_).trans ho, hd⟩
      obtain ⟨m1, o1, es, ep, h1, h2, _⟩ := S.ns
      rw [← z, ho] at h1
      cases h1
      rw [hd] at h2; cases h2
  · rcases l with ⟨k, m', n, q⟩ | ⟨k, a, q, o, ho, hd⟩
    · refine .inl ⟨k, m', n.at fun o z => ?_, q⟩
      refine (T.sb.2 _ fun w => ?_).trans z
      obtain ⟨o1, es, ep, h1, h2, _⟩ := n
      obtain ⟨⟨v1, o2, g1, g2⟩, _⟩ := S.cl x b hb
      rw [w, g1] at h1
      cases h1
      rw [g2] at h2; cases h2
    · refine .inr ⟨k, a, q, o, (T.sb.2 a fun z => hyx ?_).trans ho, hd⟩
      exact S.ci y x a q (z ▸ hb)

def HW (env : Env) (h h' : Heap) (x : Str) (v : Value) (b : Addr) : Prop :=
  (env.kindOf x = some .local ∧ b = env.locals ∧ ∃ m, h.Ns env.locals m ∧ h'.Ns env.locals (fun z => if z = x then some v else m z)) ∨
  (env.kindOf x = some .cell ∧ env.cells.lookup x = some b ∧ h'.IsCell b (some v))

/-- a name is stored: s ahead of the value's reckoning, h1 behind it, h' behind the store -/
theorem St.store {h1 h' : Heap} {tk : Nat} {b : Addr} {x : Str} {v : Value} {en : Ent} {ow' : List (Str × Addr)} (S0 : St c X0 s0 env gd hid ow r s) (e1 : Ext c s.heap h1)
    (hw : HW env h1 h' x v b) (T : Step c s0 env b h1 h')
    (hsub : ∀ p ∈ ow, p.1 ≠ x → p ∈ ow') (hk : (ow'.map (·.1)).Nodup) (ha : (ow'.map (·.2)).Nodup)
    (hp : ∀ p ∈ ow', (∃ vs, h'.PlainList p.2 vs) ∧ ¬ live s0.heap p.2 ∧ p.2 ∉ c.Z)
    (hmon : ∀ a vs, LP s.heap (XX ow X0) a vs → LP h' (XX ow' X0) a vs)
    (hg : ∀ p ∈ gd, p.1 ∉ ow'.map (·.2))
    (hen : entOk h' (XX ow' X0) c.Z ow' x v en) : St c X0 s0 env gd hid ow' ((r.kill x).put x en) { s with heap := h', toks := tk } := by
  have S : St c X0 s0 env gd hid ow r { s with heap := h1, toks := tk } := S0.ext e1
  have bx : b = env.locals ∨ ∃ y, env.cells.lookup y = some b := by
    rcases hw with ⟨_, q, _⟩ | ⟨_, q, _⟩
    · exact .inl q
    · exact .inr ⟨x, q⟩
  have hLoads : Loads env h' x v := by
    rcases hw with ⟨k, _, m, _, n⟩ | ⟨k, q, n⟩
    · exact .inl ⟨k, _, n, by simp⟩
    · exact .inr ⟨.inl k, b, q, n⟩
  refine ⟨S.kf, S.eg, S.eb, let ⟨_, _, q⟩ := S0.same; ⟨h', tk, by rw [q]⟩, S.glo0, T.ext S.keep, S.zx, S.xl, ?_, S.nz, S.nf, ?_, S.ci, S.cf, S.fnc, ?_, fun p hp => R.mono hmon (S0.hids p hp), hk, ha, hp, ?_⟩
  · rcases hw with ⟨_, _, m, _, n⟩ | ⟨_, hb, hcell⟩
    · exact ⟨_, n⟩
    · obtain ⟨m, n⟩ := S.ns
      refine ⟨m, n.at fun o z => (T.sb.2 _ fun w => ?_).trans z⟩
      obtain ⟨o1, es, ep, h1, h2, _⟩ := n
      obtain ⟨⟨v1, o2, g1, g2⟩, _⟩ := S.cl x b hb
      rw [w, g1] at h1
      cases h1
      rw [g2] at h2; cases h2
  · intro y a q
    obtain ⟨⟨v1, o1, g1, g2⟩, hz⟩ := S.cl y a q
    refine ⟨?_, hz⟩
    by_cases hab : a = b
    · subst hab
      rcases hw with ⟨_, e, m, n, _⟩ | ⟨_, hb, hcell⟩
      · exfalso
        obtain ⟨o2, es, ep, h1, h2, _⟩ := n
        rw [← e, g1] at h1
        cases h1
        rw [g2] at h2; cases h2
      · exact ⟨_, hcell⟩
    · exact ⟨v1, o1, (T.sb.2 a hab).trans g1, g2⟩
  · intro p hp'
    obtain ⟨a1, a2, a3, a4, a5⟩ := S.gds p hp'
    refine ⟨(T.sb.2 _ fun q => ?_).trans a1, a2, a3, a4, hg p hp'⟩
    rcases bx with e | ⟨y, e⟩
    · exact a3 (q.trans e)
    · exact a4 y (q ▸ e)
  · intro y e q
    rw [Rho.get_put] at q
    by_cases hyx : y = x
    · subst hyx
      rw [if_pos rfl] at q
      cases q
      exact ⟨v, hLoads, hen⟩
    · rw [if_neg hyx, Rho.get_kill] at q
      cases hg' : r.get y with
      | none => rw [hg'] at q; cases q
      | some e0 =>
        rw [hg'] at q
        obtain ⟨v', l, o⟩ := S0.vars y e0 hg'
        refine ⟨v', Loads.step S (Loads.ext S0 l e1) hyx hw T, ?_⟩
        have q' : e0.kill x = e := Option.some.inj q
        subst q'
        cases e0 with
        | sh d => exact R.mono hmon o
        | own l' =>
          obtain ⟨a, vs, rfl, hm, hpl, hr⟩ := o
          exact ⟨a, vs, rfl, hsub _ hm hyx, T.plain (hpl.at fun o z => e1.keep a o (S0.owp _ hm).2.2 z), Rs.mono hmon hr⟩
        | app y' =>
          obtain ⟨m, a, rfl, hm, hap, hz⟩ := o
          show entOk h' (XX ow' X0) c.Z ow' y (.ref m) (if y' = x then .dead else .app y')
          by_cases hy : y' = x
          · rw [if_pos hy]; exact trivial
          · rw [if_neg hy]
            refine ⟨m, a, rfl, hsub _ hm hy, T.isApp ?_, hz⟩
            obtain ⟨o, ho, q⟩ := hap
            exact ⟨o, e1.keep m o hz ho, q⟩
        | nest init last =>
          obtain ⟨a, b', vs, ws, rfl, hm, hm2, hpl, hr, hpl2, hr2⟩ := o
          show entOk h' (XX ow' X0) c.Z ow' y (.ref a) (if x = ".last" then .dead else .nest init last)
          by_cases hy : x = ".last"
          · rw [if_pos hy]; exact trivial
          · rw [if_neg hy]
            exact ⟨a, b', vs, ws, rfl, hsub _ hm hyx, hsub _ hm2 fun q => hy q.symm, T.plain (hpl.at fun o z => e1.keep a o (S0.owp _ hm).2.2 z), Rs.mono hmon hr, T.plain (hpl2.at fun o z => e1.keep b' o (S0.owp _ hm2).2.2 z), Rs.mono hmon hr2⟩
        | dead => exact trivial

theorem St.store_sh {h1 h' : Heap} {tk : Nat} {b : Addr} {x : Str} {v : Value} {d : D} (S : St c X0 s0 env gd hid ow r s) (e1 : Ext c s.heap h1) (hw : HW env h1 h' x v b) (T : Step c s0 env b h1 h')
    (hr : R (LP h1 (XX ow X0)) v d) : St c X0 s0 env gd hid (dropO ow x) ((r.kill x).put x (.sh d)) { s with heap := h', toks := tk } := by
  have sub := dropO_sub ow x
  have hX : ∀ a, a ∈ XX (dropO ow x) X0 → a ∈ XX ow X0 := fun a h => by
    rcases List.mem_append.mp h with q | q
    · exact List.mem_append_left _ ((sub.map _).subset q)
    · exact List.mem_append_right _ q
  have mon : ∀ a vs, LP h1 (XX ow X0) a vs → LP h' (XX (dropO ow x) X0) a vs := fun a vs l => ⟨T.isList l.1, fun q => l.2 (hX a q)⟩
  refine S.store e1 hw T (fun p hp hx => mem_dropO.mpr ⟨hp, hx⟩) (S.owk.sublist (sub.map _)) (S.owa.sublist (sub.map _)) (fun p hp => ?_) (fun a vs l => mon a vs (LP.ext e1 S.zX (fun _ q => .inl q) a vs l))
    (fun p hp q => (S.gds p hp).2.2.2.2 ((sub.map _).subset q)) (R.mono mon hr)
  obtain ⟨⟨vs, a1⟩, a2, a3⟩ := S.owp p (sub.subset hp)
  exact ⟨⟨vs, T.plain (a1.at fun o z => e1.keep _ o a3 z)⟩, a2, a3⟩

theorem St.store_own {h1 h' : Heap} {tk : Nat} {b : Addr} {x : Str} {a : Addr} {vs : Array Value} {ds : List D} (S : St c X0 s0 env gd hid ow r s) (e1 : Ext c s.heap h1) (hw : HW env h1 h' x (.ref a) b) (T : Step c s0 env b h1 h')
    (hf : ¬ live s.heap a) (hpl : h1.PlainList a vs) (hr : Rs (LP h1 (a :: XX ow X0)) vs.toList ds) :
    St c X0 s0 env gd hid ((x, a) :: dropO ow x) ((r.kill x).put x (.own ds)) { s with heap := h', toks := tk } := by
  have sub := dropO_sub ow x
  have hX : ∀ a', a' ∈ XX ((x, a) :: dropO ow x) X0 → a' = a ∨ a' ∈ XX ow X0 := fun a' h => by
    rcases List.mem_append.mp h with q | q
    · rw [List.map_cons] at q
      rcases List.mem_cons.mp q with q | q
      · exact .inl q
      · exact .inr (List.mem_append_left _ ((sub.map _).subset q))
    · exact .inr (List.mem_append_right _ q)
  have haz : a ∉ c.Z := fun q => hf (S.glo.zl a q).live
  have hna : a ∉ ow.map (·.2) := fun q => hf (S.Xl a (List.mem_append_left _ q))
  refine S.store e1 hw T (fun p hp hx => List.mem_cons_of_mem _ (mem_dropO.mpr ⟨hp, hx⟩)) ?_ ?_ (fun p hp => ?_) (fun a' vs' l => ?_) (fun p hp q => ?_) ⟨a, vs, rfl, List.mem_cons_self, T.plain hpl, Rs.mono (fun a' vs' l => ⟨T.isList l.1, fun q => l.2 ?_⟩) hr⟩
  · rw [List.map_cons, List.nodup_cons]
    refine ⟨fun q => ?_, S.owk.sublist (sub.map _)⟩
    obtain ⟨p, hp, e⟩ := List.mem_map.mp q
    exact (mem_dropO.mp hp).2 e
  · rw [List.map_cons, List.nodup_cons]
    exact ⟨fun q => hna ((sub.map _).subset q), S.owa.sublist (sub.map _)⟩
  · rcases List.mem_cons.mp hp with q | q
    · subst q
      exact ⟨⟨vs, T.plain hpl⟩, fun q => hf (S.keep.live q), haz⟩
    · obtain ⟨⟨vs, a1⟩, a2, a3⟩ := S.owp p (sub.subset q)
      exact ⟨⟨vs, T.plain (a1.at fun o z => e1.keep _ o a3 z)⟩, a2, a3⟩
  · refine ⟨T.isList (IsList.at l.1 fun o z => e1.keep _ o (fun q => l.2 (S.zX _ q)) z), fun q => ?_⟩
    rcases hX a' q with q | q
    · subst q; exact hf (IsList.live l.1)
    · exact l.2 q
  · rw [List.map_cons] at q
    rcases List.mem_cons.mp q with q | q
    · exact hf ((show p.1 = a from q) ▸ live.of (S.gds p hp).1)
    · exact (S.gds p hp).2.2.2.2 ((sub.map _).subset q)
  · rcases hX a' q with q | q
    · subst q; exact List.mem_cons_self
    · exact List.mem_cons_of_mem _ q

/-- a name that the frame itself holds -/
def StC (env : Env) (s0 : Shared) (x : Str) : Prop := env.kindOf x = some .local ∨ (env.kindOf x = some .cell ∧ ∃ a, env.cells.lookup x = some a ∧ ¬ live s0.heap a)
theorem wp_storeNameC {prog : Program} {w : World} {A : Around} {E : Value → Shared → Prop} {Q : Unit → Shared → Prop} {x : Str} {v : Value} (S : St c X0 s0 env gd hid ow r s)
    (hx : StC env s0 x)
    (h : ∀ h' tk b, HW env s.heap h' x v b → Step c s0 env b s.heap h' → Q () { s with heap := h', toks := tk }) : wpAny (model prog w) A (storeName env x v) Q E s := by
  rcases hx with hl | ⟨hl, a, ha, hlv⟩
  · obtain ⟨m, n⟩ := S.ns
    refine wpAny_storeName_local hl n (fun h' hn hs => h h' _ env.locals (.inl ⟨hl, rfl, m, n, hn⟩) ⟨hs, S.nz, S.nf, fun o ho => ?_⟩) (by rw [S.kf]; rfl)
    obtain ⟨o1, es, ep, h1, h2, _⟩ := n
    rw [ho] at h1; cases h1
    exact .inl ⟨es, ep, h2⟩
  · obtain ⟨⟨v0, hc⟩, hz⟩ := S.cl x a ha
    refine wpAny_storeName_cell S.kf hl ha hc fun h' hc' hs => ?_
    have := h h' s.toks a (.inr ⟨hl, ha, hc'⟩) ⟨hs, hz, hlv, fun o ho => ?_⟩
    · exact this
    · obtain ⟨o1, h1, h2⟩ := hc
      rw [ho] at h1; cases h1
      exact .inr ⟨_, h2⟩
theorem wp_storeName {prog : Program} {w : World} {A : Around} {E : Value → Shared → Prop} {Q : Unit → Shared → Prop} {x : Str} {v : Value} (S : St c X0 s0 env gd hid ow r s)
    (hx : env.kindOf x = some .local ∨ (env.kindOf x = some .cell ∧ env.func ≠ none))
    (h : ∀ h' tk b, HW env s.heap h' x v b → Step c s0 env b s.heap h' → Q () { s with heap := h', toks := tk }) : wpAny (model prog w) A (storeName env x v) Q E s := by
  refine wp_storeNameC S ?_ h
  rcases hx with hl | ⟨hl, hf⟩
  · exact .inl hl
  · obtain ⟨a, ha⟩ := S.fnc hf x hl
    exact .inr ⟨hl, a, ha, S.cf hf x a hl ha⟩

theorem ow_inj {x y : Str} {a : Addr} : ∀ {ow : List (Str × Addr)}, (ow.map (·.2)).Nodup → (x, a) ∈ ow → (y, a) ∈ ow → x = y
  | [], _, hu, _ => nomatch hu
  | p :: q, hn, hu, hv => by
    rw [List.map_cons, List.nodup_cons] at hn
    rcases List.mem_cons.mp hu with e1 | e1 <;> rcases List.mem_cons.mp hv with e2 | e2
    · rw [← e1] at e2; exact (Prod.mk.inj e2).1.symm
    · exact absurd (List.mem_map_of_mem (f := (·.2)) e2) (by rw [← e1] at hn; exact hn.1)
    · exact absurd (List.mem_map_of_mem (f := (·.2)) e1) (by rw [← e2] at hn; exact hn.1)
    · exact ow_inj hn.2 e1 e2
/-- an owned list of the frame is turned -/
theorem St.mutate {h' : Heap} {tk : Nat} {y : Str} {a : Addr} {vs' : Array Value} {l l' : List D} (S : St c X0 s0 env gd hid ow r s) (hy : r.get y = some (.own l)) (ha : (y, a) ∈ ow)
    (hs : Heap.SameBut a s.heap h') (hp : h'.PlainList a vs') (hr : Rs (LP s.heap (XX ow X0)) vs'.toList l') (hyl : y ≠ (".last" : Str)) : St c X0 s0 env gd hid ow (r.put y (.own l')) { s with heap := h', toks := tk } := by
  have hax : a ∈ XX ow X0 := List.mem_append_left _ (List.mem_map_of_mem (f := (·.2)) ha)
  obtain ⟨⟨vs0, n0, e0⟩, f0, z0⟩ := S.owp _ ha
  have mon : ∀ a' vs, LP s.heap (XX ow X0) a' vs → LP h' (XX ow X0) a' vs := fun a' vs q =>
    ⟨IsList.at q.1 fun o e => (hs.2 a' fun w => q.2 (w ▸ hax)).trans e, q.2⟩
  have ne : ∀ b o, s.heap.get? b = some o → (∀ n, o.data ≠ .seq vs0 n) → b ≠ a := fun b o e q w => by
    rw [w] at e
    have e0' : s.heap.get? a = some { cls := .type "list", data := .seq vs0 n0 } := e0
    rw [e0'] at e
    cases e
    exact q n0 rfl
  refine ⟨S.kf, S.eg, S.eb, let ⟨_, _, q⟩ := S.same; ⟨h', tk, by rw [q]⟩, S.glo0, ⟨fun b o hb e => ?_, fun z hz q => (S.keep.zl z hz q).keep fun o w => (hs.2 z fun w => z0 (w ▸ hz)).trans w, fun z hz q => ?_⟩, S.zx, S.xl, ?_, S.nz, S.nf, fun x b q => ?_, S.ci, S.cf, S.fnc, fun p hp' => ?_, fun p hp' => R.mono mon (S.hids p hp'), S.owk, S.owa, fun p hp' => ?_, fun x e q => ?_⟩
  · exact (hs.2 b fun w => f0 (w ▸ live.of e)).trans (S.keep.keep b o hb e)
  · have := S.keep.zv z hz q
    unfold live at this ⊢
    rw [hs.2 z fun w => z0 (w ▸ hz)]; exact this
  · obtain ⟨m, n⟩ := S.ns
    refine ⟨m, n.at fun o e => (hs.2 _ (ne _ o e fun n' w => ?_)).trans e⟩
    obtain ⟨o1, es, ep, h1, h2, _⟩ := n
    rw [e] at h1; cases h1
    rw [w] at h2; cases h2
  · obtain ⟨⟨v, o, h1, h2⟩, hz⟩ := S.cl x b q
    exact ⟨⟨v, o, (hs.2 b (ne b o h1 fun n' w => by rw [w] at h2; cases h2)).trans h1, h2⟩, hz⟩
  · obtain ⟨a1, a2, a3, a4, a5⟩ := S.gds p hp'
    exact ⟨(hs.2 p.1 fun w => a5 (by rw [w]; exact List.mem_map_of_mem (f := (·.2)) ha)).trans a1, a2, a3, a4, a5⟩
  · obtain ⟨⟨vs, n, e⟩, a2, a3⟩ := S.owp p hp'
    by_cases w : p.2 = a
    · exact ⟨⟨vs', w ▸ hp⟩, a2, a3⟩
    · exact ⟨⟨vs, n, (hs.2 _ w).trans e⟩, a2, a3⟩
  · have loads : ∀ {v : Value}, Loads env s.heap x v → Loads env h' x v := fun {v} w => by
      rcases w with ⟨k, m, n, q⟩ | ⟨k, b, q, o, ho, hd⟩
      · refine .inl ⟨k, m, n.at fun o e => (hs.2 _ (ne _ o e fun n' w => ?_)).trans e, q⟩
        obtain ⟨o1, es, ep, h1, h2, _⟩ := n
        rw [e] at h1; cases h1
        rw [w] at h2; cases h2
      · exact .inr ⟨k, b, q, o, (hs.2 b (ne b o ho fun n' w => by rw [w] at hd; cases hd)).trans ho, hd⟩
    rw [Rho.get_put] at q
    by_cases hxy : x = y
    · subst hxy
      rw [if_pos rfl] at q
      cases q
      obtain ⟨v, l1, a', vs, rfl, hm, _, _⟩ := S.vars x _ hy
      have : a' = a := by
        have h1 := S.owk
        have : ∀ (ow : List (Str × Addr)), (ow.map (·.1)).Nodup → ∀ u v, (x, u) ∈ ow → (x, v) ∈ ow → u = v := by
          intro ow
          induction ow with
          | nil => intro _ u v hu; cases hu
          | cons p q ih =>
            intro hn u v hu hv
            rw [List.map_cons, List.nodup_cons] at hn
            rcases List.mem_cons.mp hu with e1 | e1 <;> rcases List.mem_cons.mp hv with e2 | e2
            · rw [← e1] at e2; exact (Prod.mk.inj e2).2.symm
            · exact absurd (List.mem_map_of_mem (f := (·.1)) e2) (by rw [← e1] at hn; exact hn.1)
            · exact absurd (List.mem_map_of_mem (f := (·.1)) e1) (by rw [← e2] at hn; exact hn.1)
            · exact ih hn.2 u v e1 e2
        exact this ow h1 _ _ hm ha
      subst this
      exact ⟨_, loads l1, a', vs', rfl, ha, hp, Rs.mono mon hr⟩
    · rw [if_neg hxy] at q
      obtain ⟨v, l1, o⟩ := S.vars x e q
      refine ⟨v, loads l1, ?_⟩
      cases e with
      | sh d => exact R.mono mon o
      | own l2 =>
        obtain ⟨a', vs, rfl, hm, hpl, hr2⟩ := o
        refine ⟨a', vs, rfl, hm, ?_, Rs.mono mon hr2⟩
        have hne : a' ≠ a := fun w => hxy (ow_inj S.owa (w ▸ hm) ha)
        obtain ⟨n, e⟩ := hpl
        exact ⟨n, (hs.2 _ hne).trans e⟩
      | nest init last =>
        obtain ⟨a', b', vs, ws, rfl, hm, hm2, ⟨n, e⟩, hr1, ⟨n2, e2⟩, hr2⟩ := o
        have hne : a' ≠ a := fun w => hxy (ow_inj S.owa (w ▸ hm) ha)
        have hne2 : b' ≠ a := fun w => hyl (ow_inj S.owa ha (w ▸ hm2))
        exact ⟨a', b', vs, ws, rfl, hm, hm2, ⟨n, (hs.2 _ hne).trans e⟩, Rs.mono mon hr1, ⟨n2, (hs.2 _ hne2).trans e2⟩, Rs.mono mon hr2⟩
      | app y' =>
        obtain ⟨m, a', rfl, hm, ⟨o', ho', hc', hd'⟩, hz⟩ := o
        exact ⟨m, a', rfl, hm, ⟨o', (hs.2 m (ne m o' ho' fun n' w => by rw [w] at hd'; cases hd')).trans ho', hc', hd'⟩, hz⟩
      | dead => exact trivial

/-- an iterator of the frame's goes on: a place that is none of what the state speaks of -/
theorem St.iter {h' : Heap} {tk : Nat} {I : Addr} (S : St c X0 s0 env gd hid ow r s) (hk : ∀ b o, b ≠ I → s.heap.get? b = some o → h'.get? b = some o)
    (hf : ¬ live s0.heap I) (hz : I ∉ c.Z) (hg : I ∉ gd.map (·.1)) (ho : ∃ o vs T, s.heap.get? I = some o ∧ o.cls = .type T ∧ T ≠ "builtin_function_or_method" ∧ o.data = .fields vs) :
    St c X0 s0 env gd hid ow r { s with heap := h', toks := tk } := by
  obtain ⟨oI, vsI, TI, hI, hcI, hTI, hdI⟩ := ho
  have ne : ∀ b o, s.heap.get? b = some o → (∀ v, o.data ≠ .fields v) → b ≠ I := fun b o e q w => by
    rw [w, hI] at e
    cases e
    exact q _ hdI
  have lst : ∀ a vs, s.heap.IsList a vs → h'.IsList a vs := fun a vs q => by
    obtain ⟨o, h1, h2, n, h3⟩ := q
    exact ⟨o, hk a o (ne a o h1 fun v w => by rw [w] at h3; cases h3) h1, h2, n, h3⟩
  have mon : ∀ a' vs, LP s.heap (XX ow X0) a' vs → LP h' (XX ow X0) a' vs := fun a' vs q => ⟨lst _ _ q.1, q.2⟩
  refine ⟨S.kf, S.eg, S.eb, let ⟨_, _, q⟩ := S.same; ⟨h', tk, by rw [q]⟩, S.glo0, ⟨fun b o hb e => ?_, fun z hzz q => (S.keep.zl z hzz q).keep fun o w => hk z o (fun w => hz (w ▸ hzz)) w, fun z hzz q => ?_⟩, S.zx, S.xl, ?_, S.nz, S.nf, fun x b q => ?_, S.ci, S.cf, S.fnc, fun p hp' => ?_, fun p hp' => R.mono mon (S.hids p hp'), S.owk, S.owa, fun p hp' => ?_, fun x e q => ?_⟩
  · exact hk b o (fun w => hf (w ▸ live.of e)) (S.keep.keep b o hb e)
  · have := S.keep.zv z hzz q
    unfold live at this ⊢
    cases e : s.heap.get? z with
    | none => rw [e] at this; cases this
    | some o => rw [hk z o (fun w => hz (w ▸ hzz)) e]; rfl
  · obtain ⟨m, n⟩ := S.ns
    refine ⟨m, n.at fun o e => hk _ o (ne _ o e fun v w => ?_) e⟩
    obtain ⟨o1, es, ep, h1, h2, _⟩ := n
    rw [e] at h1; cases h1
    rw [w] at h2; cases h2
  · obtain ⟨⟨v, o, h1, h2⟩, hz⟩ := S.cl x b q
    exact ⟨⟨v, o, hk b o (ne b o h1 fun n' w => by rw [w] at h2; cases h2) h1, h2⟩, hz⟩
  · obtain ⟨a1, a2, a3, a4, a5⟩ := S.gds p hp'
    exact ⟨hk p.1 _ (fun w => hg (by rw [← w]; exact List.mem_map_of_mem (f := (·.1)) hp')) a1, a2, a3, a4, a5⟩
  · obtain ⟨⟨vs, n, e⟩, a2, a3⟩ := S.owp p hp'
    exact ⟨⟨vs, n, hk _ _ (ne _ _ e fun v w => by cases w) e⟩, a2, a3⟩
  · obtain ⟨v, l1, o⟩ := S.vars x e q
    refine ⟨v, ?_, ?_⟩
    · rcases l1 with ⟨k, m, n, q⟩ | ⟨k, b, q, o, ho, hd⟩
      · refine .inl ⟨k, m, n.at fun o e => hk _ o (ne _ o e fun n' w => ?_) e, q⟩
        obtain ⟨o1, es, ep, h1, h2, _⟩ := n
        rw [e] at h1; cases h1
        rw [w] at h2; cases h2
      · exact .inr ⟨k, b, q, o, hk b o (ne b o ho fun n' w => by rw [w] at hd; cases hd) ho, hd⟩
    · cases e with
      | sh d => exact R.mono mon o
      | own l2 =>
        obtain ⟨a', vs, rfl, hm, ⟨n, e⟩, hr2⟩ := o
        exact ⟨a', vs, rfl, hm, ⟨n, hk _ _ (ne _ _ e fun v w => by cases w) e⟩, Rs.mono mon hr2⟩
      | app y' =>
        obtain ⟨m, a', rfl, hm, ⟨o', ho', hc', hd'⟩, hz⟩ := o
        refine ⟨m, a', rfl, hm, ⟨o', hk m o' (fun w => ?_) ho', hc', hd'⟩, hz⟩
        rw [w, hI] at ho'
        cases ho'
        rw [hcI] at hc'
        exact hTI (by cases hc'; rfl)
      | nest init last =>
        obtain ⟨a', b', vs, ws, rfl, hm, hm2, ⟨n, e⟩, hr1, ⟨n2, e2⟩, hr2⟩ := o
        exact ⟨a', b', vs, ws, rfl, hm, hm2, ⟨n, hk _ _ (ne _ _ e fun v w => by cases w) e⟩, Rs.mono mon hr1, ⟨n2, hk _ _ (ne _ _ e2 fun v w => by cases w) e2⟩, Rs.mono mon hr2⟩
      | dead => exact trivial
theorem St.gd_drop {gd' : List (Addr × Obj)} (S : St c X0 s0 env (gd' ++ gd) hid ow r s) : St c X0 s0 env gd hid ow r s :=
  { S with gds := fun p hp => S.gds p (List.mem_append_right _ hp) }
theorem St.hid_drop {hid' : List (Value × D)} (S : St c X0 s0 env gd (hid' ++ hid) ow r s) : St c X0 s0 env gd hid ow r s :=
  { S with hids := fun p hp => S.hids p (List.mem_append_right _ hp) }
theorem St.gd_add {gd' : List (Addr × Obj)} (S : St c X0 s0 env gd hid ow r s) (h : ∀ p ∈ gd', s.heap.get? p.1 = some p.2 ∧ p.1 ∉ c.Z ∧ p.1 ≠ env.locals ∧ (∀ x, env.cells.lookup x ≠ some p.1) ∧ p.1 ∉ ow.map (·.2)) :
    St c X0 s0 env (gd' ++ gd) hid ow r s :=
  { S with gds := fun p hp => (List.mem_append.mp hp).elim (h p) (S.gds p) }
theorem St.hid_add {hid' : List (Value × D)} (S : St c X0 s0 env gd hid ow r s) (h : ∀ p ∈ hid', R (LP s.heap (XX ow X0)) p.1 p.2) :
    St c X0 s0 env gd (hid' ++ hid) ow r s :=
  { S with hids := fun p hp => (List.mem_append.mp hp).elim (h p) (S.hids p) }
end
end Mine

/-! La3 -/
namespace Mine

theorem bind_some {α β : Type} {o : Option α} {g : α → Option β} {b : β} (h : o.bind g = some b) : ∃ a, o = some a ∧ g a = some b := by
  cases o with
  | none => cases h
  | some a => exact ⟨a, rfl, h⟩

/-- the frame is a def's -/
def FnOk (c : Cx) (env : Env) : Prop := ∃ fa ob fd, env.func = some fa ∧ c.FT fa = some ob ∧ ob.data = .func fd ∧ env.code = fd.code ∧ env.scope = fd.scope
theorem FnOk.ne {c : Cx} {env : Env} (h : FnOk c env) : env.func ≠ none := by
  obtain ⟨fa, _, _, e, _⟩ := h
  rw [e]; intro q; cases q
/-- behind an expression: all that stood stands -/
def After (c : Cx) (s s' : Shared) : Prop := (∃ h tk, s' = { s with heap := h, toks := tk }) ∧ Ext c s.heap s'.heap
theorem After.refl (c : Cx) (s : Shared) : After c s s := ⟨⟨s.heap, s.toks, rfl⟩, Ext.refl c _⟩
theorem After.trans {c : Cx} {s s' s'' : Shared} (x : After c s s') (y : After c s' s'') : After c s s'' := by
  obtain ⟨⟨h, tk, rfl⟩, e⟩ := x
  obtain ⟨⟨h', tk', rfl⟩, e'⟩ := y
  exact ⟨⟨h', tk', rfl⟩, e.trans e'⟩
theorem After.tok (c : Cx) (s : Shared) (tk : Nat) : After c s { s with toks := tk } := ⟨⟨s.heap, tk, rfl⟩, Ext.refl c _⟩
theorem After.heap {c : Cx} {s : Shared} {h : Heap} (tk : Nat) (e : Ext c s.heap h) : After c s { s with heap := h, toks := tk } := ⟨⟨h, tk, rfl⟩, e⟩
theorem After.push (c : Cx) (s : Shared) (o : Obj) (tk : Nat) : After c s { s with heap := s.heap.push o, toks := tk } := ⟨⟨_, tk, rfl⟩, Ext.push c _ o⟩
theorem After.heap0 {c : Cx} {s : Shared} {h : Heap} (e : Ext c s.heap h) : After c s { s with heap := h } := ⟨⟨h, s.toks, rfl⟩, e⟩
theorem After.tk {c : Cx} {s s' : Shared} (x : After c s s') (tk : Nat) : After c s { s' with toks := tk } := x.trans (After.tok c s' tk)

section
variable {c : Cx} {X0 : List Addr} {s0 : Shared} {env : Env} {gd : List (Addr × Obj)} {hid : List (Value × D)} {ow : List (Str × Addr)} {r : Rho} {s : Shared}
theorem St.after {s' : Shared} (S : St c X0 s0 env gd hid ow r s) (a : After c s s') : St c X0 s0 env gd hid ow r s' := by
  obtain ⟨⟨h, tk, rfl⟩, e⟩ := a
  exact S.ext e
theorem St.mv (S : St c X0 s0 env gd hid ow r s) {s' : Shared} (a : After c s s') {v : Value} {d : D} (x : R (LP s.heap (XX ow X0)) v d) : R (LP s'.heap (XX ow X0)) v d :=
  R.mono (LP.ext a.2 S.zX fun _ q => .inl q) x
theorem St.mvs (S : St c X0 s0 env gd hid ow r s) {s' : Shared} (a : After c s s') {v : List Value} {d : List D} (x : Rs (LP s.heap (XX ow X0)) v d) : Rs (LP s'.heap (XX ow X0)) v d :=
  Rs.mono (LP.ext a.2 S.zX fun _ q => .inl q) x
end

/-- true: lists that nobody turns; false: perhaps one of the frame's own -/
def MX (b : Bool) (c : Cx) (ow : List (Str × Addr)) (X0 : List Addr) : List Addr := match b with
  | true => XX ow X0
  | false => X0
section
variable {c : Cx} {X0 : List Addr} {s0 : Shared} {env : Env} {gd : List (Addr × Obj)} {hid : List (Value × D)} {ow : List (Str × Addr)} {r : Rho} {s : Shared} {b : Bool}
theorem St.zM (S : St c X0 s0 env gd hid ow r s) : ∀ z ∈ c.Z, z ∈ MX b c ow X0 := by
  cases b with
  | true => exact S.zX
  | false => exact S.zx
theorem St.Ml (S : St c X0 s0 env gd hid ow r s) : ∀ z ∈ MX b c ow X0, live s.heap z := by
  cases b with
  | true => exact S.Xl
  | false => exact fun z h => S.keep.live (S.xl z h)
theorem St.mvM (S : St c X0 s0 env gd hid ow r s) {s1 s' : Shared} (a : After c s1 s') {v : Value} {d : D} (x : R (LP s1.heap (MX b c ow X0)) v d) : R (LP s'.heap (MX b c ow X0)) v d :=
  R.mono (LP.ext a.2 S.zM fun _ q => .inl q) x
end
/-- an expression's value, as plain data -/
def TrM (b : Bool) (c : Cx) (n : Nat) (sc : Scope) (e : Expr) (f : Rho → Option D) : Prop :=
  ∀ ⦃prog : Program⦄ ⦃w : World⦄ ⦃A : Around⦄ ⦃E : Value → Shared → Prop⦄ ⦃X0 : List Addr⦄ ⦃s0 : Shared⦄ ⦃env : Env⦄ ⦃gd : List (Addr × Obj)⦄ ⦃hid : List (Value × D)⦄ ⦃ow : List (Str × Addr)⦄ ⦃r : Rho⦄ ⦃s : Shared⦄ ⦃Q : Value → Shared → Prop⦄ ⦃d : D⦄,
    AOk n A → env.scope = sc → St c X0 s0 env gd hid ow r s → f r = some d →
    (∀ v s', After c s s' → R (LP s'.heap (MX b c ow X0)) v d → Q v s') → wpAny (model prog w) A (eval e env) Q E s
abbrev TrE := TrM true
abbrev TrB := TrM false
/-- a list just made -/
def TrF (c : Cx) (n : Nat) (sc : Scope) (e : Expr) (f : Rho → Option (List D)) : Prop :=
  ∀ ⦃prog : Program⦄ ⦃w : World⦄ ⦃A : Around⦄ ⦃E : Value → Shared → Prop⦄ ⦃X0 : List Addr⦄ ⦃s0 : Shared⦄ ⦃env : Env⦄ ⦃gd : List (Addr × Obj)⦄ ⦃hid : List (Value × D)⦄ ⦃ow : List (Str × Addr)⦄ ⦃r : Rho⦄ ⦃s : Shared⦄ ⦃Q : Value → Shared → Prop⦄ ⦃ds : List D⦄,
    AOk n A → env.scope = sc → St c X0 s0 env gd hid ow r s → f r = some ds →
    (∀ a vs s', After c s s' → ¬ live s.heap a → s'.heap.PlainList a vs → Rs (LP s'.heap (a :: XX ow X0)) vs.toList ds → Q (.ref a) s') → wpAny (model prog w) A (eval e env) Q E s
/-- several, in order -/
def TrEs (b : Bool) (c : Cx) (n : Nat) (sc : Scope) (es : List Expr) (f : Rho → Option (List D)) : Prop :=
  ∀ ⦃prog : Program⦄ ⦃w : World⦄ ⦃A : Around⦄ ⦃E : Value → Shared → Prop⦄ ⦃X0 : List Addr⦄ ⦃s0 : Shared⦄ ⦃env : Env⦄ ⦃gd : List (Addr × Obj)⦄ ⦃hid : List (Value × D)⦄ ⦃ow : List (Str × Addr)⦄ ⦃r : Rho⦄ ⦃s : Shared⦄ ⦃pos : Pos⦄ ⦃Q : List Value → Shared → Prop⦄ ⦃ds : List D⦄,
    AOk n A → env.scope = sc → St c X0 s0 env gd hid ow r s → f r = some ds →
    (∀ vs s', After c s s' → Rs (LP s'.heap (MX b c ow X0)) vs ds → Q vs s') → wpAny (model prog w) A (spliced (backTo pos (starEach es env))) Q E s
/-- a test -/
def TrT (c : Cx) (n : Nat) (sc : Scope) (e : Expr) (f : Rho → Option Bool) : Prop :=
  ∀ ⦃prog : Program⦄ ⦃w : World⦄ ⦃A : Around⦄ ⦃E : Value → Shared → Prop⦄ ⦃X0 : List Addr⦄ ⦃s0 : Shared⦄ ⦃env : Env⦄ ⦃gd : List (Addr × Obj)⦄ ⦃hid : List (Value × D)⦄ ⦃ow : List (Str × Addr)⦄ ⦃r : Rho⦄ ⦃s : Shared⦄ ⦃Q : Bool → Shared → Prop⦄ ⦃b : Bool⦄,
    AOk n A → env.scope = sc → St c X0 s0 env gd hid ow r s → f r = some b →
    (∀ s', After c s s' → Q b s') → wpAny (model prog w) A (isTrue e env (eval e env)) Q E s

/-- how a statement ends -/
inductive Fl where
  | next
  | brk
  | cont
  | ret (d : D)
def RFl (h : Heap) (X0 : List Addr) : Flow → Fl → Prop
  | .next, .next => True
  | .brk, .brk => True
  | .cont, .cont => True
  | .ret v, .ret d => R (LP h X0) v d
  | _, _ => False

theorem RFl.next_of {h : Heap} {X0 : List Addr} {f : Flow} (x : RFl h X0 f .next) : f = .next := by
  cases f with
  | next => rfl
  | _ => exact x.elim
theorem RFl.brk_of {h : Heap} {X0 : List Addr} {f : Flow} (x : RFl h X0 f .brk) : f = .brk := by
  cases f with
  | brk => rfl
  | _ => exact x.elim
theorem RFl.cont_of {h : Heap} {X0 : List Addr} {f : Flow} (x : RFl h X0 f .cont) : f = .cont := by
  cases f with
  | cont => rfl
  | _ => exact x.elim
theorem RFl.ret_of {h : Heap} {X0 : List Addr} {f : Flow} {d : D} (x : RFl h X0 f (.ret d)) : ∃ v, f = .ret v ∧ R (LP h X0) v d := by
  cases f with
  | ret v => exact ⟨v, rfl, x⟩
  | _ => exact x.elim
def TrS (c : Cx) (n : Nat) (sc : Scope) (e : Stmt) (f : Rho → Option (Rho × Fl)) : Prop :=
  ∀ ⦃prog : Program⦄ ⦃w : World⦄ ⦃A : Around⦄ ⦃E : Value → Shared → Prop⦄ ⦃X0 : List Addr⦄ ⦃s0 : Shared⦄ ⦃env : Env⦄ ⦃gd : List (Addr × Obj)⦄ ⦃hid : List (Value × D)⦄ ⦃ow : List (Str × Addr)⦄ ⦃r r' : Rho⦄ ⦃fl : Fl⦄ ⦃s : Shared⦄ ⦃Q : Flow → Shared → Prop⦄,
    AOk n A → env.scope = sc → FnOk c env → St c X0 s0 env gd hid ow r s → f r = some (r', fl) →
    (∀ f' s' ow', St c X0 s0 env gd hid ow' r' s' → RFl s'.heap X0 f' fl → Q f' s') → wpAny (model prog w) A (exec e env) Q E s
def TrSs (c : Cx) (n : Nat) (sc : Scope) (es : List Stmt) (f : Rho → Option (Rho × Fl)) : Prop :=
  ∀ ⦃prog : Program⦄ ⦃w : World⦄ ⦃A : Around⦄ ⦃E : Value → Shared → Prop⦄ ⦃X0 : List Addr⦄ ⦃s0 : Shared⦄ ⦃env : Env⦄ ⦃gd : List (Addr × Obj)⦄ ⦃hid : List (Value × D)⦄ ⦃ow : List (Str × Addr)⦄ ⦃r r' : Rho⦄ ⦃fl : Fl⦄ ⦃s : Shared⦄ ⦃Q : Flow → Shared → Prop⦄,
    AOk n A → env.scope = sc → FnOk c env → St c X0 s0 env gd hid ow r s → f r = some (r', fl) →
    (∀ f' s' ow', St c X0 s0 env gd hid ow' r' s' → RFl s'.heap X0 f' fl → Q f' s') → wpAny (model prog w) A (execs es env) Q E s

section
variable {c : Cx} {n : Nat} {sc : Scope}

theorem LPz {X0 : List Addr} {s0 : Shared} {env : Env} {gd : List (Addr × Obj)} {hid : List (Value × D)} {ow : List (Str × Addr)} {r : Rho} {s s' : Shared} (S : St c X0 s0 env gd hid ow r s) : ∀ a vs, LP s'.heap (XX ow X0) a vs → LP s'.heap X0 a vs :=
  fun _ _ l => ⟨l.1, fun q => l.2 (List.mem_append_right _ q)⟩
theorem TrE.b {e : Expr} {f : Rho → Option D} (t : TrE c n sc e f) : TrB c n sc e f := fun _ _ _ _ _ _ _ _ _ _ _ _ _ _ hA hs S hf h =>
  t hA hs S hf fun v s' a x => h v s' a (R.mono (LPz S) x)
def flat? : D → Option D
  | .list _ => none
  | d => some d
theorem flat_of {d d' : D} (h : flat? d = some d') : d = d' ∧ Flat d := by
  cases d <;> simp [flat?, Flat] at h ⊢ <;> exact h
theorem TrB.flat {e : Expr} {f : Rho → Option D} (t : TrB c n sc e f) : TrE c n sc e (fun r => (f r).bind flat?) := fun {prog w A E X0 s0 env gd hid ow r s Q d} hA hs S hf h => by
  obtain ⟨d', hf', hf⟩ := bind_some hf
  obtain ⟨rfl, fl⟩ := flat_of hf
  exact t hA hs S hf' fun v s' a x => h v s' a (x.flat fl)

theorem tr_name (x : Str) (pos : Pos) (hd : (x == ("__debug__" : Str)) = false) (hn : (x == ("__classdict__" : Str)) = false) :
    TrE c n sc (.Name x pos) (fun r => match r.get x with | some (.sh d) => some d | _ => none) := fun {prog w A E X0 s0 env gd hid ow r s Q d} hA hs S hf h => by
  dsimp only at hf
  cases hx : r.get x with
  | none => rw [hx] at hf; cases hf
  | some en =>
    rw [hx] at hf
    cases en with
    | sh d' =>
      first | obtain ⟨rfl, rfl⟩ := some_pair hf | obtain rfl := some_one hf | cases hf
      obtain ⟨v, l, o⟩ := S.vars x _ hx
      have hq := h v _ (After.refl c _) o
      rcases l with ⟨k, m, hm, q⟩ | ⟨k | k, a, ha, hc⟩
      · exact wpAny_Name (wpAny_loadName_local S.kf k hm q hq) hd
      · exact wpAny_Name (wpAny_loadName_cell S.kf k ha hc hq) hd
      · exact wpAny_Name (wpAny_loadName_free S.kf k ha hc hq hn) hd
    | own _ => cases hf
    | app _ => cases hf
    | nest _ _ => cases hf
    | dead => cases hf
theorem tr_nameB (x : Str) (pos : Pos) (hd : (x == ("__debug__" : Str)) = false) (hn : (x == ("__classdict__" : Str)) = false) :
    TrB c n sc (.Name x pos) (fun r => match r.get x with | some (.sh d) => some d | some (.own l) => some (.list l) | _ => none) := fun {prog w A E X0 s0 env gd hid ow r s Q d} hA hs S hf h => by
  dsimp only at hf
  cases hx : r.get x with
  | none => rw [hx] at hf; cases hf
  | some en =>
    rw [hx] at hf
    obtain ⟨v, l, o⟩ := S.vars x _ hx
    have key : R (LP s.heap X0) v d := by
      cases en with
      | sh d' => (first | obtain ⟨rfl, rfl⟩ := some_pair hf | obtain rfl := some_one hf | cases hf); exact R.mono (LPz S) o
      | own l' =>
        first | obtain ⟨rfl, rfl⟩ := some_pair hf | obtain rfl := some_one hf | cases hf
        obtain ⟨a, vs, rfl, hm, hp, hr⟩ := o
        exact .list ⟨hp.isList, fun q => (S.owp _ hm).2.1 (S.xl _ q)⟩ (Rs.mono (LPz S) hr)
      | app _ => cases hf
      | nest _ _ => cases hf
      | dead => cases hf
    have hq := h v _ (After.refl c _) key
    rcases l with ⟨k, m, hm, q⟩ | ⟨k | k, a, ha, hc⟩
    · exact wpAny_Name (wpAny_loadName_local S.kf k hm q hq) hd
    · exact wpAny_Name (wpAny_loadName_cell S.kf k ha hc hq) hd
    · exact wpAny_Name (wpAny_loadName_free S.kf k ha hc hq hn) hd

/-- a value of the module's own -/
def vD : Value → Option D
  | .none => some .none
  | .bool b => some (.bool b)
  | .int i _ => some (.int i)
  | .str x _ => some (.str x)
  | .ref a => some (.adr a)
  | .builtin id => some (.bi id)
  | .type t => some (.ty t)
  | _ => none
theorem R_vD {P : Addr → Array Value → Prop} {v : Value} {d : D} (h : vD v = some d) : R P v d := by
  cases v <;> first | (obtain rfl := some_one h; constructor; done) | cases h
theorem tr_glob (x : Str) (pos : Pos) (v : Value) (d : D) (hx : sc.names.lookup x = some .globalImplicit) (hv : c.mg x = some v) (hvd : vD v = some d) (hd : (x == ("__debug__" : Str)) = false) :
    TrE c n sc (.Name x pos) (fun _ => some d) := fun _ _ _ _ _ _ _ _ _ _ _ _ _ _ hA hs S hf h => by
  first | obtain ⟨rfl, rfl⟩ := some_pair hf | obtain rfl := some_one hf | cases hf
  refine Calls.Name_function_global S.kf (by show Env.kindOf _ _ = _; unfold Env.kindOf; rw [hs]; exact hx) (Calls.loadGlobal_global (mg := c.mg) (by rw [S.eg]; exact S.glo.g) hv ?_) hd
  exact h v _ (After.refl c _) (R_vD hvd)
theorem tr_built (x : Str) (pos : Pos) (v : Value) (d : D) (hx : sc.names.lookup x = some .globalImplicit) (hg : c.mg x = none) (hv : c.mb x = some v) (hvd : vD v = some d) (hd : (x == ("__debug__" : Str)) = false) :
    TrE c n sc (.Name x pos) (fun _ => some d) := fun _ _ _ _ _ _ _ _ _ _ _ _ _ _ hA hs S hf h => by
  first | obtain ⟨rfl, rfl⟩ := some_pair hf | obtain rfl := some_one hf | cases hf
  refine Calls.Name_function_global S.kf (by show Env.kindOf _ _ = _; unfold Env.kindOf; rw [hs]; exact hx) (Calls.loadGlobal_builtin (mg := c.mg) (mb := c.mb) (by rw [S.eg]; exact S.glo.g) hg (by rw [S.eb]; exact S.glo.b) hv ?_) hd
  exact h v _ (After.refl c _) (R_vD hvd)

theorem tr_int (i : Int) (k : Nat) (pos : Pos) : TrE c n sc (.Constant (.int i) k pos) (fun _ => some (.int i)) := fun _ _ _ _ _ _ _ _ _ _ _ _ _ _ hA hs S hf h => by
  (first | obtain ⟨rfl, rfl⟩ := some_pair hf | obtain rfl := some_one hf | cases hf); exact wpAny_Constant_int (h _ _ (After.tok c _ _) .int)
theorem tr_str (x : Str) (k : Nat) (pos : Pos) : TrE c n sc (.Constant (.str x) k pos) (fun _ => some (.str x)) := fun _ _ _ _ _ _ _ _ _ _ _ _ _ _ hA hs S hf h => by
  (first | obtain ⟨rfl, rfl⟩ := some_pair hf | obtain rfl := some_one hf | cases hf); exact Calls.Constant_str (h _ _ (After.tok c _ _) .str)
theorem tr_bool (b : Bool) (k : Nat) (pos : Pos) : TrE c n sc (.Constant (.bool b) k pos) (fun _ => some (.bool b)) := fun _ _ _ _ _ _ _ _ _ _ _ _ _ _ hA hs S hf h => by
  (first | obtain ⟨rfl, rfl⟩ := some_pair hf | obtain rfl := some_one hf | cases hf); exact Constant_bool (h _ _ (After.refl c _) .bool)
theorem tr_none (k : Nat) (pos : Pos) : TrE c n sc (.Constant .none k pos) (fun _ => some .none) := fun _ _ _ _ _ _ _ _ _ _ _ _ _ _ hA hs S hf h => by
  (first | obtain ⟨rfl, rfl⟩ := some_pair hf | obtain rfl := some_one hf | cases hf); exact Constant_none (h _ _ (After.refl c _) .none)
theorem trSs_no (e : List Stmt) : TrSs c n sc e (fun _ => none) := fun _ _ _ _ _ _ _ _ _ _ _ _ _ _ _ _ _ _ _ hf _ => by cases hf
end
end Mine

/-! La4 -/
noncomputable section SLa4
namespace Mine

def Act1 (c : Cx) (n : Nat) (m : Value → Sem Value) (o : D → Option D) : Prop :=
  ∀ ⦃prog : Program⦄ ⦃w : World⦄ ⦃A : Around⦄ ⦃E : Value → Shared → Prop⦄ ⦃s : Shared⦄ ⦃Q : Value → Shared → Prop⦄ ⦃a : Value⦄ ⦃da d : D⦄ ⦃X : List Addr⦄,
    AOk n A → Glo c s.heap → (∀ z ∈ c.Z, z ∈ X) → (∀ x ∈ X, live s.heap x) → R (LP s.heap X) a da → o da = some d →
    (∀ v s', After c s s' → R (LP s'.heap X) v d → Q v s') → wpAny (model prog w) A (m a) Q E s
def Act2 (c : Cx) (n : Nat) (m : Value → Value → Sem Value) (o : D → D → Option D) : Prop :=
  ∀ ⦃prog : Program⦄ ⦃w : World⦄ ⦃A : Around⦄ ⦃E : Value → Shared → Prop⦄ ⦃s : Shared⦄ ⦃Q : Value → Shared → Prop⦄ ⦃a b : Value⦄ ⦃da db d : D⦄ ⦃X : List Addr⦄,
    AOk n A → Glo c s.heap → (∀ z ∈ c.Z, z ∈ X) → (∀ x ∈ X, live s.heap x) → R (LP s.heap X) a da → R (LP s.heap X) b db → o da db = some d →
    (∀ v s', After c s s' → R (LP s'.heap X) v d → Q v s') → wpAny (model prog w) A (m a b) Q E s
def ActT (c : Cx) (n : Nat) (m : Value → Sem Bool) (o : D → Option Bool) : Prop :=
  ∀ ⦃prog : Program⦄ ⦃w : World⦄ ⦃A : Around⦄ ⦃E : Value → Shared → Prop⦄ ⦃s : Shared⦄ ⦃Q : Bool → Shared → Prop⦄ ⦃a : Value⦄ ⦃da : D⦄ ⦃b : Bool⦄ ⦃X : List Addr⦄,
    AOk n A → Glo c s.heap → (∀ z ∈ c.Z, z ∈ X) → (∀ x ∈ X, live s.heap x) → R (LP s.heap X) a da → o da = some b →
    (∀ s', After c s s' → Q b s') → wpAny (model prog w) A (m a) Q E s
/-- a call of a value with listed arguments -/
def ActL (c : Cx) (n : Nat) (m : List Value → Sem Value) (o : List D → Option D) : Prop :=
  ∀ ⦃prog : Program⦄ ⦃w : World⦄ ⦃A : Around⦄ ⦃E : Value → Shared → Prop⦄ ⦃s : Shared⦄ ⦃Q : Value → Shared → Prop⦄ ⦃vs : List Value⦄ ⦃ds : List D⦄ ⦃d : D⦄ ⦃X : List Addr⦄,
    AOk n A → Glo c s.heap → (∀ z ∈ c.Z, z ∈ X) → (∀ x ∈ X, live s.heap x) → Rs (LP s.heap X) vs ds → o ds = some d →
    (∀ v s', After c s s' → R (LP s'.heap X) v d → Q v s') → wpAny (model prog w) A (m vs) Q E s

theorem lim_ex : ∃ n : Nat, n = 1000000 := ⟨_, rfl⟩
/-- a bound that nothing reckons with -/
def lim : Nat := Classical.choose lim_ex
theorem lim_eq : lim = 1000000 := Classical.choose_spec lim_ex
theorem big_ex : ∃ n : Int, n = 2 ^ 60 := ⟨_, rfl⟩
def big : Int := Classical.choose big_ex
theorem big_eq : big = 2 ^ 60 := Classical.choose_spec big_ex
theorem lim_le : lim ≤ sizeLine := by rw [sizeLine_eq, lim_eq]; decide

/-! ### the operations as functions of plain data -/
def oAdd : D → D → Option D
  | .int a, .int b => some (.int (a + b))
  | .str x, .str y => if x.length + y.length ≤ lim then some (.str (x ++ y)) else none
  | .list l, .list m => if l.length + m.length ≤ lim then some (.list (l ++ m)) else none
  | _, _ => none
def oSub : D → D → Option D
  | .int a, .int b => some (.int (a - b))
  | _, _ => none
def oMul : D → D → Option D
  | .int a, .int b => if -big < a ∧ a < big then some (.int (a * b)) else none
  | _, _ => none
def oMod : D → D → Option D
  | .int a, .int b => if b = 0 then none else some (.int (a.fmod b))
  | _, _ => none
def oDiv : D → D → Option D
  | .int a, .int b => if 0 < b ∧ b < 1000000 then some (.int (a.fdiv b)) else none
  | _, _ => none
def oLt : D → D → Option D
  | .int a, .int b => some (.bool (decide (a < b)))
  | _, _ => none
def oLe : D → D → Option D
  | .int a, .int b => some (.bool (decide (a ≤ b)))
  | _, _ => none
def oGt : D → D → Option D
  | .int a, .int b => some (.bool (decide (b < a)))
  | _, _ => none
def oGe : D → D → Option D
  | .int a, .int b => some (.bool (decide (b ≤ a)))
  | _, _ => none
def oNeg : D → Option D
  | .int a => some (.int (-a))
  | _ => none
mutual
def D.py : D → Option PyData
  | .none => some PyData.none
  | .bool b => some (PyData.bool b)
  | .int i => some (PyData.int i)
  | .str x => some (PyData.str x)
  | .list l => (D.pys l).map PyData.list
  | _ => Option.none
def D.pys : List D → Option (List PyData)
  | [] => some []
  | d :: r => (D.py d).bind fun p => (D.pys r).map (p :: ·)
end
def oEq (a b : D) : Option D := match a, b with
  | .int x, .int y => some (.bool (x == y))
  | .str x, .str y => some (.bool (x == y))
  | a, b => a.py.bind fun p => b.py.bind fun q => if (SeqAt.shaped p && SeqAt.shaped q) = true then some (.bool (PyData.eqv p q)) else none
def oNe (a b : D) : Option D := match a, b with
  | .int x, .int y => some (.bool (x != y))
  | .str x, .str y => some (.bool (x != y))
  | a, b => a.py.bind fun p => b.py.bind fun q => if (SeqAt.shaped p && SeqAt.shaped q) = true then some (.bool (!PyData.eqv p q)) else none
def oTruth : D → Option Bool
  | .none => some false
  | .bool b => some b
  | .int i => some (i != 0)
  | .str x => if x.length ≤ lim then some ((x.length : Int) != 0) else none
  | .list l => if l.length ≤ lim then some (!l.isEmpty) else none
  | _ => none

theorem R.reads {h : Heap} {X : List Addr} {v : Value} {d : D} {p : PyData} (r : R (LP h X) v d) (e : d.py = some p) : ∃ as, Reads h v p as :=
  R.rec (motive_1 := fun v d _ => ∀ p, d.py = some p → ∃ as, Reads h v p as) (motive_2 := fun vs ds _ => ∀ ps, D.pys ds = some ps → ∃ as, ReadsAll h vs ps as)
    (fun _ e => by cases e; exact ⟨_, .none⟩) (fun _ e => by cases e; exact ⟨_, .bool _⟩) (fun _ e => by cases e; exact ⟨_, .int _ _⟩) (fun _ e => by cases e; exact ⟨_, .str _ _⟩)
    (fun _ e => nomatch e) (fun _ e => nomatch e) (fun _ e => nomatch e)
    (fun {a vs ds} l _ ih p e => by
      obtain ⟨ps, hp, rfl⟩ := Option.map_eq_some_iff.mp (show (D.pys ds).map PyData.list = some p from e)
      obtain ⟨as, q⟩ := ih ps hp
      obtain ⟨⟨o, ho, hc, n, hd⟩, _⟩ := l
      exact ⟨_, .list ho hc hd q⟩)
    (fun _ e => by cases e; exact ⟨_, .nil⟩)
    (fun {v d vs ds} _ _ ih1 ih2 ps e => by
      obtain ⟨p, h1, h2⟩ := bind_some (show (d.py.bind fun p => (D.pys ds).map (p :: ·)) = some ps from e)
      obtain ⟨qs, hp, rfl⟩ := Option.map_eq_some_iff.mp h2
      obtain ⟨as, x⟩ := ih1 p h1
      obtain ⟨bs, y⟩ := ih2 qs hp
      exact ⟨_, .cons x y⟩) r p e

section
variable {c : Cx} {n : Nat}

theorem After.new {s : Shared} {vs : Array Value} {X : List Addr} {ds : List D} (hX : ∀ x ∈ X, live s.heap x) (hr : Rs (LP s.heap X) vs.toList ds) (hz : ∀ z ∈ c.Z, z ∈ X) :
    R (LP (s.heap.push { cls := .type "list", data := .seq vs }) X) (.ref s.heap.objs.size) (.list ds) :=
  .list ⟨⟨_, Heap.get?_push_size _ rfl, rfl, 0, rfl⟩, fun q => not_live_size _ (hX _ q)⟩
    (Rs.mono (LP.ext (Ext.push c _ _) hz fun _ q => .inl q) hr)

theorem oAdd_inv {a b d : D} (h : oAdd a b = some d) : (∃ i j, a = .int i ∧ b = .int j ∧ d = .int (i + j)) ∨ (∃ x y, a = .str x ∧ b = .str y ∧ x.length + y.length ≤ lim ∧ d = .str (x ++ y)) ∨ (∃ l m, a = .list l ∧ b = .list m ∧ l.length + m.length ≤ lim ∧ d = .list (l ++ m)) := by
  unfold oAdd at h
  split at h
  · cases h; exact .inl ⟨_, _, rfl, rfl, rfl⟩
  · split at h
    · rename_i hl; cases h; exact .inr (.inl ⟨_, _, rfl, rfl, hl, rfl⟩)
    · cases h
  · split at h
    · rename_i hl; cases h; exact .inr (.inr ⟨_, _, rfl, rfl, hl, rfl⟩)
    · cases h
  · cases h
theorem act_add : Act2 c n (binaryOp .Add) oAdd := fun {prog w A E s Q a b da db d X} hA G hz hX ra rb ho h => by
  rcases oAdd_inv ho with ⟨i, j, rfl, rfl, rfl⟩ | ⟨x, y, rfl, rfl, hl, rfl⟩ | ⟨l, m, rfl, rfl, hl, rfl⟩
  · obtain ⟨t, rfl⟩ := ra.int_inv
    obtain ⟨u, rfl⟩ := rb.int_inv
    exact add_int (h _ _ (After.tok c _ _) .int)
  · obtain ⟨t, rfl⟩ := ra.str_inv
    obtain ⟨u, rfl⟩ := rb.str_inv
    exact add_str (fun t' tk => h _ _ (After.tok c _ _) .str) (Nat.le_trans hl lim_le)
  · obtain ⟨l1, vs1, rfl, p1, r1⟩ := ra.list_inv
    obtain ⟨l2, vs2, rfl, p2, r2⟩ := rb.list_inv
    obtain ⟨⟨⟨cls, dd, data, sl⟩, ho1, hc, n, hd⟩, hx1⟩ := id p1
    obtain ⟨⟨⟨cls2, dd2, data2, sl2⟩, ho2, hc2, n2, hd2⟩, hx2⟩ := id p2
    simp only at hc hd hc2 hd2
    subst hc hd hc2 hd2
    have e1 := Rs.length r1
    have e2 := Rs.length r2
    rw [← e1, ← e2] at hl
    refine concat_meets ⟨_, ho1, rfl⟩ ⟨_, ho2, rfl⟩ noFill_list_add seq_list_add PySem.F.slot_list_add PySem.F.entry_list_add (PySem.F.args_list_add_2 _ _)
      (list_addW l1 l2 vs1 vs2 n n2 dd dd2 sl sl2 (Nat.le_trans (by simpa using hl) lim_le)) ⟨ho1, ho2, ?_⟩
    exact h _ _ (After.push c s _ _) (After.new hX (by rw [Array.toList_append]; exact Rs.append r1 r2) hz)
theorem act_iadd : Act2 c n (inplaceOp .Add) (fun a b => match a with | .list _ => none | _ => oAdd a b) := fun {prog w A E s Q a b da db d X} hA G hz hX ra rb ho h => by
  have ho' : oAdd da db = some d ∧ ∀ l, da ≠ .list l := by
    dsimp only at ho
    split at ho
    · first | obtain ⟨rfl, rfl⟩ := some_pair ho | obtain rfl := some_one ho | cases ho
    · rename_i hn; exact ⟨ho, hn⟩
  rcases oAdd_inv ho'.1 with ⟨i, j, rfl, rfl, rfl⟩ | ⟨x, y, rfl, rfl, hl, rfl⟩ | ⟨l, m, rfl, rfl, hl, rfl⟩
  · obtain ⟨t, rfl⟩ := ra.int_inv
    obtain ⟨u, rfl⟩ := rb.int_inv
    exact wpAny_iadd_int (h _ _ (After.tok c _ _) .int)
  · obtain ⟨t, rfl⟩ := ra.str_inv
    obtain ⟨u, rfl⟩ := rb.str_inv
    exact iadd_str (fun t' tk => h _ _ (After.tok c _ _) .str) (Nat.le_trans hl lim_le)
  · exact absurd rfl (ho'.2 l)
def ii (f : Int → Int → Option D) : D → D → Option D
  | .int a, .int b => f a b
  | _, _ => none
theorem ii_inv {f : Int → Int → Option D} {a b d : D} (h : ii f a b = some d) : ∃ i j, a = .int i ∧ b = .int j ∧ f i j = some d := by
  unfold ii at h
  split at h
  · exact ⟨_, _, rfl, rfl, h⟩
  · cases h
theorem act_ii {m : Value → Value → Sem Value} {f : Int → Int → Option D}
    (key : ∀ {prog : Program} {w : World} {A : Around} {E : Value → Shared → Prop} {s : Shared} {Q : Value → Shared → Prop} {i j : Int} {t u : Tok} {d : D} {X : List Addr}, f i j = some d → (∀ v s', After c s s' → R (LP s'.heap X) v d → Q v s') → wpAny (model prog w) A (m (.int i t) (.int j u)) Q E s) :
    Act2 c n m (ii f) := fun {prog w A E s Q a b da db d X} hA G hz hX ra rb ho h => by
  obtain ⟨i, j, rfl, rfl, e⟩ := ii_inv ho
  obtain ⟨t, rfl⟩ := ra.int_inv
  obtain ⟨u, rfl⟩ := rb.int_inv
  exact key e h
theorem act_sub : Act2 c n (binaryOp .Sub) oSub := act_ii (f := fun a b => some (.int (a - b))) fun ho h => by
  (first | obtain ⟨rfl, rfl⟩ := some_pair ho | obtain rfl := some_one ho | cases ho); exact PyProof.Rows.sub_int (h _ _ (After.tok c _ _) .int)
theorem bits64 {a : Int} (h : -big < a ∧ a < big) : Builtin.Int.intBits a ≤ 64 := intBits_le_64 (by have := h.1; have := big_eq; lia) (by have := h.2; have := big_eq; lia)
theorem act_mul : Act2 c n (binaryOp .Mult) oMul := act_ii (f := fun a b => if -big < a ∧ a < big then some (.int (a * b)) else none) fun ho h => by
  split at ho
  · rename_i hl
    first | obtain ⟨rfl, rfl⟩ := some_pair ho | obtain rfl := some_one ho | cases ho
    exact PyProof.Rows.mul_int (h _ _ (After.tok c _ _) .int) (IntMulOk.of_left (bits64 hl))
  · first | obtain ⟨rfl, rfl⟩ := some_pair ho | obtain rfl := some_one ho | cases ho
theorem act_mod : Act2 c n (binaryOp .Mod) oMod := act_ii (f := fun a b => if b = 0 then none else some (.int (a.fmod b))) fun ho h => by
  split at ho
  · first | obtain ⟨rfl, rfl⟩ := some_pair ho | obtain rfl := some_one ho | cases ho
  · rename_i hl
    first | obtain ⟨rfl, rfl⟩ := some_pair ho | obtain rfl := some_one ho | cases ho
    exact PyProof.Rows.mod_int' hl (h _ _ (After.tok c _ _) .int)
theorem act_div : Act2 c n (binaryOp .FloorDiv) oDiv := act_ii (f := fun a b => if 0 < b ∧ b < 1000000 then some (.int (a.fdiv b)) else none) fun ho h => by
  split at ho
  · rename_i hl
    first | obtain ⟨rfl, rfl⟩ := some_pair ho | obtain rfl := some_one ho | cases ho
    exact PyProof.Rows.floordiv_int (by lia) (h _ _ (After.tok c _ _) .int) (.inl (PyProof.noPylong_small (by omega)))
  · first | obtain ⟨rfl, rfl⟩ := some_pair ho | obtain rfl := some_one ho | cases ho
theorem act_lt : Act2 c n (compareOp .Lt) oLt := act_ii (f := fun a b => some (.bool (decide (a < b)))) fun ho h => by
  (first | obtain ⟨rfl, rfl⟩ := some_pair ho | obtain rfl := some_one ho | cases ho); exact PyProof.Rows.lt_int (h _ _ (After.refl c _) .bool)
theorem act_le : Act2 c n (compareOp .LtE) oLe := act_ii (f := fun a b => some (.bool (decide (a ≤ b)))) fun ho h => by
  (first | obtain ⟨rfl, rfl⟩ := some_pair ho | obtain rfl := some_one ho | cases ho); exact PyProof.Rows.le_int (h _ _ (After.refl c _) .bool)
theorem act_gt : Act2 c n (compareOp .Gt) oGt := act_ii (f := fun a b => some (.bool (decide (b < a)))) fun ho h => by
  (first | obtain ⟨rfl, rfl⟩ := some_pair ho | obtain rfl := some_one ho | cases ho); exact PyProof.Rows.gt_int (h _ _ (After.refl c _) .bool)
theorem act_ge : Act2 c n (compareOp .GtE) oGe := act_ii (f := fun a b => some (.bool (decide (b ≤ a)))) fun ho h => by
  (first | obtain ⟨rfl, rfl⟩ := some_pair ho | obtain rfl := some_one ho | cases ho); exact PyProof.Rows.ge_int (h _ _ (After.refl c _) .bool)
theorem act_neg : Act1 c n (unaryOp .USub) oNeg := fun {prog w A E s Q a da d X} hA G hz hX ra ho h => by
  cases da <;> try (cases ho; done)
  obtain ⟨t, rfl⟩ := ra.int_inv
  first | obtain ⟨rfl, rfl⟩ := some_pair ho | obtain rfl := some_one ho | cases ho
  exact PyProof.Rows.neg_int (h _ _ (After.tok c _ _) .int)

theorem cmp_deep (a b : D) : (∃ i j, a = .int i ∧ b = .int j) ∨ (∃ x y, a = .str x ∧ b = .str y) ∨
    (oEq a b = (a.py.bind fun p => b.py.bind fun q => if (SeqAt.shaped p && SeqAt.shaped q) = true then some (.bool (PyData.eqv p q)) else none) ∧
     oNe a b = (a.py.bind fun p => b.py.bind fun q => if (SeqAt.shaped p && SeqAt.shaped q) = true then some (.bool (!PyData.eqv p q)) else none)) := by
  cases a with
  | int i => cases b with
    | int j => exact .inl ⟨_, _, rfl, rfl⟩
    | _ => exact .inr (.inr ⟨rfl, rfl⟩)
  | str x => cases b with
    | str y => exact .inr (.inl ⟨_, _, rfl, rfl⟩)
    | _ => exact .inr (.inr ⟨rfl, rfl⟩)
  | _ => exact .inr (.inr ⟨rfl, rfl⟩)
theorem deep_inv {h : Heap} {X : List Addr} {a b : Value} {da db d : D} {f : PyData → PyData → Bool} (ra : R (LP h X) a da) (rb : R (LP h X) b db)
    (ho : (da.py.bind fun p => db.py.bind fun q => if (SeqAt.shaped p && SeqAt.shaped q) = true then some (D.bool (f p q)) else none) = some d) :
    ∃ p q as bs, Reads h a p as ∧ Reads h b q bs ∧ SeqAt.shaped p = true ∧ SeqAt.shaped q = true ∧ d = .bool (f p q) := by
  obtain ⟨p, h1, ho⟩ := bind_some ho
  obtain ⟨q, h2, ho⟩ := bind_some ho
  split at ho
  · rename_i hs
    rw [Bool.and_eq_true] at hs
    first | obtain ⟨rfl, rfl⟩ := some_pair ho | obtain rfl := some_one ho | cases ho
    obtain ⟨as, r1⟩ := R.reads ra h1
    obtain ⟨bs, r2⟩ := R.reads rb h2
    exact ⟨p, q, as, bs, r1, r2, hs.1, hs.2, rfl⟩
  · first | obtain ⟨rfl, rfl⟩ := some_pair ho | obtain rfl := some_one ho | cases ho
theorem act_eq : Act2 c n (compareOp .Eq) oEq := fun {prog w A E s Q a b da db d X} hA G hz hX ra rb ho h => by
  rcases cmp_deep da db with ⟨i, j, rfl, rfl⟩ | ⟨x, y, rfl, rfl⟩ | ⟨e, _⟩
  · obtain ⟨t, rfl⟩ := ra.int_inv
    obtain ⟨u, rfl⟩ := rb.int_inv
    first | obtain ⟨rfl, rfl⟩ := some_pair ho | obtain rfl := some_one ho | cases ho
    exact PyProof.Rows.eq_int (h _ _ (After.refl c _) .bool)
  · obtain ⟨t, rfl⟩ := ra.str_inv
    obtain ⟨u, rfl⟩ := rb.str_inv
    first | obtain ⟨rfl, rfl⟩ := some_pair ho | obtain rfl := some_one ho | cases ho
    exact PyProof.Rows.eq_str (h _ _ (After.refl c _) .bool)
  · rw [e] at ho
    obtain ⟨p, q, as, bs, r1, r2, s1, s2, rfl⟩ := deep_inv ra rb ho
    exact eq_dataH r1 r2 s1 s2 (by have := hA.un; show A.units + 64 < 9900; lia) (h _ _ (After.refl c _) .bool)
theorem act_ne : Act2 c n (compareOp .NotEq) oNe := fun {prog w A E s Q a b da db d X} hA G hz hX ra rb ho h => by
  rcases cmp_deep da db with ⟨i, j, rfl, rfl⟩ | ⟨x, y, rfl, rfl⟩ | ⟨_, e⟩
  · obtain ⟨t, rfl⟩ := ra.int_inv
    obtain ⟨u, rfl⟩ := rb.int_inv
    first | obtain ⟨rfl, rfl⟩ := some_pair ho | obtain rfl := some_one ho | cases ho
    exact PyProof.Rows.ne_int (h _ _ (After.refl c _) .bool)
  · obtain ⟨t, rfl⟩ := ra.str_inv
    obtain ⟨u, rfl⟩ := rb.str_inv
    first | obtain ⟨rfl, rfl⟩ := some_pair ho | obtain rfl := some_one ho | cases ho
    exact PyProof.Rows.ne_str (h _ _ (After.refl c _) .bool)
  · rw [e] at ho
    obtain ⟨p, q, as, bs, r1, r2, s1, s2, rfl⟩ := deep_inv (f := fun p q => !PyData.eqv p q) ra rb ho
    exact ne_dataH r1 r2 s1 s2 (by have := hA.un; show A.units + 64 < 9900; lia) (h _ _ (After.refl c _) .bool)

theorem act_truth : ActT c n truthy oTruth := fun {prog w A E s Q a da b X} hA G hz hX ra ho h => by
  cases da with
  | none => obtain rfl := ra.none_inv; (first | obtain ⟨rfl, rfl⟩ := some_pair ho | obtain rfl := some_one ho | cases ho); exact truthy_none (h _ (After.refl c _))
  | bool b => obtain rfl := ra.bool_inv; (first | obtain ⟨rfl, rfl⟩ := some_pair ho | obtain rfl := some_one ho | cases ho); exact wpAny_truthy_bool (h _ (After.refl c _))
  | int i => obtain ⟨t, rfl⟩ := ra.int_inv; (first | obtain ⟨rfl, rfl⟩ := some_pair ho | obtain rfl := some_one ho | cases ho); exact PyProof.Rows.truthy_int (h _ (After.refl c _))
  | str x =>
    obtain ⟨t, rfl⟩ := ra.str_inv
    by_cases hl : x.length ≤ lim
    · have e : oTruth (.str x) = some ((x.length : Int) != 0) := if_pos hl
      cases e.symm.trans ho
      exact PySem.P.truthy_str (by have := lim_eq; lia) (h _ (After.tok c _ _))
    · cases (if_neg hl : oTruth (.str x) = none).symm.trans ho
  | list ds =>
    obtain ⟨l, vs, rfl, p, r⟩ := ra.list_inv
    by_cases hl : ds.length ≤ lim
    · have e : oTruth (.list ds) = some (!ds.isEmpty) := if_pos hl
      cases e.symm.trans ho
      have e := Rs.length r
      have e2 : vs.size = ds.length := by rw [← e]; simp
      have e3 : ds.isEmpty = vs.isEmpty := by
        rw [Bool.eq_iff_iff, List.isEmpty_iff_length_eq_zero, Array.isEmpty_iff_size_eq_zero, e2]
      rw [e3] at h
      exact wpAny_truthy_list p.1 (by have := lim_eq; lia) (h _ (After.tok c _ _))
    · cases (if_neg hl : oTruth (.list ds) = none).symm.trans ho
  | _ => cases ho
end
end Mine
end SLa4

/-! La5 -/
noncomputable section SLa5
namespace Mine
section
variable {c : Cx} {n : Nat} {sc : Scope} {b : Bool}

theorem tr_bin {l rr : Expr} {op : Operator} {pos : Pos} {f g : Rho → Option D} {o : D → D → Option D} (tl : TrM b c n sc l f) (tr : TrM b c n sc rr g) (ho : Act2 c n (binaryOp op) o) :
    TrM b c n sc (.BinOp l op rr pos) (fun r => (f r).bind fun x => (g r).bind fun y => o x y) := fun _ _ _ _ _ _ _ _ _ _ _ _ _ _ hA hs S hf h => by
  obtain ⟨da, h1, hf⟩ := bind_some hf
  obtain ⟨db, h2, hf⟩ := bind_some hf
  refine wpAny_BinOp (tl hA hs S h1 fun a s1 a1 x1 => tr hA hs (S.after a1) h2 fun b s2 a2 x2 => ?_)
  have S2 := (S.after a1).after a2
  exact ho hA S2.glo S.zM S2.Ml (S.mvM a2 x1) x2 hf fun v s3 a3 x3 => h v s3 ((a1.trans a2).trans a3) x3
theorem tr_cmp {l rr : Expr} {op : CmpOp} {pos : Pos} {f g : Rho → Option D} {o : D → D → Option D} (tl : TrM b c n sc l f) (tr : TrM b c n sc rr g) (ho : Act2 c n (compareOp op) o) (hm : behindInMarks op rr = false := by rfl) :
    TrM b c n sc (.Compare l [op] [rr] pos) (fun r => (f r).bind fun x => (g r).bind fun y => o x y) := fun _ _ _ _ _ _ _ _ _ _ _ _ _ _ hA hs S hf h => by
  obtain ⟨da, h1, hf⟩ := bind_some hf
  obtain ⟨db, h2, hf⟩ := bind_some hf
  refine wpAny_Compare1 (tl hA hs S h1 fun a s1 a1 x1 => tr hA hs (S.after a1) h2 fun b s2 a2 x2 => ?_) hm
  have S2 := (S.after a1).after a2
  exact ho hA S2.glo S.zM S2.Ml (S.mvM a2 x1) x2 hf fun v s3 a3 x3 => h v s3 ((a1.trans a2).trans a3) x3
def asB : D → Option Bool
  | .bool b => some b
  | _ => none
theorem asB_of {d : D} {b : Bool} (h : asB d = some b) : d = .bool b := by
  cases d with
  | bool x => cases h; rfl
  | _ => cases h
theorem trT_cmp {l rr : Expr} {op : CmpOp} {pos : Pos} {f g : Rho → Option D} {o : D → D → Option D} (tl : TrM b c n sc l f) (tr : TrM b c n sc rr g) (ho : Act2 c n (compareOp op) o) (hm : behindInMarks op rr = false := by rfl) :
    TrT c n sc (.Compare l [op] [rr] pos) (fun r => (f r).bind fun x => (g r).bind fun y => (o x y).bind asB) := fun _ _ _ _ _ _ _ _ _ _ _ _ _ _ hA hs S hf h => by
  obtain ⟨da, h1, hf⟩ := bind_some hf
  obtain ⟨db, h2, hf⟩ := bind_some hf
  obtain ⟨d, h3, hf⟩ := bind_some hf
  refine wpAny_isTrue_Compare1 (tl hA hs S h1 fun a s1 a1 x1 => tr hA hs (S.after a1) h2 fun b s2 a2 x2 => ?_) hm
  have S2 := (S.after a1).after a2
  refine ho hA S2.glo S.zM S2.Ml (S.mvM a2 x1) x2 h3 fun v s3 a3 x3 => ?_
  obtain rfl := asB_of hf
  obtain rfl := x3.bool_inv
  exact wpAny_truthy_bool (h s3 ((a1.trans a2).trans a3))
theorem tr_un {e : Expr} {op : UnaryOp} {pos : Pos} {f : Rho → Option D} {o : D → Option D} (t : TrM b c n sc e f) (ho : Act1 c n (unaryOp op) o) :
    TrM b c n sc (.UnaryOp op e pos) (fun r => (f r).bind o) := fun _ _ _ _ _ _ _ _ _ _ _ _ _ _ hA hs S hf h => by
  obtain ⟨da, h1, hf⟩ := bind_some hf
  refine UnaryOp_ (t hA hs S h1 fun a s1 a1 x1 => ?_)
  have S1 := S.after a1
  exact ho hA S1.glo S.zM S1.Ml x1 hf fun v s3 a3 x3 => h v s3 (a1.trans a3) x3
theorem trT_of {e : Expr} {f : Rho → Option D} (t : TrM b c n sc e f) (he : ∀ env whole, isTrue e env whole = (do let v ← whole; standAt e.pos; holding [v] (truthy v)) := by intro _ _; rfl) :
    TrT c n sc e (fun r => (f r).bind oTruth) := fun _ _ _ _ _ _ _ _ _ _ _ _ _ _ hA hs S hf h => by
  obtain ⟨da, h1, hf⟩ := bind_some hf
  refine isTrue_plain (t hA hs S h1 fun a s1 a1 x1 => ?_) (he _ _)
  have S1 := S.after a1
  exact act_truth hA S1.glo S.zM S1.Ml x1 hf fun s2 a2 => h _ (a1.trans a2)
theorem trT_not {e : Expr} {pos : Pos} {f : Rho → Option Bool} (t : TrT c n sc e f) : TrT c n sc (.UnaryOp .Not e pos) (fun r => (f r).map (!·)) := fun {prog w A E X0 s0 env gd hid ow r s Q d} hA hs S hf h => by
  dsimp only at hf
  cases h1 : f r with
  | none => rw [h1] at hf; cases hf
  | some v =>
    rw [h1] at hf
    first | obtain ⟨rfl, rfl⟩ := some_pair hf | obtain rfl := some_one hf | cases hf
    exact isTrue_not (t hA hs S h1 fun s1 a1 => h s1 a1)
theorem trT_and0 {pos : Pos} : TrT c n sc (.BoolOp .And [] pos) (fun _ => some true) := fun _ _ _ _ _ _ _ _ _ _ _ _ _ _ hA hs S hf h => by
  (first | obtain ⟨rfl, rfl⟩ := some_pair hf | obtain rfl := some_one hf | cases hf); exact isTrue_and_nil (h _ (After.refl c _))
theorem trT_or0 {pos : Pos} : TrT c n sc (.BoolOp .Or [] pos) (fun _ => some false) := fun _ _ _ _ _ _ _ _ _ _ _ _ _ _ hA hs S hf h => by
  (first | obtain ⟨rfl, rfl⟩ := some_pair hf | obtain rfl := some_one hf | cases hf); exact isTrue_or_nil (h _ (After.refl c _))
theorem trT_and {x : Expr} {rest : List Expr} {pos : Pos} {f g : Rho → Option Bool} (t : TrT c n sc x f) (u : TrT c n sc (.BoolOp .And rest pos) g) :
    TrT c n sc (.BoolOp .And (x :: rest) pos) (fun r => (f r).bind fun v => if v then g r else some false) := fun _ _ _ _ _ _ _ _ _ _ _ _ _ _ hA hs S hf h => by
  obtain ⟨v, h1, hf⟩ := bind_some hf
  refine isTrue_and (t hA hs S h1 fun s1 a1 => ?_)
  cases v with
  | true => exact u hA hs (S.after a1) hf fun s2 a2 => h s2 (a1.trans a2)
  | false => (first | obtain ⟨rfl, rfl⟩ := some_pair hf | obtain rfl := some_one hf | cases hf); exact h s1 a1
theorem trT_or {x : Expr} {rest : List Expr} {pos : Pos} {f g : Rho → Option Bool} (t : TrT c n sc x f) (u : TrT c n sc (.BoolOp .Or rest pos) g) :
    TrT c n sc (.BoolOp .Or (x :: rest) pos) (fun r => (f r).bind fun v => if v then some true else g r) := fun _ _ _ _ _ _ _ _ _ _ _ _ _ _ hA hs S hf h => by
  obtain ⟨v, h1, hf⟩ := bind_some hf
  refine isTrue_or (t hA hs S h1 fun s1 a1 => ?_)
  cases v with
  | false => exact u hA hs (S.after a1) hf fun s2 a2 => h s2 (a1.trans a2)
  | true => (first | obtain ⟨rfl, rfl⟩ := some_pair hf | obtain rfl := some_one hf | cases hf); exact h s1 a1
theorem tr_bool1 {op : BoolOp} {e : Expr} {pos : Pos} {f : Rho → Option D} (t : TrM b c n sc e f) : TrM b c n sc (.BoolOp op [e] pos) f := fun _ _ _ _ _ _ _ _ _ _ _ _ _ _ hA hs S hf h => BoolOp_one (t hA hs S hf h)
theorem tr_and {e1 e2 : Expr} {rest : List Expr} {pos : Pos} {f g : Rho → Option D} (t : TrM b c n sc e1 f) (u : TrM b c n sc (.BoolOp .And (e2 :: rest) pos) g) :
    TrM b c n sc (.BoolOp .And (e1 :: e2 :: rest) pos) (fun r => (f r).bind fun d => (oTruth d).bind fun t => if t then g r else some d) := fun _ _ _ _ _ _ _ _ _ _ _ _ _ _ hA hs S hf h => by
  obtain ⟨da, h1, hf⟩ := bind_some hf
  obtain ⟨tv, h2, hf⟩ := bind_some hf
  refine BoolOp_and (t hA hs S h1 fun a s1 a1 x1 => ?_)
  have S1 := S.after a1
  refine act_truth hA S1.glo S.zM S1.Ml x1 h2 fun s2 a2 => ?_
  cases tv with
  | true => exact u hA hs (S1.after a2) hf fun v s3 a3 => h v s3 ((a1.trans a2).trans a3)
  | false => (first | obtain ⟨rfl, rfl⟩ := some_pair hf | obtain rfl := some_one hf | cases hf); exact h _ _ (a1.trans a2) (S.mvM a2 x1)
theorem tr_or {e1 e2 : Expr} {rest : List Expr} {pos : Pos} {f g : Rho → Option D} (t : TrM b c n sc e1 f) (u : TrM b c n sc (.BoolOp .Or (e2 :: rest) pos) g) :
    TrM b c n sc (.BoolOp .Or (e1 :: e2 :: rest) pos) (fun r => (f r).bind fun d => (oTruth d).bind fun t => if t then some d else g r) := fun _ _ _ _ _ _ _ _ _ _ _ _ _ _ hA hs S hf h => by
  obtain ⟨da, h1, hf⟩ := bind_some hf
  obtain ⟨tv, h2, hf⟩ := bind_some hf
  refine BoolOp_or (t hA hs S h1 fun a s1 a1 x1 => ?_)
  have S1 := S.after a1
  refine act_truth hA S1.glo S.zM S1.Ml x1 h2 fun s2 a2 => ?_
  cases tv with
  | false => exact u hA hs (S1.after a2) hf fun v s3 a3 => h v s3 ((a1.trans a2).trans a3)
  | true => (first | obtain ⟨rfl, rfl⟩ := some_pair hf | obtain rfl := some_one hf | cases hf); exact h _ _ (a1.trans a2) (S.mvM a2 x1)
theorem tr_if {test body orelse : Expr} {pos : Pos} {f : Rho → Option Bool} {g k : Rho → Option D} (t : TrT c n sc test f) (u : TrM b c n sc body g) (v : TrM b c n sc orelse k) :
    TrM b c n sc (.IfExp test body orelse pos) (fun r => (f r).bind fun t => if t then g r else k r) := fun _ _ _ _ _ _ _ _ _ _ _ _ _ _ hA hs S hf h => by
  obtain ⟨tv, h1, hf⟩ := bind_some hf
  refine IfExp_ (t hA hs S h1 fun s1 a1 => ?_)
  cases tv with
  | true => exact u hA hs (S.after a1) hf fun v s3 a3 => h v s3 (a1.trans a3)
  | false => exact v hA hs (S.after a1) hf fun v s3 a3 => h v s3 (a1.trans a3)
/-! ### several, in order -/
theorem trEs_nil : TrEs b c n sc [] (fun _ => some []) := fun _ _ _ _ _ _ _ _ _ _ _ _ _ _ _ hA hs S hf h => by
  (first | obtain ⟨rfl, rfl⟩ := some_pair hf | obtain rfl := some_one hf | cases hf); exact spliced_none (h _ _ (After.refl c _) .nil)
theorem trEs_cons {e : Expr} {es : List Expr} {f : Rho → Option D} {g : Rho → Option (List D)} (t : TrM b c n sc e f) (u : TrEs b c n sc es g) (he : ∀ env, starEach (e :: es) env = (false, eval e env) :: starEach es env := by intro _; rfl) :
    TrEs b c n sc (e :: es) (fun r => (f r).bind fun d => (g r).bind fun l => some (d :: l)) := fun _ _ _ _ _ _ _ _ _ _ _ _ _ _ _ hA hs S hf h => by
  obtain ⟨d, h1, hf⟩ := bind_some hf
  obtain ⟨l, h2, hf⟩ := bind_some hf
  first | obtain ⟨rfl, rfl⟩ := some_pair hf | obtain rfl := some_one hf | cases hf
  exact spliced_more (t hA hs S h1 fun v s1 a1 x1 => u hA hs (S.after a1) h2 fun vs s2 a2 x2 => h _ _ (a1.trans a2) (.cons (S.mvM a2 x1) x2)) (he _)

/-- no star among the arguments -/
def Plain (args : List Expr) : Prop := ∀ env pos, (backTo pos (starEach args env)).any (·.1) = false ∧
  ((args = [] ∧ starEach args env = []) ∨ ∃ e rest l, starEach args env = (false, eval e env) :: l ∧ args = e :: rest)
theorem plain_nil : Plain [] := fun _ _ => ⟨rfl, .inl ⟨rfl, rfl⟩⟩
theorem plain_cons {e : Expr} {es : List Expr} (p : Plain es) (he : ∀ env, starEach (e :: es) env = (false, eval e env) :: starEach es env := by intro _; rfl) : Plain (e :: es) := fun env pos => by
  refine ⟨?_, .inr ⟨e, es, _, he env, rfl⟩⟩
  rw [he env]
  exact (p env pos).1
theorem evalArgs_pl {M : Model} {A : Around} {E : Value → Shared → Prop} {s : Shared} {env : Env} {f : Value} {pos : Pos} {args : List Expr} {Q : Args → Shared → Prop} (p : Plain args)
    (h : wpAny M A (spliced (backTo pos (starEach args env))) (fun vs s' => Q ⟨vs, []⟩ s') E s) : wpAny M A (evalArgs f true (backTo pos (starEach args env)) []) Q E s := by
  rcases (p env pos).2 with ⟨h1, h2⟩ | ⟨e, rest, l, h1, h2⟩
  · rw [h2] at h ⊢
    unfold evalArgs
    show wpAny M A (spliced [] >>= _) Q E s
    refine wpAny_bind (wpAny_mono h (fun vs s' h' => ?_) fun _ _ x => x)
    refine wpAny_holding ?_
    exact wpAny_bind (wpAny_pure (wpAny_bind (wpAny_pure (wpAny_pure h'))))
  · rw [h1] at h ⊢
    exact Calls.evalArgs_plain h

/-- a built-in function called by its name -/
theorem tr_callB {x : Str} {p pos : Pos} {args : List Expr} {id : String} {f : Rho → Option (List D)} {o : List D → Option D} (tn : TrE c n sc (.Name x p) (fun _ => some (.bi id))) (ta : TrEs b c n sc args f)
    (ho : ActL c n (fun vs => call (.builtin id) vs) o) (pl : Plain args) : TrM b c n sc (.Call (.Name x p) args [] pos) (fun r => (f r).bind o) := fun _ _ _ _ _ _ _ _ _ _ _ _ _ _ hA hs S hf h => by
  obtain ⟨ds, h1, hf⟩ := bind_some hf
  refine wpAny_Call_NameR (tn hA hs S rfl fun v s1 a1 x1 => ?_)
  obtain rfl := x1.bi_inv
  refine Calls.callWith_builtin (pl _ _).1 (evalArgs_pl pl (ta hA hs (S.after a1) h1 fun vs s2 a2 x2 => ?_))
  have S2 := (S.after a1).after a2
  exact ho hA S2.glo S.zM S2.Ml x2 hf fun v s3 a3 x3 => h v s3 ((a1.trans a2).trans a3) x3
/-- a type called by its name -/
theorem tr_callT {x : Str} {p pos : Pos} {args : List Expr} {id : String} {f : Rho → Option (List D)} {o : List D → Option D} (tn : TrE c n sc (.Name x p) (fun _ => some (.ty id))) (ta : TrEs b c n sc args f)
    (ho : ActL c n (fun vs => call (.type id) vs) o) (pl : Plain args) : TrM b c n sc (.Call (.Name x p) args [] pos) (fun r => (f r).bind o) := fun _ _ _ _ _ _ _ _ _ _ _ _ _ _ hA hs S hf h => by
  obtain ⟨ds, h1, hf⟩ := bind_some hf
  refine wpAny_Call_NameR (tn hA hs S rfl fun v s1 a1 x1 => ?_)
  obtain rfl := x1.ty_inv
  refine PySem.callWith_type (pl _ _).1 (evalArgs_pl pl (ta hA hs (S.after a1) h1 fun vs s2 a2 x2 => ?_))
  have S2 := (S.after a1).after a2
  exact ho hA S2.glo S.zM S2.Ml x2 hf fun v s3 a3 x3 => h v s3 ((a1.trans a2).trans a3) x3
/-- a def of the module's called by its name -/
theorem tr_callF {x : Str} {p pos : Pos} {args : List Expr} {fa : Addr} {ob : Obj} {fd : FuncData} {f : Rho → Option (List D)} {o : List D → Option D} (tn : TrE c n sc (.Name x p) (fun _ => some (.adr fa))) (ta : TrEs b c n sc args f)
    (hob : c.FT fa = some ob) (hfd : ob.data = .func fd) (ho : ActL c n (fun vs => call (.ref fa) vs) o) (pl : Plain args) : TrM b c n sc (.Call (.Name x p) args [] pos) (fun r => (f r).bind o) := fun _ _ _ _ _ _ _ _ _ _ _ _ _ _ hA hs S hf h => by
  obtain ⟨ds, h1, hf⟩ := bind_some hf
  refine wpAny_Call_NameR (tn hA hs S rfl fun v s1 a1 x1 => ?_)
  have hv := x1.adr_inv
  subst hv
  refine Calls.callWith_function (o := ob) (fd := fd) (evalArgs_pl pl (ta hA hs (S.after a1) h1 fun vs s2 a2 x2 => ?_))
  have S2 := (S.after a1).after a2
  exact ⟨⟨S2.glo.obs fa ob hob, hfd⟩, ho hA S2.glo S.zM S2.Ml x2 hf fun v s3 a3 x3 => h v s3 ((a1.trans a2).trans a3) x3⟩
/-- a method of a text -/
theorem tr_meth {e : Expr} {name : Str} {apos pos : Pos} {args : List Expr} {id : String} {pls : Env → Sem Bool} {f : Rho → Option D} {g : Rho → Option (List D)} {o : List D → Option D} (te : TrM b c n sc e f) (ta : TrEs b c n sc args g)
    (hgm : ∀ {M : Model} {A : Around} {E : Value → Shared → Prop} {s : Shared} {x : Str} {t : Tok} {pl : Sem Bool} {Q : Value × List Value → Shared → Prop}, Q (.builtin id, [.str x t]) s → wpAny M A (getMethod (.str x t) name pl) Q E s)
    (ho : ActL c n (fun vs => call (.builtin id) vs) o) (pl : Plain args)
    (he : ∀ env, eval (.Call (.Attribute e name apos) args [] pos) env = (do
      let ov ← eval e env
      standAt apos.atName
      let (f, first) ← holding [ov] (getMethod ov name (pls env))
      callWith pos f first (backTo pos (starEach args env)) [])) :
    TrM b c n sc (.Call (.Attribute e name apos) args [] pos) (fun r => (f r).bind fun d => match d with | .str x => (g r).bind fun l => o (.str x :: l) | _ => none) := fun _ _ _ _ _ _ _ _ _ _ _ _ _ _ hA hs S hf h => by
  obtain ⟨d, h1, hf⟩ := bind_some hf
  cases d <;> try (cases hf; done)
  rename_i x
  obtain ⟨ds, h2, hf⟩ := bind_some hf
  refine MethodCall_ (te hA hs S h1 fun v s1 a1 x1 => ?_) (he _)
  obtain ⟨t, rfl⟩ := x1.str_inv
  refine hgm ?_
  refine Calls.callWith_builtin (pl _ _).1 (evalArgs_pl pl (ta hA hs (S.after a1) h2 fun vs s2 a2 x2 => ?_))
  have S2 := (S.after a1).after a2
  exact ho hA S2.glo S.zM S2.Ml (.cons .str x2) hf fun v s3 a3 x3 => h v s3 ((a1.trans a2).trans a3) x3

/-! ### items and cuts -/
theorem wp_Sub {prog : Program} {w : World} {A : Around} {E : Value → Shared → Prop} {s : Shared} {env : Env} {value slice : Expr} {pos : Pos} {Q : Value → Shared → Prop}
    (h : wpAny (model prog w) A (eval value env) (fun o s₁ => wpAny (model prog w) A (eval slice env) (fun i s₂ => ∃ T id, s₂.TypeIs o T ∧ typeLookup (.type T) "__getitem__" = pure (some (.builtin id)) ∧ (∀ r, letTemporaryGo value o r = pure ()) ∧ wpAny (model prog w) A (getItem o i) Q E s₂) E s₁) E s)
    (hs : ∀ o i, subscripted slice false o i = operate [o, i] (getItem o i)) : wpAny (model prog w) A (eval (.Subscript value slice pos) env) Q E s := by
  rw [eval_Subscript]
  refine wpAny_bind (wpAny_mono h (fun o s₁ h₁ => wpAny_bind (wpAny_holding (wpAny_mono h₁ (fun i s₂ h₂ => wpAny_bind (wpAny_standAt ?_)) fun _ _ x => x))) fun _ _ x => x)
  obtain ⟨T, id, hT, hl, ht, hg⟩ := h₂
  have fin : wpAny (model prog w) A (subscripted slice false o i >>= fun r => letTemporaryGo value o r >>= fun _ => pure r) Q E s₂ := by
    rw [hs]
    exact wpAny_bind (wpAny_operating (wpAny_mono hg (fun r s₃ h₃ => wpAny_bind (wpAny_of_eq (ht r) (wpAny_pure h₃))) fun _ _ x => x))
  refine wpAny_bind ?_
  rw [getitemInPython_of_ne hT.not_modules]
  refine wpAny_bind (wpAny_specialOf hT hl ?_)
  exact wpAny_pure fin

def oIdx : D → D → Option D
  | .str x, .int i => if -big < i ∧ i < big then ((seqIndex? i x.length).bind (x.cps[·]?)).map fun k => .str ⟨#[k]⟩ else none
  | .list l, .int i => if l.length ≤ lim then (seqIndex? i l.length).bind (l[·]?) else none
  | _, _ => none
theorem oIdx_inv {da di d : D} (h : oIdx da di = some d) : ∃ i, di = .int i ∧ ((∃ x, da = .str x ∧ (-big < i ∧ i < big) ∧ ∃ k, (seqIndex? i x.length).bind (x.cps[·]?) = some k ∧ d = .str ⟨#[k]⟩) ∨
    ∃ l, da = .list l ∧ l.length ≤ lim ∧ ∃ j, seqIndex? i l.length = some j ∧ l[j]? = some d) := by
  cases da with
  | str x =>
    cases di with
    | int i =>
      by_cases hl : -big < i ∧ i < big
      · have e : oIdx (.str x) (.int i) = ((seqIndex? i x.length).bind (x.cps[·]?)).map fun k => .str ⟨#[k]⟩ := if_pos hl
        obtain ⟨k, hk, rfl⟩ := Option.map_eq_some_iff.mp (e.symm.trans h)
        exact ⟨i, rfl, .inl ⟨x, rfl, hl, k, hk, rfl⟩⟩
      · cases (if_neg hl : oIdx (.str x) (.int i) = none).symm.trans h
    | _ => cases h
  | list l =>
    cases di with
    | int i =>
      by_cases hl : l.length ≤ lim
      · have e : oIdx (.list l) (.int i) = (seqIndex? i l.length).bind (l[·]?) := if_pos hl
        obtain ⟨j, h1, h2⟩ := bind_some (e.symm.trans h)
        exact ⟨i, rfl, .inr ⟨l, rfl, hl, j, h1, h2⟩⟩
      · cases (if_neg hl : oIdx (.list l) (.int i) = none).symm.trans h
    | _ => cases h
  | _ => cases h
theorem act_idx {prog : Program} {w : World} {A : Around} {E : Value → Shared → Prop} {s : Shared} {Q : Value → Shared → Prop} {a i : Value} {da di d : D} {X : List Addr}
    (ra : R (LP s.heap X) a da) (ri : R (LP s.heap X) i di) (ho : oIdx da di = some d) (h : ∀ v s', After c s s' → R (LP s'.heap X) v d → Q v s') : wpAny (model prog w) A (getItem a i) Q E s := by
  have hlim := lim_eq
  obtain ⟨i, rfl, ⟨x, rfl, hl, k, hk, rfl⟩ | ⟨ds, rfl, hll, j, h1, h2⟩⟩ := oIdx_inv ho
  · obtain ⟨t, rfl⟩ := ra.str_inv
    obtain ⟨u, rfl⟩ := ri.int_inv
    have hb := big_eq
    refine PyProof.Rows.getItem_str ?_ hk (h _ _ (After.tok c _ _) .str)
    rw [Bool.or_eq_false_iff]
    exact ⟨decide_eq_false (by lia), decide_eq_false (by lia)⟩
  · obtain ⟨l, vs, rfl, p, r⟩ := ra.list_inv
    obtain ⟨u, rfl⟩ := ri.int_inv
    have hlen := Rs.length r
    have hsz : vs.size = ds.length := by rw [← hlen]; simp
    obtain ⟨v, e1, e2⟩ := Rs.get r j d h2
    have e3 : vs[j]? = some v := by simpa using e1
    unfold seqIndex? at h1
    by_cases h0 : i < 0
    · rw [if_pos h0] at h1
      dsimp only at h1
      split at h1
      · rename_i hc
        rw [Bool.and_eq_true, decide_eq_true_eq, decide_eq_true_eq] at hc
        cases h1
        refine wpAny_getItem_list_neg p.1 h0 (by lia) (by lia) (x := v) ?_ (h v s (After.refl c s) e2)
        rw [hsz]; exact e3
      · cases h1
    · rw [if_neg h0] at h1
      dsimp only at h1
      split at h1
      · rename_i hc
        rw [Bool.and_eq_true, decide_eq_true_eq, decide_eq_true_eq] at hc
        cases h1
        exact wpAny_getItem_list p.1 (by lia) (by lia) e3 (h v s (After.refl c s) e2)
      · cases h1
def strOrList : D → Prop
  | .str _ => True
  | .list _ => True
  | _ => False
theorem typeIs_seq {s : Shared} {X : List Addr} {a : Value} {da : D} (ra : R (LP s.heap X) a da) (h : strOrList da) : ∃ T id, s.TypeIs a T ∧ typeLookup (.type T) "__getitem__" = pure (some (.builtin id)) := by
  cases da with
  | str x =>
    obtain ⟨t, rfl⟩ := ra.str_inv
    exact ⟨"str", _, typeIs_str _ _ _, PySem.F.slot_str_getitem.lookup⟩
  | list l =>
    obtain ⟨a, vs, rfl, p, r⟩ := ra.list_inv
    exact ⟨"list", _, p.1.typeIs, slot_list_getitem.lookup⟩
  | _ => exact h.elim
theorem oIdx_seq {da di d : D} (h : oIdx da di = some d) : strOrList da := by
  obtain ⟨i, _, ⟨x, rfl, _⟩ | ⟨ds, rfl, _⟩⟩ := oIdx_inv h
  · exact trivial
  · exact trivial
theorem letGo_str (value : Expr) (x : Str) (t : Tok) (r : Value) : letTemporaryGo value (.str x t) r = pure () := by
  unfold letTemporaryGo
  cases value <;> rfl
theorem letGo_of {s : Shared} {X : List Addr} {a : Value} {da : D} (value : Expr) (ra : R (LP s.heap X) a da) (hv : ∀ o r, letTemporaryGo value o r = pure () ∨ ∃ x t, o = .str x t) (r : Value) : letTemporaryGo value a r = pure () := by
  rcases hv a r with h | ⟨x, t, rfl⟩
  · exact h
  · exact letGo_str _ _ _ _
/-- an item; the value's expression is a name -/
theorem tr_idx {x : Str} {p : Pos} {i : Expr} {pos : Pos} {f g : Rho → Option D} (tv : TrM b c n sc (.Name x p) f) (ti : TrM b c n sc i g)
    (hs : ∀ o v, subscripted i false o v = operate [o, v] (getItem o v) := by intro _ _; rfl) :
    TrM b c n sc (.Subscript (.Name x p) i pos) (fun r => (f r).bind fun d => (g r).bind fun k => oIdx d k) := fun _ _ _ _ _ _ _ _ _ _ _ _ _ _ hA hsc S hf h => by
  obtain ⟨da, h1, hf⟩ := bind_some hf
  obtain ⟨di, h2, hf⟩ := bind_some hf
  refine wp_Sub (tv hA hsc S h1 fun a s1 a1 x1 => ti hA hsc (S.after a1) h2 fun k s2 a2 x2 => ?_) hs
  have x1' := S.mvM a2 x1
  obtain ⟨T, id, q1, q2⟩ := typeIs_seq x1' (oIdx_seq hf)
  exact ⟨T, id, q1, q2, fun _ => rfl, act_idx x1' x2 hf fun v s3 a3 x3 => h v s3 ((a1.trans a2).trans a3) x3⟩
def strOnly : D → Option D
  | .str x => some (.str x)
  | _ => none
end
end Mine
end SLa5

/-! La6 -/
noncomputable section SLa6
namespace Mine

def cutL {α : Type} (l : List α) (lo hi : Option Int) : List α := (l.drop (lo.elim 0 (clipAt l.length))).take (hi.elim l.length (clipAt l.length) - lo.elim 0 (clipAt l.length))
def cutS (x : Str) (lo hi : Option Int) : Str := ⟨(cutL x.cps.toList lo hi).toArray⟩
theorem strSlice_bounds (lo hi : Option Int) (n : Nat) : Builtin.Str.strSliceIndices lo hi 1 n = (List.range (hi.elim n (clipAt n) - lo.elim 0 (clipAt n))).map (lo.elim 0 (clipAt n) + ·) := by
  rw [← sliceRange_one]
  cases lo <;> cases hi <;> simp [Builtin.Str.strSliceIndices, clipAt_cast]
theorem take_all {α : Type} {l : List α} {a k : Nat} (h : ((l.drop a).take k).length = l.length) : (l.drop a).take k = l := by
  rw [List.length_take, List.length_drop] at h
  by_cases ha : a = 0
  · subst ha
    rw [List.drop_zero]
    exact List.take_of_length_le (by lia)
  · have : l.length = 0 := by lia
    have : l = [] := List.eq_nil_of_length_eq_zero this
    subst this; simp
theorem slice_text (x : Str) (lo hi : Option Int) : ((Builtin.Str.strSliceIndices lo hi 1 x.length).filterMap (x.cps[·]?)).toArray = (cutS x lo hi).cps := by
  rw [strSlice_bounds, pick_run]
  show _ = (cutL x.cps.toList lo hi).toArray
  unfold cutL
  simp only [Array.length_toList]
  rfl

section
variable {c : Cx} {n : Nat} {sc : Scope} {b : Bool}

/-- a part of a cut -/
def asPart : D → Option (Option Int)
  | .none => some Option.none
  | .int i => some (some i)
  | _ => Option.none
def TrP (b : Bool) (c : Cx) (n : Nat) (sc : Scope) (e : Option Expr) (f : Rho → Option (Option Int)) : Prop :=
  ∀ ⦃prog : Program⦄ ⦃w : World⦄ ⦃A : Around⦄ ⦃E : Value → Shared → Prop⦄ ⦃X0 : List Addr⦄ ⦃s0 : Shared⦄ ⦃env : Env⦄ ⦃gd : List (Addr × Obj)⦄ ⦃hid : List (Value × D)⦄ ⦃ow : List (Str × Addr)⦄ ⦃r : Rho⦄ ⦃s : Shared⦄ ⦃Q : Value → Shared → Prop⦄ ⦃d : Option Int⦄,
    AOk n A → env.scope = sc → St c X0 s0 env gd hid ow r s → f r = some d →
    (∀ v s', After c s s' → IsPart v d → (∃ l, v = partValue l ∧ l.map (·.1) = d) → Q v s') → wpAny (model prog w) A (evalPart e env) Q E s
theorem trP_none : TrP b c n sc none (fun _ => some none) := fun _ _ _ _ _ _ _ _ _ _ _ _ _ _ hA hs S hf h => by
  first | obtain ⟨rfl, rfl⟩ := some_pair hf | obtain rfl := some_one hf | cases hf
  rw [evalPart_none]
  exact wpAny_pure (h _ _ (After.refl c _) .none ⟨none, rfl, rfl⟩)
theorem trP_some {e : Expr} {f : Rho → Option D} (t : TrM b c n sc e f) : TrP b c n sc (some e) (fun r => (f r).bind asPart) := fun _ _ _ _ _ _ _ _ _ _ _ _ _ _ hA hs S hf h => by
  obtain ⟨d, h1, hf⟩ := bind_some hf
  rw [evalPart_some]
  refine t hA hs S h1 fun v s1 a1 x1 => ?_
  cases d with
  | none => obtain rfl := x1.none_inv; (first | obtain ⟨rfl, rfl⟩ := some_pair hf | obtain rfl := some_one hf | cases hf); exact h _ _ a1 .none ⟨none, rfl, rfl⟩
  | int i => obtain ⟨t, rfl⟩ := x1.int_inv; (first | obtain ⟨rfl, rfl⟩ := some_pair hf | obtain rfl := some_one hf | cases hf); exact h _ _ a1 (.int _ _) ⟨some (_, _), rfl, rfl⟩
  | _ => cases hf

def oCut (d : D) (lo hi : Option Int) : Option D := match d with
  | .str x => if x.length ≤ lim then some (.str (cutS x lo hi)) else none
  | .list l => if l.length ≤ lim then some (.list (cutL l lo hi)) else none
  | _ => none
theorem cutL_length_le {α : Type} (l : List α) (lo hi : Option Int) : (cutL l lo hi).length ≤ l.length := by
  unfold cutL
  rw [List.length_take, List.length_drop]
  lia
theorem Rs.cut {P : Addr → Array Value → Prop} {vs : List Value} {ds : List D} (r : Rs P vs ds) (lo hi : Option Int) : Rs P (cutL vs lo hi) (cutL ds lo hi) := by
  have e := Rs.length r
  have dr : ∀ (k : Nat) {vs : List Value} {ds : List D}, Rs P vs ds → Rs P (vs.drop k) (ds.drop k) := by
    intro k
    induction k with
    | zero => intro vs ds r; exact r
    | succ k ih =>
      intro vs ds r
      cases r with
      | nil => exact .nil
      | cons _ q => exact ih q
  have tk : ∀ (k : Nat) {vs : List Value} {ds : List D}, Rs P vs ds → Rs P (vs.take k) (ds.take k) := by
    intro k
    induction k with
    | zero => intro vs ds r; simp; exact .nil
    | succ k ih =>
      intro vs ds r
      cases r with
      | nil => exact .nil
      | cons x q => exact .cons x (ih q)
  unfold cutL
  rw [e]
  exact tk _ (dr _ r)
theorem act_cutS {prog : Program} {w : World} {A : Around} {E : Value → Shared → Prop} {s : Shared} {Q : Value → Shared → Prop} {x : Str} {t : Tok} {vl vu : Value} {lo hi : Option Int} {a : Addr}
    (hsl : s.heap.get? a = some { cls := .type "slice", data := .fields #[vl, vu, .none] }) (hl : ∃ l, vl = partValue l ∧ l.map (·.1) = lo) (hu : ∃ l, vu = partValue l ∧ l.map (·.1) = hi) (hsz : x.length ≤ lim)
    (h : ∀ t' tk, Q (.str (cutS x lo hi) t') { s with toks := tk }) : wpAny (model prog w) A (getItem (.str x t) (.ref a)) Q E s := by
  obtain ⟨l, rfl, rfl⟩ := hl
  obtain ⟨u, rfl, rfl⟩ := hu
  refine wpAny_getItem_str_slice (l := l) (u := u) (st := none) ⟨_, hsl, rfl, rfl⟩ rfl ?_
  have e1 := slice_text x (l.map (·.1)) (u.map (·.1))
  unfold sliceMade slicePicked
  simp only [Option.map_none, Option.getD_none, beq_self_eq_true, Bool.true_and]
  split
  · rename_i hlen
    have hlen' : (Builtin.Str.strSliceIndices (l.map (·.1)) (u.map (·.1)) 1 x.length).length = x.length := by simpa using hlen
    have e3 : cutL x.cps.toList (l.map (·.1)) (u.map (·.1)) = x.cps.toList := by
      have hl2 : (cutL x.cps.toList (l.map (·.1)) (u.map (·.1))).length = x.cps.toList.length := by
        rw [strSlice_bounds, List.length_map, List.length_range] at hlen'
        unfold cutL
        simp only [Array.length_toList, List.length_take, List.length_drop]
        have : x.length = x.cps.size := rfl
        rw [← this]
        have b1 : ∀ (o : Option Int) , o.elim x.length (clipAt x.length) ≤ x.length := by
          intro o
          cases o with
          | none => exact Nat.le_refl _
          | some i => show clipAt x.length i ≤ x.length; unfold clipAt; omega
        have := b1 (u.map (·.1))
        lia
      exact take_all hl2
    have e4 : cutS x (l.map (·.1)) (u.map (·.1)) = x := by
      unfold cutS
      rw [e3]
    have := h t s.toks
    rw [e4] at this
    exact this
  · refine ⟨?_, ?_⟩
    · show Array.size _ ≤ sizeLine
      rw [e1]
      have := cutL_length_le x.cps.toList (l.map (·.1)) (u.map (·.1))
      have e5 : (cutS x (l.map (·.1)) (u.map (·.1))).cps.size = (cutL x.cps.toList (l.map (·.1)) (u.map (·.1))).length := by unfold cutS; simp
      rw [e5]
      refine Nat.le_trans this (Nat.le_trans ?_ lim_le)
      rw [Array.length_toList]
      exact hsz
    · have := h s.toks (s.toks + 1)
      have e6 : (⟨((Builtin.Str.strSliceIndices (l.map (·.1)) (u.map (·.1)) 1 x.length).filterMap (x.cps[·]?)).toArray⟩ : Str) = cutS x (l.map (·.1)) (u.map (·.1)) := by rw [e1]
      rw [e6]
      exact this

/-- a cut x[lo:hi] -/
theorem tr_cut {e : Expr} {lo hi : Option Expr} {p pos : Pos} {f : Rho → Option D} {g k : Rho → Option (Option Int)} (tv : TrM b c n sc e f) (tl : TrP b c n sc lo g) (tu : TrP b c n sc hi k)
    (hv : ∀ o r, letTemporaryGo e o r = pure () ∨ ∃ x t, o = .str x t := by intro _ _; exact .inl rfl) :
    TrM b c n sc (.Subscript e (.Slice lo hi none p) pos) (fun r => (f r).bind fun d => (g r).bind fun l => (k r).bind fun u => oCut d l u) := fun {prog w A E X0 s0 env gd hid ow r s Q d} hA hsc S hf h => by
  obtain ⟨da, h1, hf⟩ := bind_some hf
  obtain ⟨dl, h2, hf⟩ := bind_some hf
  obtain ⟨du, h3, hf⟩ := bind_some hf
  rw [eval_Subscript]
  refine wpAny_bind (tv hA hsc S h1 fun a s1 a1 x1 => wpAny_bind (wpAny_holding (wpAny_Slice (tl hA hsc (S.after a1) h2 fun vl s2 a2 p2 q2 => tu hA hsc ((S.after a1).after a2) h3 fun vu s3 a3 p3 q3 => ?_))))
  rw [evalPart_none]
  refine wpAny_pure (wpAny_bind (wpAny_standAt ?_))
  have S3 := ((S.after a1).after a2).after a3
  have ap : After c s3 { s3 with heap := s3.heap.push { cls := .type "slice", data := .fields #[vl, vu, .none] } } := After.push c s3 _ s3.toks
  have S4 := S3.after ap
  have x1' := S.mvM ((a2.trans a3).trans ap) x1
  have hseq : strOrList da := by cases da <;> first | exact trivial | cases hf
  obtain ⟨T, id, hT, hl⟩ := typeIs_seq x1' hseq
  have hgo : ∀ r, letTemporaryGo e a r = pure () := letGo_of e x1' hv
  have key : wpAny (model prog w) A (getItem a (.ref s3.heap.objs.size)) (fun r s5 => wpAny (model prog w) A (letTemporaryGo e a r >>= fun _ => pure r) Q E s5) E { s3 with heap := s3.heap.push { cls := .type "slice", data := .fields #[vl, vu, .none] } } := by
    cases da <;> try (cases hf; done)
    case str x =>
      obtain ⟨t, rfl⟩ := x1'.str_inv
      change (if _ then _ else _) = _ at hf
      split at hf
      · rename_i hsz
        first | obtain ⟨rfl, rfl⟩ := some_pair hf | obtain rfl := some_one hf | cases hf
        refine act_cutS (Heap.get?_push_size _ rfl) q2 q3 hsz fun t' tk => wpAny_bind (wpAny_of_eq (hgo _) (wpAny_pure (h _ _ (((a1.trans a2).trans a3).trans (ap.tk tk)) .str)))
      · first | obtain ⟨rfl, rfl⟩ := some_pair hf | obtain rfl := some_one hf | cases hf
    case list ds =>
      obtain ⟨l, vs, rfl, pl, pr⟩ := x1'.list_inv
      change (if _ then _ else _) = _ at hf
      split at hf
      · rename_i hsz
        first | obtain ⟨rfl, rfl⟩ := some_pair hf | obtain rfl := some_one hf | cases hf
        have hsz' : vs.size ≤ sizeLine := by
          have := Rs.length pr
          simp only [Array.length_toList] at this
          rw [this]; exact Nat.le_trans hsz lim_le
        refine wpAny_getItem_list_slice pl.1 (Heap.IsSliceOf.new ..) p2 p3 .none (by simp) ?_ hsz'
        refine wpAny_bind (wpAny_of_eq (hgo _) (wpAny_pure (h _ _ (((a1.trans a2).trans a3).trans (ap.trans (After.push c _ _ _))) ?_)))
        refine After.new (fun x hx => S4.Ml x hx) ?_ S.zM
        rw [slicePick_plain]
        have := Rs.cut pr dl du
        unfold cutL at this
        simp only [Array.length_toList] at this
        unfold cutL
        simpa using this
      · first | obtain ⟨rfl, rfl⟩ := some_pair hf | obtain rfl := some_one hf | cases hf
  refine wpAny_bind ?_
  rw [getitemInPython_of_ne hT.not_modules]
  refine wpAny_bind (wpAny_specialOf hT hl ?_)
  exact wpAny_pure (wpAny_bind (wpAny_operating key))
end
end Mine
end SLa6

/-! La7 -/
noncomputable section SLa7
namespace Mine

/-- the ints of a list, the texts of a list -/
def intsOf : List D → Option (List Int)
  | [] => some []
  | .int i :: r => (intsOf r).map (i :: ·)
  | _ :: _ => none
def strsOf : List D → Option (List Str)
  | [] => some []
  | .str i :: r => (strsOf r).map (i :: ·)
  | _ :: _ => none
theorem Rs.ints {P : Addr → Array Value → Prop} {vs : List Value} {ds : List D} {ns : List Int} (q : Rs P vs ds) (h : intsOf ds = some ns) : ∃ xs : List (Int × Tok), vs = xs.map (fun p => .int p.1 p.2) ∧ xs.map (·.1) = ns :=
  Rs.ind (M := fun vs ds => ∀ ns, intsOf ds = some ns → ∃ xs : List (Int × Tok), vs = xs.map (fun p => .int p.1 p.2) ∧ xs.map (·.1) = ns) (fun ns h => by cases h; exact ⟨[], rfl, rfl⟩) (fun {v d vs ds} r _ ih ns h => by
    cases d <;> try (cases h; done)
    rename_i i
    obtain ⟨ms, hd, rfl⟩ := Option.map_eq_some_iff.mp (show (intsOf ds).map (i :: ·) = some ns from h)
    obtain ⟨t, rfl⟩ := r.int_inv
    obtain ⟨xs, rfl, rfl⟩ := ih ms hd
    exact ⟨(i, t) :: xs, rfl, rfl⟩) q ns h
theorem Rs.strs {P : Addr → Array Value → Prop} {vs : List Value} {ds : List D} {ns : List Str} (q : Rs P vs ds) (h : strsOf ds = some ns) : StrsAre vs ns :=
  Rs.ind (M := fun vs ds => ∀ ns, strsOf ds = some ns → StrsAre vs ns) (fun ns h => by cases h; exact .nil) (fun {v d vs ds} r _ ih ns h => by
    cases d <;> try (cases h; done)
    rename_i i
    obtain ⟨ms, hd, rfl⟩ := Option.map_eq_some_iff.mp (show (strsOf ds).map (i :: ·) = some ns from h)
    obtain ⟨t, rfl⟩ := r.str_inv
    exact .cons _ _ (ih ms hd)) q ns h

def oLen : List D → Option D
  | [.str x] => if x.length ≤ lim then some (.int x.length) else none
  | [.list l] => if l.length ≤ lim then some (.int l.length) else none
  | _ => none
def oMin : List D → Option D
  | [.int a, .int b] => some (.int (if b < a then b else a))
  | [.list l] => (intsOf l).bind fun ns => ns.min?.map .int
  | _ => none
def oIsStr : List D → Option D
  | [.str _, .ty "str"] => some (.bool true)
  | _ => none
def oType : List D → Option D
  | [.int _] => some (.ty "int")
  | _ => none
def oLower : List D → Option D
  | [.str x] => if x.length ≤ lim then some (.str (Txt.lower x)) else none
  | _ => none
def oJoin : List D → Option D
  | [.str x, .list l] => (strsOf l).bind fun ys => if (ys.map (·.length)).sum + ys.length * x.length ≤ lim then some (.str (Txt.join x ys)) else none
  | _ => none
/-- is: only between what can be told apart for sure -/
def oIs : D → D → Option D
  | .none, .none => some (.bool true)
  | .ty a, .ty b => some (.bool (a == b))
  | .adr a, .adr b => if a = b then some (.bool true) else none
  | .adr _, .none => some (.bool false)
  | .str _, .none => some (.bool false)
  | .int _, .none => some (.bool false)
  | .list _, .none => some (.bool false)
  | .str _, .adr _ => some (.bool false)
  | .none, .adr _ => some (.bool false)
  | _, _ => none
def oIsNot (a b : D) : Option D := (oIs a b).bind fun d => (asB d).map fun t => .bool (!t)

section
variable {c : Cx} {n : Nat} {sc : Scope} {b : Bool}

theorem act_len : ActL c n (fun vs => call (.builtin "len") vs) oLen := fun {prog w A E s Q vs ds d X} hA G hz hX ra ho h => by
  unfold oLen at ho
  split at ho
  · rename_i x
    split at ho
    · rename_i hl
      first | obtain ⟨rfl, rfl⟩ := some_pair ho | obtain rfl := some_one ho | cases ho
      obtain ⟨v, rfl, r⟩ := ra.one_inv
      obtain ⟨t, rfl⟩ := r.str_inv
      have : lim = 1000000 := lim_eq
      exact PyProof.Rows.len_str (by lia) (h _ _ (After.tok c _ _) .int)
    · first | obtain ⟨rfl, rfl⟩ := some_pair ho | obtain rfl := some_one ho | cases ho
  · rename_i l
    split at ho
    · rename_i hl
      first | obtain ⟨rfl, rfl⟩ := some_pair ho | obtain rfl := some_one ho | cases ho
      obtain ⟨v, rfl, r⟩ := ra.one_inv
      obtain ⟨a, vs, rfl, p, q⟩ := r.list_inv
      have e := Rs.length q
      simp only [Array.length_toList] at e
      rw [← e] at h hl
      have : lim = 1000000 := lim_eq
      exact Calls.call_len_list p.1 (by lia) (h _ _ (After.tok c _ _) .int)
    · first | obtain ⟨rfl, rfl⟩ := some_pair ho | obtain rfl := some_one ho | cases ho
  · first | obtain ⟨rfl, rfl⟩ := some_pair ho | obtain rfl := some_one ho | cases ho
theorem min_of {ns : List Int} {M : Int} (h1 : M ∈ ns) (h2 : ∀ a ∈ ns, M ≤ a) : ns.min? = some M := List.min?_eq_some_iff.mpr ⟨h1, h2⟩
theorem act_min : ActL c n (fun vs => call (.builtin "min") vs) oMin := fun {prog w A E s Q vs ds d X} hA G hz hX ra ho h => by
  unfold oMin at ho
  split at ho
  · rename_i a b
    first | obtain ⟨rfl, rfl⟩ := some_pair ho | obtain rfl := some_one ho | cases ho
    obtain ⟨v, w, rfl, r1, r2⟩ := ra.two_inv
    obtain ⟨t, rfl⟩ := r1.int_inv
    obtain ⟨u, rfl⟩ := r2.int_inv
    refine min_two_ints hA.hd fun h' tk hk => h _ _ (After.heap tk (Ext.of hk)) ?_
    split <;> exact .int
  · rename_i l
    obtain ⟨ns, h1, h2⟩ := bind_some ho
    obtain ⟨v, rfl, r⟩ := ra.one_inv
    obtain ⟨a, vs, rfl, p, q⟩ := r.list_inv
    obtain ⟨xs, e1, e2⟩ := Rs.ints q h1
    have e3 : vs = intItems xs.toArray := by
      apply Array.ext'
      rw [e1]; simp [intItems]
    cases hm : ns.min? with
    | none => rw [hm] at h2; cases h2
    | some M =>
      rw [hm] at h2
      cases h2
      have hpos : 0 < xs.toArray.size := by
        rcases Nat.eq_zero_or_pos xs.toArray.size with e | e
        · have : xs = [] := by simpa using e
          subst this
          subst e2
          cases hm
        · exact e
      refine min_intList hA.hd (e3 ▸ p.1) hpos fun v h' tk hv hk => h v _ (After.heap tk (Ext.of hk)) ?_
      obtain ⟨t, rfl⟩ := intItems_at hv
      obtain ⟨g1, g2⟩ := argBest_lt (numAt xs.toArray) (xs.toArray.size - 1)
      have hns : ns = xs.toArray.toList.map (·.1) := by rw [← e2]
      have hM : numAt xs.toArray (argBest (fun i j => decide (numAt xs.toArray i < numAt xs.toArray j)) (xs.toArray.size - 1)) = M := by
        have key := min_of (ns := ns) (M := numAt xs.toArray (argBest (fun i j => decide (numAt xs.toArray i < numAt xs.toArray j)) (xs.toArray.size - 1))) ?_ ?_
        · rw [hm] at key; exact (Option.some.inj key).symm
        · rw [hns, numAt_eq]; exact getD_mem (by rw [List.length_map, Array.length_toList]; omega)
        · intro a ha
          rw [hns] at ha
          obtain ⟨j, hj, rfl⟩ := mem_getD ha
          rw [List.length_map, Array.length_toList] at hj
          rw [← numAt_eq]; exact g2 j (by lia)
      rw [hM]
      exact .int
  · first | obtain ⟨rfl, rfl⟩ := some_pair ho | obtain rfl := some_one ho | cases ho
theorem act_isStr : ActL c n (fun vs => call (.builtin "isinstance") vs) oIsStr := fun {prog w A E s Q vs ds d X} hA G hz hX ra ho h => by
  unfold oIsStr at ho
  split at ho
  · first | obtain ⟨rfl, rfl⟩ := some_pair ho | obtain rfl := some_one ho | cases ho
    obtain ⟨v, w, rfl, r1, r2⟩ := ra.two_inv
    obtain ⟨t, rfl⟩ := r1.str_inv
    have : w = .type "str" := r2.ty_inv
    subst this
    exact IsiPair.str_str (h _ _ (After.refl c _) .bool)
  · first | obtain ⟨rfl, rfl⟩ := some_pair ho | obtain rfl := some_one ho | cases ho
theorem act_type : ActL c n (fun vs => call (.type "type") vs) oType := fun {prog w A E s Q vs ds d X} hA G hz hX ra ho h => by
  unfold oType at ho
  split at ho
  · first | obtain ⟨rfl, rfl⟩ := some_pair ho | obtain rfl := some_one ho | cases ho
    obtain ⟨v, rfl, r1⟩ := ra.one_inv
    obtain ⟨t, rfl⟩ := r1.int_inv
    exact call_type_of (typeIs_int s _ t) (by decide) (h _ _ (After.refl c _) .ty)
  · first | obtain ⟨rfl, rfl⟩ := some_pair ho | obtain rfl := some_one ho | cases ho
theorem act_lower : ActL c n (fun vs => call (.builtin "str.lower") vs) oLower := fun {prog w A E s Q vs ds d X} hA G hz hX ra ho h => by
  unfold oLower at ho
  split at ho
  · split at ho
    · rename_i hl
      first | obtain ⟨rfl, rfl⟩ := some_pair ho | obtain rfl := some_one ho | cases ho
      obtain ⟨v, rfl, r1⟩ := ra.one_inv
      obtain ⟨t, rfl⟩ := r1.str_inv
      have : lim = 1000000 := lim_eq
      exact PyProof.Rows.SCL.lower (by lia) fun _ => h _ _ (After.tok c _ _) .str
    · first | obtain ⟨rfl, rfl⟩ := some_pair ho | obtain rfl := some_one ho | cases ho
  · first | obtain ⟨rfl, rfl⟩ := some_pair ho | obtain rfl := some_one ho | cases ho
theorem act_join : ActL c n (fun vs => call (.builtin "str.join") vs) oJoin := fun {prog w A E s Q vs ds d X} hA G hz hX ra ho h => by
  unfold oJoin at ho
  split at ho
  · rename_i x l
    obtain ⟨ys, h1, h2⟩ := bind_some ho
    split at h2
    · rename_i hl
      cases h2
      obtain ⟨v, w, rfl, r1, r2⟩ := ra.two_inv
      obtain ⟨t, rfl⟩ := r1.str_inv
      obtain ⟨a, vs, rfl, p, q⟩ := r2.list_inv
      have : lim = 1000000 := lim_eq
      exact PyProof.Rows.join_list p.1 (Rs.strs q h1) (by lia) fun t' k => h _ _ (After.tok c _ _) .str
    · cases h2
  · first | obtain ⟨rfl, rfl⟩ := some_pair ho | obtain rfl := some_one ho | cases ho

theorem oIs_inv {h : Heap} {X : List Addr} {a b : Value} {da db d : D} (ra : R (LP h X) a da) (rb : R (LP h X) b db) (ho : oIs da db = some d) :
    (plainIs a b = true ∧ d = .bool (a == b)) ∨ (∃ p, a = .ref p ∧ b = .ref p ∧ d = .bool true) := by
  cases da with
  | none =>
    have ea := ra.none_inv
    cases db with
    | none => rw [ea, rb.none_inv]; exact .inl ⟨rfl, (Option.some.inj ho).symm⟩
    | adr p => rw [ea, rb.adr_inv]; exact .inl ⟨rfl, (Option.some.inj ho).symm⟩
    | _ => exact nomatch ho
  | ty x => cases db with
    | ty y => rw [ra.ty_inv, rb.ty_inv]; exact .inl ⟨rfl, (Option.some.inj ho).symm.trans (congrArg D.bool (by rw [Bool.eq_iff_iff]; simp))⟩
    | _ => exact nomatch ho
  | adr p =>
    have ea := ra.adr_inv
    cases db with
    | adr q =>
      have ho' : (if p = q then some (D.bool true) else none) = some d := ho
      split at ho'
      · rename_i e; subst e; exact .inr ⟨_, ea, rb.adr_inv, (Option.some.inj ho').symm⟩
      · exact nomatch ho'
    | none => rw [ea, rb.none_inv]; exact .inl ⟨rfl, (Option.some.inj ho).symm⟩
    | _ => exact nomatch ho
  | str x =>
    obtain ⟨t, ea⟩ := ra.str_inv
    cases db with
    | none => rw [ea, rb.none_inv]; exact .inl ⟨rfl, (Option.some.inj ho).symm⟩
    | adr p => rw [ea, rb.adr_inv]; exact .inl ⟨rfl, (Option.some.inj ho).symm⟩
    | _ => exact nomatch ho
  | int x => cases db with
    | none =>
      obtain ⟨t, ea⟩ := ra.int_inv
      rw [ea, rb.none_inv]; exact .inl ⟨rfl, (Option.some.inj ho).symm⟩
    | _ => exact nomatch ho
  | list x => cases db with
    | none =>
      obtain ⟨t, _, ea, _⟩ := ra.list_inv
      rw [ea, rb.none_inv]; exact .inl ⟨rfl, (Option.some.inj ho).symm⟩
    | _ => exact nomatch ho
  | _ => exact nomatch ho
theorem act_is : Act2 c n (compareOp .Is) oIs := fun {prog w A E s Q a b da db d X} hA G hz hX ra rb ho h => by
  rcases oIs_inv ra rb ho with ⟨e, rfl⟩ | ⟨p, rfl, rfl, rfl⟩
  · exact wpAny_is_plain e (h _ _ (After.refl c _) .bool)
  · exact wpAny_is_ref_self (h _ _ (After.refl c _) .bool)
theorem act_isNot : Act2 c n (compareOp .IsNot) oIsNot := fun {prog w A E s Q a b da db d X} hA G hz hX ra rb ho h => by
  obtain ⟨d', h1, h2⟩ := bind_some ho
  rcases oIs_inv ra rb h1 with ⟨e, rfl⟩ | ⟨p, rfl, rfl, rfl⟩
  · cases h2
    exact wpAny_isNot_plain e (h _ _ (After.refl c _) .bool)
  · cases h2
    exact wpAny_isNot_ref_self (h _ _ (After.refl c _) .bool)

/-! ### lists just made -/
theorem trF_m {e : Expr} {f : Rho → Option (List D)} (t : TrF c n sc e f) : TrM b c n sc e (fun r => (f r).map .list) := fun {prog w A E X0 s0 env gd hid ow r s Q d} hA hs S hf h => by
  dsimp only at hf
  cases hd : f r with
  | none => rw [hd] at hf; cases hf
  | some ds =>
    rw [hd] at hf
    first | obtain ⟨rfl, rfl⟩ := some_pair hf | obtain rfl := some_one hf | cases hf
    refine t hA hs S hd fun a vs s' a1 hl hp hr => h _ _ a1 (.list ⟨hp.isList, fun q => hl (S.Ml a q)⟩ (Rs.mono (fun a' vs' l => ⟨l.1, fun q => l.2 ?_⟩) hr))
    cases b with
    | true => exact List.mem_cons_of_mem _ q
    | false => exact List.mem_cons_of_mem _ (List.mem_append_right _ q)
theorem trF_list {es : List Expr} {pos : Pos} {f : Rho → Option (List D)} (t : TrEs true c n sc es f) : TrF c n sc (.List es pos) (fun r => (f r).bind fun l => if l.length ≤ lim then some l else none) := fun _ _ _ _ _ _ _ _ _ _ _ _ _ _ hA hs S hf h => by
  obtain ⟨ds, h1, hf⟩ := bind_some hf
  split at hf
  · rename_i hsz
    first | obtain ⟨rfl, rfl⟩ := some_pair hf | obtain rfl := some_one hf | cases hf
    refine List_ (t hA hs S h1 fun vs s1 a1 x1 => ?_)
    have S1 := S.after a1
    refine wpAny_newObj_type (h _ _ _ (a1.trans (After.push c _ _ _)) (fun q => not_live_size _ (a1.2.live q)) ⟨0, Heap.get?_push_size _ rfl⟩ ?_) ?_
    · refine Rs.mono (fun a vs' l => ?_) x1
      refine ⟨l.1.push _, fun q => ?_⟩
      rcases List.mem_cons.mp q with e | q
      · subst e; exact not_live_size _ (IsList.live l.1)
      · exact l.2 q
    · show vs.toArray.size ≤ sizeLine
      have := Rs.length x1
      rw [List.size_toArray, this]
      exact Nat.le_trans hsz lim_le
  · first | obtain ⟨rfl, rfl⟩ := some_pair hf | obtain rfl := some_one hf | cases hf
theorem tr_list {es : List Expr} {pos : Pos} {f : Rho → Option (List D)} (t : TrEs b c n sc es f) : TrM b c n sc (.List es pos) (fun r => (f r).bind fun l => if l.length ≤ lim then some (.list l) else none) := fun _ _ _ _ _ _ _ _ _ _ _ _ _ _ hA hs S hf h => by
  obtain ⟨ds, h1, hf⟩ := bind_some hf
  split at hf
  · rename_i hsz
    first | obtain ⟨rfl, rfl⟩ := some_pair hf | obtain rfl := some_one hf | cases hf
    refine List_ (t hA hs S h1 fun vs s1 a1 x1 => ?_)
    have S1 := S.after a1
    refine wpAny_newObj_type (h _ _ (a1.trans (After.push c _ _ _)) (After.new S1.Ml x1 S.zM)) ?_
    show vs.toArray.size ≤ sizeLine
    have := Rs.length x1
    rw [List.size_toArray, this]
    exact Nat.le_trans hsz lim_le
  · first | obtain ⟨rfl, rfl⟩ := some_pair hf | obtain rfl := some_one hf | cases hf

/-! ### f-strings -/
def TrJ (c : Cx) (n : Nat) (sc : Scope) (es : List Expr) (f : Rho → Option (List Str)) : Prop :=
  ∀ ⦃prog : Program⦄ ⦃w : World⦄ ⦃A : Around⦄ ⦃E : Value → Shared → Prop⦄ ⦃X0 : List Addr⦄ ⦃s0 : Shared⦄ ⦃env : Env⦄ ⦃gd : List (Addr × Obj)⦄ ⦃hid : List (Value × D)⦄ ⦃ow : List (Str × Addr)⦄ ⦃r : Rho⦄ ⦃s : Shared⦄ ⦃Q : Value → Shared → Prop⦄ ⦃ds : List Str⦄ ⦃out : Str⦄,
    AOk n A → env.scope = sc → St c X0 s0 env gd hid ow r s → f r = some ds → out.length + (ds.map (·.length)).sum ≤ lim →
    (∀ t s', After c s s' → Q (.str (ds.foldl (· ++ ·) out) t) s') → wpAny (model prog w) A (joinParts out (evalEach es env)) Q E s
theorem trJ_nil : TrJ c n sc [] (fun _ => some []) := fun _ _ _ _ _ _ _ _ _ _ _ _ _ _ _ hA hs S hf hl h => by
  first | obtain ⟨rfl, rfl⟩ := some_pair hf | obtain rfl := some_one hf | cases hf
  exact joinParts_nil (h _ _ (After.tok c _ _)) (Nat.le_trans (by simpa using hl) lim_le)
theorem trJ_cons {e : Expr} {es : List Expr} {f : Rho → Option D} {g : Rho → Option (List Str)} (t : TrM b c n sc e f) (u : TrJ c n sc es g) :
    TrJ c n sc (e :: es) (fun r => (f r).bind fun d => match d with | .str x => (g r).map (x :: ·) | _ => none) := fun {prog w A E X0 s0 env gd hid ow r s Q ds out} hA hs S hf hl h => by
  obtain ⟨d, h1, hf⟩ := bind_some hf
  cases d <;> try (cases hf; done)
  rename_i x
  cases hg : g r with
  | none => rw [hg] at hf; cases hf
  | some ds' =>
    rw [hg] at hf
    first | obtain ⟨rfl, rfl⟩ := some_pair hf | obtain rfl := some_one hf | cases hf
    have hl' : (out ++ x).length + (ds'.map (·.length)).sum ≤ lim := by
      rw [strLen_append]
      simp only [List.map_cons, List.sum_cons] at hl
      lia
    show wpAny _ _ (joinParts out (eval e env :: evalEach es env)) Q E s
    refine joinParts_cons (t hA hs S h1 fun v s1 a1 x1 => ?_)
    obtain ⟨tk, rfl⟩ := x1.str_inv
    exact ⟨Nat.le_trans (by lia) lim_le, u hA hs (S.after a1) hg hl' fun t2 s2 a2 => h t2 s2 (a1.trans a2)⟩
theorem tr_fstr {e1 e2 : Expr} {es : List Expr} {pos : Pos} {f : Rho → Option (List Str)} (t : TrJ c n sc (e1 :: e2 :: es) f) :
    TrM b c n sc (.JoinedStr (e1 :: e2 :: es) pos) (fun r => (f r).bind fun l => if (l.map (·.length)).sum ≤ lim then some (.str (l.foldl (· ++ ·) Str.empty)) else none) := fun _ _ _ _ _ _ _ _ _ _ _ _ _ _ hA hs S hf h => by
  obtain ⟨ds, h1, hf⟩ := bind_some hf
  split at hf
  · rename_i hl
    first | obtain ⟨rfl, rfl⟩ := some_pair hf | obtain rfl := some_one hf | cases hf
    exact JoinedStr_many (t hA hs S h1 (by show 0 + _ ≤ _; lia) fun t' s' a => h _ _ a .str)
  · first | obtain ⟨rfl, rfl⟩ := some_pair hf | obtain rfl := some_one hf | cases hf
def strLim : D → Option D
  | .str x => if x.length ≤ lim then some (.str x) else none
  | _ => none
theorem tr_fval {e : Expr} {pos : Pos} {f : Rho → Option D} (t : TrM b c n sc e f) : TrM b c n sc (.FormattedValue e (-1) none pos) (fun r => (f r).bind strLim) := fun _ _ _ _ _ _ _ _ _ _ _ _ _ _ hA hs S hf h => by
  obtain ⟨d, h1, hf⟩ := bind_some hf
  cases d <;> try (cases hf; done)
  change (if _ then _ else _) = _ at hf
  split at hf
  · rename_i hl
    first | obtain ⟨rfl, rfl⟩ := some_pair hf | obtain rfl := some_one hf | cases hf
    refine FormattedValue_plain (t hA hs S h1 fun v s1 a1 x1 => ?_)
    obtain ⟨tk, rfl⟩ := x1.str_inv
    exact formatField_str (fun t' tk' => h _ _ (a1.tk _) .str) (Nat.le_trans hl lim_le)
  · first | obtain ⟨rfl, rfl⟩ := some_pair hf | obtain rfl := some_one hf | cases hf
end
end Mine
end SLa7

/-! La8 -/
noncomputable section SLa8
namespace Mine
section
variable {c : Cx} {n : Nat} {sc : Scope} {b : Bool}

def Sto (sc : Scope) (x : Str) : Prop := sc.names.lookup x = some .local ∨ sc.names.lookup x = some .cell
theorem Sto.of {x : Str} {env : Env} (h : Sto sc x) (hs : env.scope = sc) (hf : FnOk c env) : env.kindOf x = some .local ∨ (env.kindOf x = some .cell ∧ env.func ≠ none) := by
  subst hs
  rcases h with h | h
  · exact .inl h
  · exact .inr ⟨h, hf.ne⟩

theorem trSs_nil : TrSs c n sc [] (fun r => some (r, .next)) := fun _ _ _ _ _ _ _ _ _ _ _ _ _ _ _ hA hs hfn S hf h => by
  (first | obtain ⟨rfl, rfl⟩ := some_pair hf | obtain rfl := some_one hf | cases hf); exact wpAny_execs_nil (h _ _ _ S trivial)
def seqF (f g : Rho → Option (Rho × Fl)) (r : Rho) : Option (Rho × Fl) :=
  (f r).bind fun p => match p.2 with
    | .next => g p.1
    | fl => some (p.1, fl)
theorem trSs_cons {st : Stmt} {es : List Stmt} {f g : Rho → Option (Rho × Fl)} (t : TrS c n sc st f) (u : TrSs c n sc es g) : TrSs c n sc (st :: es) (seqF f g) := fun _ _ _ _ _ _ _ _ _ _ _ _ _ _ _ hA hs hfn S hf h => by
  obtain ⟨⟨r1, f1⟩, h1, hf⟩ := bind_some hf
  refine wpAny_execs_cons (t hA hs hfn S h1 fun f' s' ow' S' hr => ?_)
  cases f1 with
  | next =>
    obtain rfl := hr.next_of
    exact u hA hs hfn S' hf h
  | brk =>
    first | obtain ⟨rfl, rfl⟩ := some_pair hf | obtain rfl := some_one hf | cases hf
    obtain rfl := hr.brk_of
    exact h _ _ _ S' trivial
  | cont =>
    first | obtain ⟨rfl, rfl⟩ := some_pair hf | obtain rfl := some_one hf | cases hf
    obtain rfl := hr.cont_of
    exact h _ _ _ S' trivial
  | ret d =>
    first | obtain ⟨rfl, rfl⟩ := some_pair hf | obtain rfl := some_one hf | cases hf
    obtain ⟨v, rfl, hr⟩ := hr.ret_of
    exact h _ _ _ S' hr

/-- a name is given a value -/
theorem trS_assign {x : Str} {p pos : Pos} {e : Expr} {f : Rho → Option D} (t : TrE c n sc e f) (hk : Sto sc x) (hsw : ∀ env, swapsWith e (some (.Name x p)) pos.line env = pure false := by intro _; rfl) :
    TrS c n sc (.Assign [.Name x p] e pos) (fun r => (f r).bind fun d => some ((r.kill x).put x (.sh d), .next)) := fun _ _ _ _ _ _ _ _ _ _ _ _ _ _ _ hA hs hfn S hf h => by
  obtain ⟨d, h1, hf⟩ := bind_some hf
  first | obtain ⟨rfl, rfl⟩ := some_pair hf | obtain rfl := some_one hf | cases hf
  refine wpAny_Assign_Name (t hA hs S h1 fun v s1 a1 x1 => ?_) (hsw _)
  refine wp_storeName (S.after a1) (hk.of hs hfn) fun h' tk b hw T => ?_
  obtain ⟨⟨h1', tk1, rfl⟩, e1⟩ := a1
  exact h _ _ _ (S.store_sh e1 hw T x1) trivial
/-- a name is given a list that the frame will turn -/
theorem trS_assignO {x : Str} {p pos : Pos} {e : Expr} {f : Rho → Option (List D)} (t : TrF c n sc e f) (hk : Sto sc x) (hsw : ∀ env, swapsWith e (some (.Name x p)) pos.line env = pure false := by intro _; rfl) :
    TrS c n sc (.Assign [.Name x p] e pos) (fun r => (f r).bind fun d => some ((r.kill x).put x (.own d), .next)) := fun _ _ _ _ _ _ _ _ _ _ _ _ _ _ _ hA hs hfn S hf h => by
  obtain ⟨d, h1, hf⟩ := bind_some hf
  first | obtain ⟨rfl, rfl⟩ := some_pair hf | obtain rfl := some_one hf | cases hf
  refine wpAny_Assign_Name (t hA hs S h1 fun a vs s1 a1 hl hp hr => ?_) (hsw _)
  refine wp_storeName (S.after a1) (hk.of hs hfn) fun h' tk b hw T => ?_
  obtain ⟨⟨h1', tk1, rfl⟩, e1⟩ := a1
  exact h _ _ _ (S.store_own e1 hw T hl hp hr) trivial
/-- two names, one value (no list) -/
theorem trS_assign2 {x y : Str} {p q pos : Pos} {e : Expr} {f : Rho → Option D} (t : TrE c n sc e f) (hk : Sto sc x) (hk2 : Sto sc y) (hw : ∀ env, swappedStores [.Name x p, .Name y q] e env = pure none := by intro _; rfl) :
    TrS c n sc (.Assign [.Name x p, .Name y q] e pos) (fun r => ((f r).bind flat?).bind fun d => some ((((r.kill x).put x (.sh d)).kill y).put y (.sh d), .next)) := fun _ _ _ _ _ _ _ _ _ _ _ _ _ _ _ hA hs hfn S hf h => by
  obtain ⟨d, h1, hf⟩ := bind_some hf
  obtain ⟨d', h0, h2⟩ := bind_some h1
  obtain ⟨rfl, hfl⟩ := flat_of h2
  first | obtain ⟨rfl, rfl⟩ := some_pair hf | obtain rfl := some_one hf | cases hf
  refine wpAny_Assign_two (t hA hs S h0 fun v s1 a1 x1 => ?_) rfl (hw _)
  refine wpAny_assign_Name (wp_storeName (S.after a1) (hk.of hs hfn) fun h' tk b hw T => ?_)
  obtain ⟨⟨h1', tk1, rfl⟩, e1⟩ := a1
  have S2 := S.store_sh (tk := tk) e1 hw T x1
  refine wpAny_assign_Name (wp_storeName S2 (hk2.of hs hfn) fun h'' tk' b' hw' T' => ?_)
  exact h _ _ _ (S2.store_sh (Ext.refl c _) hw' T' (x1.flat hfl)) trivial
/-- x, y = (e1, e2), stored from behind -/
theorem trS_tup2 {x y : Str} {p q pos tpos vpos : Pos} {k k' : Nat} {e1 e2 : Expr} {f : Rho → Option (List D)} (t : TrEs true c n sc [e1, e2] f) (hk : Sto sc x) (hk2 : Sto sc y)
    (hs1 : ∀ env, swapsWithSole [.Tuple [.Name x p, .Name y q] k tpos] (.Tuple [e1, e2] k' vpos) pos.line env = pure false := by intro _; rfl)
    (hsw : ∀ env, env.scope = sc → swappedStores [.Tuple [.Name x p, .Name y q] k tpos] (.Tuple [e1, e2] k' vpos) env = pure (some [x, y])) :
    TrS c n sc (.Assign [.Tuple [.Name x p, .Name y q] k tpos] (.Tuple [e1, e2] k' vpos) pos) (fun r => (f r).bind fun l => match l with
      | [d1, d2] => some ((((r.kill y).put y (.sh d2)).kill x).put x (.sh d1), .next)
      | _ => none) := fun {prog w A E X0 s0 env gd hid ow r r' fl s Q} hA hs hfn S hf h => by
  obtain ⟨l, h1, hf⟩ := bind_some hf
  split at hf
  · rename_i d1 d2
    first | obtain ⟨rfl, rfl⟩ := some_pair hf | obtain rfl := some_one hf | cases hf
    refine Assign_Tuple_swapped (names := [x, y]) ?_ (hs1 _) (hsw _ hs)
    refine Tuple_ (t hA hs S h1 fun vs s1 a1 x1 => ?_)
    obtain ⟨v, u, rfl, r1, r2⟩ := x1.two_inv
    have S1 := S.after a1
    refine wpAny_newObj_type ?_ (by show [v, u].toArray.size ≤ sizeLine; rw [sizeLine_eq]; show 2 ≤ _; lia)
    have hT : IsTup (s1.heap.push { cls := .type "tuple", data := .seq [v, u].toArray }) s1.heap.objs.size [v, u].toArray := ⟨_, Heap.get?_push_size _ rfl, rfl, 0, rfl⟩
    refine unpackItems_tuple (items := [v, u].toArray) hA.hd hT fun h' he => ?_
    have a2 : After c s { s1 with heap := h' } := a1.trans (After.heap0 (Ext.of fun b o e => he b o (by
      show b ≠ (s1.heap.push _).objs.size
      rw [Heap.size_push]
      exact Nat.ne_of_lt (Nat.lt_succ_of_lt (Heap.lt_size e))) (Heap.get?_push_of_some _ e)))
    have S2 := S.after a2
    have r1' : R (LP h' (XX ow X0)) v d1 := S.mvM (b := true) (s1 := s1) (s' := { s1 with heap := h' }) (After.heap0 (Ext.of fun b o e => he b o (by
      show b ≠ (s1.heap.push _).objs.size
      rw [Heap.size_push]
      exact Nat.ne_of_lt (Nat.lt_succ_of_lt (Heap.lt_size e))) (Heap.get?_push_of_some _ e))) r1
    have r2' : R (LP h' (XX ow X0)) u d2 := S.mvM (b := true) (s1 := s1) (s' := { s1 with heap := h' }) (After.heap0 (Ext.of fun b o e => he b o (by
      show b ≠ (s1.heap.push _).objs.size
      rw [Heap.size_push]
      exact Nat.ne_of_lt (Nat.lt_succ_of_lt (Heap.lt_size e))) (Heap.get?_push_of_some _ e))) r2
    show wpAny _ _ (assignInOrder [bindName env y, bindName env x] [u, v]) _ _ _
    refine assignInOrder_cons (wpAny_bindName (wp_storeName S2 (hk2.of hs hfn) fun h'' tk b hw T => ?_))
    have S3 := S2.store_sh (tk := tk) (Ext.refl c _) hw T r2'
    refine assignInOrder_cons (wpAny_bindName (wp_storeName S3 (hk.of hs hfn) fun h3 tk3 b3 hw3 T3 => assignInOrder_nil ?_))
    refine h _ _ _ (S3.store_sh (Ext.refl c _) hw3 T3 ?_) trivial
    refine R.mono (fun a vs q => ⟨T.isList q.1, fun w => q.2 ?_⟩) r1'
    rcases List.mem_append.mp w with w | w
    · exact List.mem_append_left _ (((dropO_sub ow y).map _).subset w)
    · exact List.mem_append_right _ w
  · first | obtain ⟨rfl, rfl⟩ := some_pair hf | obtain rfl := some_one hf | cases hf
theorem trS_aug {x : Str} {p pos : Pos} {op : Operator} {e : Expr} {f : Rho → Option D} {o : D → D → Option D} (t : TrE c n sc e f) (ho : Act2 c n (inplaceOp op) o) (hk : Sto sc x)
    (hd : (x == ("__debug__" : Str)) = false := by decide) (hn : (x == ("__classdict__" : Str)) = false := by decide) :
    TrS c n sc (.AugAssign (.Name x p) op e pos) (fun r => (match r.get x with | some (.sh d) => some d | _ => none).bind fun d0 => (f r).bind fun d1 => (o d0 d1).bind fun d => some ((r.kill x).put x (.sh d), .next)) := fun {prog w A E X0 s0 env gd hid ow r r' fl s Q} hA hs hfn S hf h => by
  obtain ⟨d0, h0, hf⟩ := bind_some hf
  obtain ⟨d1, h1, hf⟩ := bind_some hf
  obtain ⟨d, h2, hf⟩ := bind_some hf
  first | obtain ⟨rfl, rfl⟩ := some_pair hf | obtain rfl := some_one hf | cases hf
  have ld : ∀ {Q' : Value → Shared → Prop}, (∀ v, R (LP s.heap (XX ow X0)) v d0 → Q' v s) → wpAny (model prog w) A (loadName env x) Q' E s := fun {Q'} hq => by
    cases hx : r.get x with
    | none => rw [hx] at h0; cases h0
    | some en =>
      rw [hx] at h0
      cases en <;> try (cases h0; done)
      cases h0
      obtain ⟨v, l, o⟩ := S.vars x _ hx
      have hq := hq v o
      rcases l with ⟨k, m, hm, q⟩ | ⟨k | k, a, ha, hc⟩
      · exact wpAny_loadName_local S.kf k hm q hq
      · exact wpAny_loadName_cell S.kf k ha hc hq
      · exact wpAny_loadName_free S.kf k ha hc hq hn
  refine wpAny_AugAssign_Name (ld fun v0 x0 => t hA hs S h1 fun v s1 a1 x1 => ?_)
  have S1 := S.after a1
  refine ho hA S1.glo S1.zX S1.Xl (S.mv a1 x0) x1 h2 fun v2 s2 a2 x2 => ?_
  have a12 := a1.trans a2
  refine wp_storeName (S.after a12) (hk.of hs hfn) fun h' tk b hw T => ?_
  obtain ⟨⟨h1', tk1, rfl⟩, e1⟩ := a12
  exact h _ _ _ (S.store_sh e1 hw T x2) trivial
theorem trS_if {test : Expr} {body orelse : List Stmt} {pos : Pos} {f : Rho → Option Bool} {g k : Rho → Option (Rho × Fl)} (t : TrT c n sc test f) (u : TrSs c n sc body g) (v : TrSs c n sc orelse k) :
    TrS c n sc (.If test body orelse pos) (fun r => (f r).bind fun t => if t then g r else k r) := fun _ _ _ _ _ _ _ _ _ _ _ _ _ _ _ hA hs hfn S hf h => by
  obtain ⟨tv, h1, hf⟩ := bind_some hf
  refine wpAny_If (t hA hs S h1 fun s1 a1 => ?_)
  cases tv with
  | true => exact u hA hs hfn (S.after a1) hf h
  | false => exact v hA hs hfn (S.after a1) hf h
theorem trS_ret {e : Expr} {pos : Pos} {f : Rho → Option D} (t : TrB c n sc e f) : TrS c n sc (.Return (some e) pos) (fun r => (f r).bind fun d => some (r, .ret d)) := fun _ _ _ _ _ _ _ _ _ _ _ _ _ _ _ hA hs hfn S hf h => by
  obtain ⟨d, h1, hf⟩ := bind_some hf
  first | obtain ⟨rfl, rfl⟩ := some_pair hf | obtain rfl := some_one hf | cases hf
  exact wpAny_Return_some (t hA hs S h1 fun v s1 a1 x1 => h _ _ _ (S.after a1) x1)
theorem trS_brk {pos : Pos} : TrS c n sc (.Break pos) (fun r => some (r, .brk)) := fun _ _ _ _ _ _ _ _ _ _ _ _ _ _ _ hA hs hfn S hf h => by
  (first | obtain ⟨rfl, rfl⟩ := some_pair hf | obtain rfl := some_one hf | cases hf); exact wpAny_Break (h _ _ _ S trivial)
theorem trS_assert {test : Expr} {msg : Option Expr} {pos : Pos} {f : Rho → Option Bool} (t : TrT c n sc test f) : TrS c n sc (.Assert test msg pos) (fun r => (f r).bind fun t => if t then some (r, .next) else none) := fun _ _ _ _ _ _ _ _ _ _ _ _ _ _ _ hA hs hfn S hf h => by
  obtain ⟨tv, h1, hf⟩ := bind_some hf
  cases tv with
  | false => cases hf
  | true =>
    first | obtain ⟨rfl, rfl⟩ := some_pair hf | obtain rfl := some_one hf | cases hf
    exact wpAny_Assert_holds (t hA hs S h1 fun s1 a1 => ⟨rfl, h _ _ _ (S.after a1) trivial⟩)

/-! ### while -/
def whileF (ft : Rho → Option Bool) (fb : Rho → Option (Rho × Fl)) : Nat → Rho → Option (Rho × Fl)
  | 0, _ => none
  | k + 1, r => (ft r).bind fun t => match t with
    | true => (fb r).bind fun p => match p.2 with
      | .next => whileF ft fb k p.1
      | .cont => whileF ft fb k p.1
      | .brk => some (p.1, .next)
      | .ret d => some (p.1, .ret d)
    | false => some (r, .next)
theorem trS_while (N : Nat) {test : Expr} {body : List Stmt} {pos : Pos} {ft : Rho → Option Bool} {fb : Rho → Option (Rho × Fl)} (t : TrT c n sc test ft) (u : TrSs c n sc body fb) :
    TrS c n sc (.While test body [] pos) (whileF ft fb N) := fun {prog w A E X0 s0 env gd hid ow r r' fl s Q} hA hs hfn S hf h => by
  refine wpAny_While (codeAny_whileLoop (fun k s' => ∃ ow' r1, St c X0 s0 env gd hid ow' r1 s' ∧ whileF ft fb k r1 = some (r', fl)) ?_ N ⟨ow, r, S, hf⟩)
  rintro k s' ⟨ow', r1, S1, hf1⟩
  cases k with
  | zero => cases hf1
  | succ k =>
    obtain ⟨tv, h1, hf1⟩ := bind_some hf1
    refine t hA hs S1 h1 fun s2 a2 => ?_
    cases tv with
    | false =>
      first | obtain ⟨rfl, rfl⟩ := some_pair hf1 | obtain rfl := some_one hf1 | cases hf1
      exact wpAny_execs_nil (h _ _ _ (S1.after a2) trivial)
    | true =>
      obtain ⟨⟨r2, f2⟩, h2, hf1⟩ := bind_some hf1
      refine u hA hs hfn (S1.after a2) h2 fun f' s3 ow3 S3 hr => ?_
      cases f2 with
      | next =>
        obtain rfl := hr.next_of
        exact ⟨k, Nat.lt_succ_self k, ow3, r2, S3, hf1⟩
      | cont =>
        obtain rfl := hr.cont_of
        exact ⟨k, Nat.lt_succ_self k, ow3, r2, S3, hf1⟩
      | brk =>
        obtain rfl := hr.brk_of
        first | obtain ⟨rfl, rfl⟩ := some_pair hf1 | obtain rfl := some_one hf1 | cases hf1
        exact h _ _ _ S3 trivial
      | ret d =>
        obtain ⟨v, rfl, hr⟩ := hr.ret_of
        first | obtain ⟨rfl, rfl⟩ := some_pair hf1 | obtain rfl := some_one hf1 | cases hf1
        exact h _ _ _ S3 hr

/-! ### the frame's own lists -/
theorem ownOf {X0 : List Addr} {s0 : Shared} {env : Env} {gd : List (Addr × Obj)} {hid : List (Value × D)} {ow : List (Str × Addr)} {r : Rho} {s : Shared} {y : Str} {l : List D} (S : St c X0 s0 env gd hid ow r s) (h : r.get y = some (.own l))
    {prog : Program} {w : World} {A : Around} {E : Value → Shared → Prop} {Q : Value → Shared → Prop} {pos : Pos} (hd : (y == ("__debug__" : Str)) = false) (hn : (y == ("__classdict__" : Str)) = false)
    (hq : ∀ a vs, (y, a) ∈ ow → s.heap.PlainList a vs → Rs (LP s.heap (XX ow X0)) vs.toList l → Q (.ref a) s) : wpAny (model prog w) A (eval (.Name y pos) env) Q E s := by
  obtain ⟨v, lo, a, vs, rfl, hm, hp, hr⟩ := S.vars y _ h
  have hq := hq a vs hm hp hr
  rcases lo with ⟨k, m, hm, q⟩ | ⟨k | k, a, ha, hc⟩
  · exact wpAny_Name (wpAny_loadName_local S.kf k hm q hq) hd
  · exact wpAny_Name (wpAny_loadName_cell S.kf k ha hc hq) hd
  · exact wpAny_Name (wpAny_loadName_free S.kf k ha hc hq hn) hd
def getOwn (r : Rho) (y : Str) : Option (List D) := match r.get y with
  | some (.own l) => some l
  | _ => none
theorem getOwn_of {r : Rho} {y : Str} {l : List D} (h : getOwn r y = some l) : r.get y = some (.own l) := by
  unfold getOwn at h
  split at h
  · rename_i l' e; cases h; exact e
  · cases h
/-- y.append(e) -/
theorem trS_append {y : Str} {p apos pos spos : Pos} {e : Expr} {f : Rho → Option (List D)} (pls : Env → Sem Bool) (t : TrEs true c n sc [e] f) (pl : Plain [e])
    (hc : ∀ env, eval (.Call (.Attribute (.Name y p) "append" apos) [e] [] pos) env = (do
      let ov ← eval (.Name y p) env
      standAt apos.atName
      let (f, first) ← holding [ov] (getMethod ov "append" (pls env))
      callWith pos f first (backTo pos (starEach [e] env)) []))
    (hi : ∀ env, env.scope = sc → interactive env = false) (hsw : ∀ env, swapsWith (.Call (.Attribute (.Name y p) "append" apos) [e] [] pos) none spos.line env = pure false := by intro _; rfl)
    (hd : (y == ("__debug__" : Str)) = false := by decide) (hn : (y == ("__classdict__" : Str)) = false := by decide) (hyl : y ≠ (".last" : Str) := by decide) :
    TrS c n sc (.Expr (.Call (.Attribute (.Name y p) "append" apos) [e] [] pos) spos) (fun r => (getOwn r y).bind fun l => (f r).bind fun ds => match ds with | [d] => if l.length < lim then some (r.put y (.own (l ++ [d])), .next) else none | _ => none) := fun {prog w A E X0 s0 env gd hid ow r r' fl s Q} hA hs hfn S hf h => by
  obtain ⟨l, h0, hf⟩ := bind_some hf
  obtain ⟨ds, h1, hf⟩ := bind_some hf
  split at hf <;> try (cases hf; done)
  rename_i d
  split at hf
  · rename_i hl
    first | obtain ⟨rfl, rfl⟩ := some_pair hf | obtain rfl := some_one hf | cases hf
    have hy := getOwn_of h0
    refine wpAny_Expr ?_ (hi _ hs) (hsw _)
    refine MethodCall_ (ownOf S hy hd hn fun a vs hm hp hr => ?_) (hc _)
    obtain ⟨nn, e0⟩ := id hp
    refine Calls.getMethod_list_append e0 rfl rfl ?_
    refine Calls.callWith_builtin (pl _ _).1 (evalArgs_pl pl (t hA hs S h1 fun us s1 a1 x1 => ?_))
    have S1 := S.after a1
    have hz := (S.owp _ hm).2.2
    have hp1 : s1.heap.PlainList a vs := hp.at fun o e => a1.2.keep a o hz e
    have hlen := Rs.length hr
    obtain ⟨u, rfl, x2⟩ := x1.one_inv
    refine wpAny_list_append_plain hp1 (fun h' hp' hs' => ?_) ?_
    · have S2 := S1.mutate (tk := s1.toks) hy hm hs' hp' (l' := l ++ [d]) ?_ hyl
      · exact h _ _ _ S2 trivial
      · rw [Array.toList_push]
        exact Rs.append (S.mvs a1 hr) x1
    · simp only [Array.length_toList] at hlen
      rw [hlen]
      exact Nat.le_trans (Nat.le_of_lt hl) lim_le
  · first | obtain ⟨rfl, rfl⟩ := some_pair hf | obtain rfl := some_one hf | cases hf
end
end Mine
end SLa8

/-! La9 -/
noncomputable section SLa9
namespace Mine
section
variable {c : Cx} {n : Nat} {sc : Scope} {b : Bool}

theorem setItem_plain {prog : Program} {w : World} {A : Around} {E : Value → Shared → Prop} {s : Shared} {l : Addr} {items : Array Value} {k : Int} {t : Tok} {v : Value} {Q : Unit → Shared → Prop} (hl : s.heap.PlainList l items)
    (h0 : 0 ≤ k) (hfit : k < 2 ^ 63) (hn : k < items.size)
    (hQ : ∀ h', h'.PlainList l (items.setIfInBounds k.toNat v) → Heap.SameBut l s.heap h' → Q () { s with heap := h' }) :
    wpAny (model prog w) A (setItem (.ref l) (.int k t) v) Q E s := by
  obtain ⟨ne, ho⟩ := hl
  have hI : s.heap.IsList l items := ⟨_, ho, rfl, ne, rfl⟩
  unfold setItem
  try with_reducible refine wpAny_holding ?_
  first | refine wpAny_bind (wpAny_pure ?_) | skip
  refine wpAny_bind (wpAny_sequenceKey hI.typeIs (by decide) ?_)
  refine wpAny_bind (wpAny_callSpecial?_slot (name := Str.ofString "__setitem__") hI.typeIs slot_list_setitem
    (wpAny_call_entry slot_list_setitem hI.typeIs entry_list_setitem ?_ (args_list_setitem _ _ _)))
  show wpAny _ _ (Builtin.List.listSubscript? (.int k t) >>= _) _ _ s
  refine wpAny_bind (wpAny_listSubscript_int (fitsIndex_of h0 hfit) ?_)
  clear hfit
  obtain ⟨j, rfl⟩ := Int.eq_ofNat_of_zero_le h0
  have hj : j < items.size := by lia
  have hx' : items[j]? = some items[j] := Array.getElem?_eq_getElem hj
  show wpAny _ _ ((seqItemAt l j >>= fun r => pure (r.map (j, ·))) >>= _) _ _ s
  refine wpAny_bind (wpAny_bind (wpAny_seqItemAt ho rfl (wpAny_pure ?_)))
  rw [hx']
  show wpAny _ _ (setSeqItemAt l j v >>= _) _ _ s
  have hfin : (s.heap.update l (Obj.mapSeq (·.setIfInBounds j v))).PlainList l (items.setIfInBounds j v) :=
    ⟨ne, (Heap.get?_update_self _ ho (by simp [Obj.mapSeq, Obj.isFreed])).trans (by simp [Obj.mapSeq])⟩
  refine wpAny_bind (wpAny_setSeqItemAt ho rfl ?_)
  first
    | exact wpAny_bind (wpAny_pure (wpAny_pure ⟨.none, rfl, wpAny_pure (hQ _ hfin (Heap.SameBut.update ..))⟩))
    | exact wpAny_pure ⟨.none, rfl, wpAny_pure (hQ _ hfin (Heap.SameBut.update ..))⟩

theorem Rs.set {P : Addr → Array Value → Prop} {vs : List Value} {ds : List D} (q : Rs P vs ds) (i : Nat) {v : Value} {d : D} (h : R P v d) : Rs P (vs.set i v) (ds.set i d) :=
  Rs.ind (M := fun vs ds => ∀ i, Rs P (vs.set i v) (ds.set i d)) (fun _ => .nil) (fun r q ih i => by
    cases i with
    | zero => exact .cons h q
    | succ i => exact .cons r (ih i)) q i

/-- y[i] = e on an owned list -/
theorem trS_setItem {y : Str} {p spos pos : Pos} {i e : Expr} {f g : Rho → Option D} (te : TrE c n sc e f) (ti : TrE c n sc i g)
    (hsw : ∀ env, swapsWith e (some (.Subscript (.Name y p) i spos)) pos.line env = pure false := by intro _; rfl)
    (hd : (y == ("__debug__" : Str)) = false := by decide) (hn : (y == ("__classdict__" : Str)) = false := by decide) (hyl : y ≠ (".last" : Str) := by decide) :
    TrS c n sc (.Assign [.Subscript (.Name y p) i spos] e pos) (fun r => (f r).bind fun d => (getOwn r y).bind fun l => (g r).bind fun k => match k with
      | .int k => if 0 ≤ k ∧ k < (l.length : Int) ∧ l.length ≤ lim then some (r.put y (.own (l.set k.toNat d)), .next) else none
      | _ => none) := fun {prog w A E X0 s0 env gd hid ow r r' fl s Q} hA hs hfn S hf h => by
  obtain ⟨d, h1, hf⟩ := bind_some hf
  obtain ⟨l, h0, hf⟩ := bind_some hf
  obtain ⟨k, h2, hf⟩ := bind_some hf
  cases k <;> try (cases hf; done)
  rename_i k
  change (if _ then _ else _) = _ at hf
  split at hf
  · rename_i hk
    first | obtain ⟨rfl, rfl⟩ := some_pair hf | obtain rfl := some_one hf | cases hf
    have hy := getOwn_of h0
    refine wpAny_Assign_Subscript (te hA hs S h1 fun v s1 a1 x1 => ?_) (hsw _)
    have S1 := S.after a1
    refine ownOf S1 hy hd hn fun a vs hm hp hr => ti hA hs S1 h2 fun kv s2 a2 x2 => ?_
    obtain ⟨t, rfl⟩ := x2.int_inv
    have S2 := S1.after a2
    have hz := (S.owp _ hm).2.2
    have hp2 : s2.heap.PlainList a vs := hp.at fun o e => a2.2.keep a o hz e
    have hlen := Rs.length hr
    simp only [Array.length_toList] at hlen
    have : lim = 1000000 := lim_eq
    refine setItem_plain hp2 hk.1 (by lia) (by lia) fun h' hp' hs' => ?_
    have S3 := S2.mutate (tk := s2.toks) hy hm hs' hp' (l' := l.set k.toNat d) ?_ hyl
    · exact h _ _ _ S3 trivial
    · rw [Array.toList_setIfInBounds]
      exact Rs.set (S1.mvs a2 hr) _ (S1.mv a2 x1)
  · first | obtain ⟨rfl, rfl⟩ := some_pair hf | obtain rfl := some_one hf | cases hf

/-! ### what is gone through -/
def ItV (c : Cx) (X : List Addr) (v : Value) (ds : List D) (s : Shared) : Prop :=
  ∀ {prog : Program} {w : World} {A : Around} {E : Value → Shared → Prop} {Q : Value → Shared → Prop}, A.handled = none →
    (∀ (I : Addr) (fp : List Addr) (P : Nat → Value → Prop) (T : Nat → Heap → Prop) (hl : List (Value × D)) (s' : Shared), After c s s' → ¬ live s.heap I → live s'.heap I →
      (∀ A' : Around, A'.handled = none → Walks prog w A' I fp [I] ds.length P T) → T 0 s'.heap →
      (∀ i h, T i h → ∃ o vs K, h.get? I = some o ∧ o.cls = .type K ∧ K ≠ "builtin_function_or_method" ∧ o.data = .fields vs) →
      (∀ a ∈ fp, a = I ∨ ∃ vs, LP s'.heap X a vs) → (∀ p ∈ hl, R (LP s'.heap X) p.1 p.2) →
      (∀ i v, i < ds.length → P i v → ∃ d, ds[i]? = some d ∧ ((Flat d ∧ R (fun _ _ => False) v d) ∨ (v, d) ∈ hl)) → Q (.ref I) s') → wpAny (model prog w) A (pyIter v) Q E s
def TrI (b : Bool) (c : Cx) (n : Nat) (sc : Scope) (e : Expr) (f : Rho → Option (List D)) : Prop :=
  ∀ ⦃prog : Program⦄ ⦃w : World⦄ ⦃A : Around⦄ ⦃E : Value → Shared → Prop⦄ ⦃X0 : List Addr⦄ ⦃s0 : Shared⦄ ⦃env : Env⦄ ⦃gd : List (Addr × Obj)⦄ ⦃hid : List (Value × D)⦄ ⦃ow : List (Str × Addr)⦄ ⦃r : Rho⦄ ⦃s : Shared⦄ ⦃Q : Value → Shared → Prop⦄ ⦃ds : List D⦄,
    AOk n A → env.scope = sc → St c X0 s0 env gd hid ow r s → f r = some ds →
    (∀ v s', After c s s' → ItV c (MX b c ow X0) v ds s' → Q v s') → wpAny (model prog w) A (eval e env) Q E s
theorem iter_list {X : List Addr} {a : Addr} {vs : Array Value} {ds : List D} {s : Shared} (hz : ∀ z ∈ c.Z, z ∈ X) (hl : LP s.heap X a vs) (hr : Rs (LP s.heap X) vs.toList ds) : ItV c X (.ref a) ds s := fun {prog w A E Q} hA h => by
  have hlt : a ≠ s.heap.objs.size := Nat.ne_of_lt (IsList.live hl.1).lt
  have hlen := Rs.length hr
  simp only [Array.length_toList] at hlen
  refine wpAny_pyIter_list hl.1 (h s.heap.objs.size [s.heap.objs.size, a] (fun i v => vs[i]? = some v) (fun i h => h.IsListIter s.heap.objs.size a i ∧ h.IsList a vs) (vs.toList.zip ds) _ (After.push c s _ _) (not_live_size _) (live.of (Heap.get?_push_size _ rfl))
    (fun A' hA' => hlen ▸ Walks.list hA' _ a hlt vs) ⟨⟨_, Heap.get?_push_size _ rfl, rfl, rfl⟩, hl.1.push _⟩ (fun i h ⟨⟨o, h1, h2, h3⟩, _⟩ => ⟨o, _, _, h1, h2, by decide, h3⟩) (fun b hb => ?_) (fun p hp => ?_) fun i v _ hv => ?_)
  · rcases List.mem_cons.mp hb with e | hb
    · exact .inl e
    · rcases List.mem_cons.mp hb with e | hb
      · subst e; exact .inr ⟨vs, hl.1.push _, hl.2⟩
      · cases hb
  · have : ∀ {vs : List Value} {ds : List D}, Rs (LP s.heap X) vs ds → ∀ p ∈ vs.zip ds, R (LP s.heap X) p.1 p.2 := by
      intro vs ds hr
      induction ds generalizing vs with
      | nil => intro p hp; simp at hp
      | cons d ds ih =>
        cases hr with
        | cons r q =>
          intro p hp
          rw [List.zip_cons_cons] at hp
          rcases List.mem_cons.mp hp with e | hp
          · subst e; exact r
          · exact ih q p hp
    exact R.mono (LP.ext (Ext.push c _ _) hz fun _ q => .inl q) (this hr p hp)
  · obtain ⟨d, e1, e2⟩ := Rs.get' hr i v (by simpa using hv)
    refine ⟨d, e1, .inr ?_⟩
    have e3 : (vs.toList.zip ds)[i]? = some (v, d) := by
      rw [List.getElem?_zip_eq_some]
      exact ⟨by simpa using hv, e1⟩
    exact List.mem_of_getElem? e3
def strSigns (x : Str) : List D := x.cps.toList.map fun k => .str ⟨#[k]⟩
theorem iter_str {X : List Addr} {x : Str} {t : Tok} {s : Shared} : ItV c X (.str x t) (strSigns x) s := fun {prog w A E Q} hA h => by
  have hlen : (strSigns x).length = x.cps.size := by simp [strSigns]
  have item : ∀ i v, SignAt x i v → ∃ d, (strSigns x)[i]? = some d ∧ ((Flat d ∧ R (fun _ _ => False) v d) ∨ (v, d) ∈ ([] : List (Value × D))) := fun i v ⟨k, u, h1, h2⟩ => by
    subst h2
    refine ⟨.str ⟨#[k]⟩, ?_, .inl ⟨trivial, .str⟩⟩
    unfold strSigns
    rw [List.getElem?_map, Array.getElem?_toList, h1]
    rfl
  cases ha : x.cps.all (· < 128)
  · exact wpAny_pyIter_wide ha (h s.heap.objs.size [s.heap.objs.size] (SignAt x) (fun i h => h.IsStrIter s.heap.objs.size "str_iterator" x t i) [] _ (After.push c s _ _) (not_live_size _) (live.of (Heap.get?_push_size _ rfl))
      (fun A' hA' => hlen ▸ Walks.strWide hA' _ x t) ⟨_, Heap.get?_push_size _ rfl, rfl, rfl⟩ (fun i h ⟨o, h1, h2, h3⟩ => ⟨o, _, _, h1, h2, by decide, h3⟩) (fun b hb => .inl (by simpa using hb)) (fun p hp => nomatch hp) fun i v _ => item i v)
  · exact wpAny_pyIter_ascii ha (h s.heap.objs.size [s.heap.objs.size] (SignAt x) (fun i h => h.IsStrIter s.heap.objs.size "str_ascii_iterator" x t i) [] _ (After.push c s _ _) (not_live_size _) (live.of (Heap.get?_push_size _ rfl))
      (fun A' hA' => hlen ▸ Walks.strAscii hA' _ x t) ⟨_, Heap.get?_push_size _ rfl, rfl, rfl⟩ (fun i h ⟨o, h1, h2, h3⟩ => ⟨o, _, _, h1, h2, by decide, h3⟩) (fun b hb => .inl (by simpa using hb)) (fun p hp => nomatch hp) fun i v _ => item i v)
def asItems : D → Option (List D)
  | .list l => some l
  | .str x => some (strSigns x)
  | _ => none
theorem trI_of {e : Expr} {f : Rho → Option D} (t : TrM b c n sc e f) : TrI b c n sc e (fun r => (f r).bind asItems) := fun {prog w A E X0 s0 env gd hid ow r s Q ds} hA hs S hf h => by
  obtain ⟨d, h1, hf⟩ := bind_some hf
  refine t hA hs S h1 fun v s1 a1 x1 => h v s1 a1 ?_
  cases d <;> try (cases hf; done)
  · first | obtain ⟨rfl, rfl⟩ := some_pair hf | obtain rfl := some_one hf | cases hf
    obtain ⟨tk, rfl⟩ := x1.str_inv
    exact iter_str
  · first | obtain ⟨rfl, rfl⟩ := some_pair hf | obtain rfl := some_one hf | cases hf
    obtain ⟨a, vs, rfl, p, q⟩ := x1.list_inv
    exact iter_list S.zM p q

/-- range(n) -/
def rangeD (a : Int) (k : Nat) : List D := (List.range k).map fun (i : Nat) => .int (a + i)
def oRange : D → Option (List D)
  | .int m => if -big < m ∧ m < big then some (rangeD 0 m.toNat) else none
  | _ => none
theorem range_size (m : Int) : Builtin.Range.rangeSize 0 m 1 = (m.toNat : Int) := by
  rw [rangeSize_one]
  split <;> lia
theorem trI_range {p pos : Pos} {e : Expr} {f : Rho → Option (List D)} (tn : TrE c n sc (.Name "range" p) (fun _ => some (.ty "range"))) (ta : TrEs true c n sc [e] f) (pl : Plain [e]) :
    TrI b c n sc (.Call (.Name "range" p) [e] [] pos) (fun r => (f r).bind fun l => match l with | [d] => oRange d | _ => none) := fun {prog w A E X0 s0 env gd hid ow r s Q ds} hA hs S hf h => by
  obtain ⟨l, h1, hf⟩ := bind_some hf
  split at hf <;> try (cases hf; done)
  rename_i d
  cases d <;> try (cases hf; done)
  rename_i m
  change (if _ then _ else _) = _ at hf
  split at hf <;> try (cases hf; done)
  rename_i hm
  first | obtain ⟨rfl, rfl⟩ := some_pair hf | obtain rfl := some_one hf | cases hf
  refine wpAny_Call_NameR (tn hA hs S rfl fun v s1 a1 x1 => ?_)
  obtain rfl := x1.ty_inv
  refine PySem.callWith_type (pl _ _).1 (evalArgs_pl pl (ta hA hs (S.after a1) h1 fun vs s2 a2 x2 => ?_))
  obtain ⟨u, rfl, x3⟩ := x2.one_inv
  obtain ⟨t, rfl⟩ := x3.int_inv
  refine call_range_1 (h _ _ ((a1.trans a2).trans (After.push c _ _ _)) fun {prog w A E Q} hA h => ?_)
  have hR : IsRange (s2.heap.push { cls := .type "range", data := .fields #[.int 0 s2.toks, .int m t, .int 1 (s2.toks + 1)] }) s2.heap.objs.size 0 m 1 s2.toks t (s2.toks + 1) := Heap.get?_push_size _ rfl
  refine wpAny_pyIter_range hR (small_one (by lia) (by lia) (by have := big_eq; lia) (by have := big_eq; lia)) ?_
  rw [range_size]
  have hsz : (rangeD 0 m.toNat).length = m.toNat := by simp [rangeD]
  refine h _ [_] (fun i v => ∃ t, v = .int (0 + (i : Nat) * 1) t) (fun i h => IsRangeIter h _ (0 + (i : Nat) * 1) ((m.toNat : Int) - (i : Nat)) 1) [] _ (After.push c _ _ _) (not_live_size _) (live.of (Heap.get?_push_size _ rfl)) (fun A' hA' => by rw [hsz]; exact Walks.range hA' _ 0 1 m.toNat)
    (Heap.get?_push_size _ rfl) (fun i h hT => ⟨_, _, "range_iterator", hT, rfl, by decide, rfl⟩) (fun b hb => .inl (by simpa using hb)) (fun p hp => nomatch hp) fun i v hi hv => ?_
  obtain ⟨t', rfl⟩ := hv
  rw [hsz] at hi
  refine ⟨.int (0 + (i : Nat) * 1), ?_, .inl ⟨trivial, .int⟩⟩
  unfold rangeD
  rw [List.getElem?_map, List.getElem?_range hi]
  simp

def forF (x : Str) (fb : Rho → Option (Rho × Fl)) : List D → Rho → Option (Rho × Fl)
  | [], r => some (r, .next)
  | d :: ds, r => (fb ((r.kill x).put x (.sh d))).bind fun p => match p.2 with
    | .next => forF x fb ds p.1
    | .cont => forF x fb ds p.1
    | .brk => some (p.1, .next)
    | .ret d => some (p.1, .ret d)
theorem pick_objs {h : Heap} {X : List Addr} {I : Addr} : ∀ (fp : List Addr), (∀ a ∈ fp, a = I ∨ ∃ vs, LP h X a vs) → ∃ l : List (Addr × Obj), (∀ a ∈ fp, a ≠ I → ∃ o, (a, o) ∈ l) ∧ ∀ p ∈ l, h.get? p.1 = some p.2 ∧ p.1 ≠ I ∧ ∃ vs, LP h X p.1 vs
  | [], _ => ⟨[], fun a h => (nomatch h), fun p h => nomatch h⟩
  | a :: r, hf => by
    obtain ⟨l, h1, h2⟩ := pick_objs r fun b hb => hf b (List.mem_cons_of_mem _ hb)
    by_cases ha : a = I
    · refine ⟨l, fun b hb hne => ?_, h2⟩
      rcases List.mem_cons.mp hb with e | hb
      · exact absurd (e.trans ha) hne
      · exact h1 b hb hne
    · rcases hf a List.mem_cons_self with e | ⟨vs, lp⟩
      · exact absurd e ha
      · obtain ⟨o, ho, hr⟩ := id lp.1
        refine ⟨(a, o) :: l, fun b hb hne => ?_, fun p hp => ?_⟩
        · rcases List.mem_cons.mp hb with e | hb
          · subst e; exact ⟨o, List.mem_cons_self⟩
          · obtain ⟨o', h'⟩ := h1 b hb hne; exact ⟨o', List.mem_cons_of_mem _ h'⟩
        · rcases List.mem_cons.mp hp with e | hp
          · subst e; exact ⟨ho, ha, vs, lp⟩
          · exact h2 p hp
theorem St.not_locals {X0 : List Addr} {s0 : Shared} {env : Env} {gd : List (Addr × Obj)} {hid : List (Value × D)} {ow : List (Str × Addr)} {r : Rho} {s : Shared} (S : St c X0 s0 env gd hid ow r s) {a : Addr} {o : Obj} (ho : s.heap.get? a = some o)
    (hd : ∀ es n, o.data ≠ .dict es n) : a ≠ env.locals := fun e => by
  obtain ⟨m, o1, es, ep, h1, h2, _⟩ := S.ns
  rw [← e, ho] at h1
  cases h1
  exact hd _ _ h2
theorem St.not_cell {X0 : List Addr} {s0 : Shared} {env : Env} {gd : List (Addr × Obj)} {hid : List (Value × D)} {ow : List (Str × Addr)} {r : Rho} {s : Shared} (S : St c X0 s0 env gd hid ow r s) {a : Addr} {o : Obj} (ho : s.heap.get? a = some o)
    (hd : ∀ v, o.data ≠ .cell v) : ∀ x, env.cells.lookup x ≠ some a := fun x e => by
  obtain ⟨⟨v, o1, h1, h2⟩, _⟩ := S.cl x a e
  rw [ho] at h1
  cases h1
  exact hd _ h2
theorem St.not_own {X0 : List Addr} {s0 : Shared} {env : Env} {gd : List (Addr × Obj)} {hid : List (Value × D)} {ow : List (Str × Addr)} {r : Rho} {s : Shared} (S : St c X0 s0 env gd hid ow r s) {a : Addr} {o : Obj} (ho : s.heap.get? a = some o)
    (hd : ∀ v n, o.data ≠ .seq v n) : a ∉ ow.map (·.2) := fun e => by
  obtain ⟨p, hp, rfl⟩ := List.mem_map.mp e
  obtain ⟨⟨vs, n, h1⟩, _⟩ := S.owp p hp
  rw [ho] at h1
  cases h1
  exact hd _ _ rfl
end
end Mine
end SLa9

/-! La10 -/
noncomputable section SLa10
namespace Mine

theorem bindL_miss {k : Str → Option NameKind} : ∀ (l : List (Str × Value)) (m : Str → Option Value) (x : Str), x ∉ l.map (·.1) → bindL k l m x = m x
  | [], _, _, _ => rfl
  | (y, v) :: r, m, x, h => by
    rw [List.map_cons, List.mem_cons, not_or] at h
    unfold bindL
    rw [bindL_miss r _ x h.2]
    split
    · exact if_neg h.1
    · rfl
theorem bindC_miss {k : Str → Option NameKind} : ∀ (l : List (Str × Value)) (m : Str → Option Value) (x : Str), x ∉ l.map (·.1) → bindC k l m x = m x
  | [], _, _, _ => rfl
  | (y, v) :: r, m, x, h => by
    rw [List.map_cons, List.mem_cons, not_or] at h
    unfold bindC
    rw [bindC_miss r _ x h.2]
    split
    · rfl
    · exact if_neg h.1
theorem bindL_hit {k : Str → Option NameKind} {x : Str} {v : Value} (hk : k x = some .local) : ∀ (l : List (Str × Value)) (m : Str → Option Value), (l.map (·.1)).Nodup → (x, v) ∈ l → bindL k l m x = some v
  | [], _, _, h => nomatch h
  | (y, u) :: r, m, hn, h => by
    rw [List.map_cons, List.nodup_cons] at hn
    unfold bindL
    rcases List.mem_cons.mp h with e | h
    · cases e
      rw [if_pos hk, bindL_miss r _ x hn.1]
      exact if_pos rfl
    · exact bindL_hit hk r _ hn.2 h
theorem bindC_hit {k : Str → Option NameKind} {x : Str} {v : Value} (hk : k x ≠ some .local) : ∀ (l : List (Str × Value)) (m : Str → Option Value), (l.map (·.1)).Nodup → (x, v) ∈ l → bindC k l m x = some v
  | [], _, _, h => nomatch h
  | (y, u) :: r, m, hn, h => by
    rw [List.map_cons, List.nodup_cons] at hn
    unfold bindC
    rcases List.mem_cons.mp h with e | h
    · cases e
      rw [if_neg hk, bindC_miss r _ x hn.1]
      exact if_pos rfl
    · exact bindC_hit hk r _ hn.2 h
theorem cellsFrom_acc : ∀ (names : List (Str × NameKind)) (n : Nat) (acc : List (Str × Addr)) (x : Str), (acc.lookup x).isSome = true → ((cellsFrom n names acc).lookup x).isSome = true
  | [], _, _, _, h => h
  | (y, k) :: r, n, acc, x, h => by
    unfold cellsFrom
    split
    · refine cellsFrom_acc r _ _ x ?_
      rw [List.lookup_cons]
      cases (x == y) <;> first | exact h | rfl
    · exact cellsFrom_acc r _ _ x h
theorem cellsFrom_has : ∀ (names : List (Str × NameKind)) (n : Nat) (acc : List (Str × Addr)) (x : Str), names.lookup x = some .cell → ((cellsFrom n names acc).lookup x).isSome = true
  | [], _, _, _, h => by cases h
  | (y, k) :: r, n, acc, x, h => by
    rw [List.lookup_cons] at h
    unfold cellsFrom
    cases hb : x == y with
    | true =>
      rw [hb] at h
      cases h
      rw [if_pos (by decide)]
      refine cellsFrom_acc r _ _ x ?_
      rw [List.lookup_cons, hb]
      rfl
    | false =>
      rw [hb] at h
      split
      · exact cellsFrom_has r _ _ x h
      · exact cellsFrom_has r _ _ x h
theorem zip_get {P : Addr → Array Value → Prop} : ∀ {names : List Str} {vs : List Value} {ds : List D}, Rs P vs ds → ∀ {x : Str} {e : Ent}, Rho.get (names.zip (ds.map Ent.sh)) x = some e → ∃ v d, e = .sh d ∧ R P v d ∧ (x, v) ∈ names.zip vs
  | [], _, _, _, x, e, h => by cases h
  | y :: names, _, _, .nil, x, e, h => by cases h
  | y :: names, _, _, .cons (v := v) (d := d) r q, x, e, h => by
    rw [List.map_cons, List.zip_cons_cons] at h
    unfold Rho.get at h
    rw [List.lookup_cons] at h
    cases hb : x == y with
    | true =>
      rw [hb] at h
      cases h
      have : x = y := beq_iff_eq.mp hb
      subst this
      exact ⟨v, d, rfl, r, List.mem_cons_self⟩
    | false =>
      rw [hb] at h
      obtain ⟨v', d', h1, h2, h3⟩ := zip_get (names := names) q h
      exact ⟨v', d', h1, h2, List.mem_cons_of_mem _ h3⟩

section
variable {c : Cx} {n : Nat}
/-- a def of the module's, once its body is known -/
theorem act_def {fa : Addr} {ob : Obj} {fd : FuncData} {body : List Stmt} {names : List Str} {f : Rho → Option (Rho × Fl)} {F : List D → Option D}
    (hob : c.FT fa = some ob) (hd : ob.data = .func fd) (hcr : ∀ h, Glo c h → h.CodeRec fd.code fd.qualname) (hbody : fd.body = .stmts body) (hclo : fd.closure = [])
    (hgl : fd.globals = mainGlobals) (hbi : fd.builtins = builtinsNs) (hnd : names.Nodup)
    (hbind : ∀ vals, vals.length = names.length → bindArgs fd ⟨vals, []⟩ = pure (names.zip vals))
    (hkind : ∀ x ∈ names, fd.scope.names.lookup x = some .local ∨ fd.scope.names.lookup x = some .cell)
    (t : TrSs c n fd.scope body f)
    (hF : ∀ ds d, F ds = some d → ds.length = names.length ∧ ∃ r', f (names.zip (ds.map Ent.sh)) = some (r', .ret d))
    (hco : fd.scope.isCoroutine = false := by rfl) (hgen : fd.scope.isGenerator = false := by rfl) (hk : fd.scope.kind = .function := by rfl) :
    ActL c (n + 1) (fun vs => call (.ref fa) vs) F := fun {prog w A E s Q vs ds d X} hA G hz hX ra ho h => by
  obtain ⟨hlen, r', hf⟩ := hF ds d ho
  have hvl : vs.length = names.length := (Rs.length ra).trans hlen
  have hmap : (names.zip vs).map (·.1) = names := by
    rw [List.map_fst_zip]; lia
  refine wpAny_call (codeAny_call_cells (binds := names.zip vs) hA.room (G.obs fa ob hob) hd G.lim (hcr _ G) hbody (hbind vs hvl) hclo (fun x hx => ?_) (fun s1 I => ?_) hco hgen hk)
  · have hm : x.1 ∈ names := by rw [← hmap]; exact List.mem_map_of_mem (f := (·.1)) hx
    rcases hkind x.1 hm with e | e
    · exact .inl e
    · exact .inr ⟨e, cellsFrom_has _ _ _ _ e⟩
  · have hLs : ¬ live s.heap s.heap.objs.size := not_live_size _
    have hfr : ∀ a, s.heap.objs.size ≤ a → ¬ live s.heap a := fun a ha l => absurd l.lt (Nat.not_lt.mpr ha)
    have hcf : ∀ x a, (callEnvC fd s.heap.objs.size fa).cells.lookup x = some a → ¬ live s.heap a := fun x a q => hfr a (Nat.le_of_lt (I.above x a (mem_of_lookup q)))
    have S : St c X s (callEnvC fd s.heap.objs.size fa) [] [] [] (names.zip (ds.map Ent.sh)) s1 := by
      refine ⟨hk, hgl, hbi, I.toInCall.same, G, Ext.of I.toInCall.keep, hz, hX, ⟨_, I.toInCall.ns⟩, fun q => hLs (hX _ (hz _ q)), hLs, fun x a q => ?_, fun x y a q1 q2 => name_of_addr I.apart (mem_of_lookup q1) (mem_of_lookup q2), fun _ x a _ q => hcf x a q, fun _ x q => ?_, fun p hp => (nomatch hp), fun p hp => (nomatch hp), .nil, .nil, fun p hp => (nomatch hp), fun x e q => ?_⟩
      · exact ⟨⟨_, I.cell x a q⟩, fun z => hcf x a q (hX _ (hz _ z))⟩
      · exact Option.isSome_iff_exists.mp (cellsFrom_has _ _ _ _ q)
      · obtain ⟨v, d', rfl, r1, hm⟩ := zip_get ra q
        refine ⟨v, ?_, R.mono (LP.ext (Ext.of I.toInCall.keep) hz fun _ q => .inl q) r1⟩
        have hmx : x ∈ names := by rw [← hmap]; exact List.mem_map_of_mem (f := (·.1)) hm
        rcases hkind x hmx with e | e
        · exact .inl ⟨e, _, I.toInCall.ns, bindL_hit e _ _ (by rw [hmap]; exact hnd) hm⟩
        · obtain ⟨a, ha⟩ := Option.isSome_iff_exists.mp (cellsFrom_has fd.scope.names (s.heap.objs.size + 1) [] x e)
          have hc := I.cell x a ha
          have hne : (callEnvC fd s.heap.objs.size fa).kindOf x ≠ some .local := by
            show fd.scope.names.lookup x ≠ some .local
            rw [e]; decide
          rw [bindC_hit hne _ _ (by rw [hmap]; exact hnd) hm] at hc
          exact .inr ⟨.inl e, a, ha, hc⟩
    refine t (hA.deeper _) rfl ⟨fa, ob, fd, rfl, hob, hd, rfl, rfl⟩ S hf fun f' s' ow' S' hr => ?_
    obtain ⟨v, rfl, hr⟩ := hr.ret_of
    exact h _ _ ⟨S'.same, S'.keep⟩ hr
end
end Mine
end SLa10

/-! La11 -/
noncomputable section SLa11
namespace Mine
section
variable {c : Cx} {X0 : List Addr} {s0 : Shared} {env : Env} {gd : List (Addr × Obj)} {hid : List (Value × D)} {ow : List (Str × Addr)} {r : Rho} {s : Shared}

theorem St.weaken {r' : Rho} (S : St c X0 s0 env gd hid ow r s) (h : ∀ x e, r'.get x = some e → r.get x = some e) : St c X0 s0 env gd hid ow r' s :=
  { S with vars := fun x e q => S.vars x e (h x e q) }

/-- a dictionary that the state does not speak of turns -/
theorem St.side {h' : Heap} {tk : Nat} {C : Addr} (S : St c X0 s0 env gd hid ow r s) (hk : ∀ b o, b ≠ C → s.heap.get? b = some o → h'.get? b = some o)
    (hf : ¬ live s0.heap C) (hz : C ∉ c.Z) (hl : C ≠ env.locals) (hg : C ∉ gd.map (·.1)) (ho : ∃ o es n, s.heap.get? C = some o ∧ o.data = .dict es n) :
    St c X0 s0 env gd hid ow r { s with heap := h', toks := tk } := by
  obtain ⟨oC, es, n, hC, hd⟩ := ho
  have ne : ∀ b o, s.heap.get? b = some o → (∀ es n, o.data ≠ .dict es n) → b ≠ C := fun b o e q w => by
    rw [w, hC] at e
    cases e
    exact q _ _ hd
  have lst : ∀ a vs, s.heap.IsList a vs → h'.IsList a vs := fun a vs q => by
    obtain ⟨o, h1, h2, n, h3⟩ := q
    exact ⟨o, hk a o (ne a o h1 fun v n w => by rw [w] at h3; cases h3) h1, h2, n, h3⟩
  have mon : ∀ a' vs, LP s.heap (XX ow X0) a' vs → LP h' (XX ow X0) a' vs := fun a' vs q => ⟨lst _ _ q.1, q.2⟩
  refine ⟨S.kf, S.eg, S.eb, let ⟨_, _, q⟩ := S.same; ⟨h', tk, by rw [q]⟩, S.glo0, ⟨fun b o hb e => ?_, fun z hzz q => (S.keep.zl z hzz q).keep fun o w => hk z o (fun w => hz (w ▸ hzz)) w, fun z hzz q => ?_⟩, S.zx, S.xl, ?_, S.nz, S.nf, fun x b q => ?_, S.ci, S.cf, S.fnc, fun p hp' => ?_, fun p hp' => R.mono mon (S.hids p hp'), S.owk, S.owa, fun p hp' => ?_, fun x e q => ?_⟩
  · exact hk b o (fun w => hf (w ▸ live.of e)) (S.keep.keep b o hb e)
  · have := S.keep.zv z hzz q
    unfold live at this ⊢
    cases e : s.heap.get? z with
    | none => rw [e] at this; cases this
    | some o => rw [hk z o (fun w => hz (w ▸ hzz)) e]; rfl
  · obtain ⟨m, n⟩ := S.ns
    exact ⟨m, n.at fun o e => hk _ o (fun w => hl w.symm) e⟩
  · obtain ⟨⟨v, o, h1, h2⟩, hz⟩ := S.cl x b q
    exact ⟨⟨v, o, hk b o (ne b o h1 fun v n' w => by rw [w] at h2; cases h2) h1, h2⟩, hz⟩
  · obtain ⟨a1, a2, a3, a4, a5⟩ := S.gds p hp'
    exact ⟨hk p.1 _ (fun w => hg (by rw [← w]; exact List.mem_map_of_mem (f := (·.1)) hp')) a1, a2, a3, a4, a5⟩
  · obtain ⟨⟨vs, n, e⟩, a2, a3⟩ := S.owp p hp'
    exact ⟨⟨vs, n, hk _ _ (ne _ _ e fun v n w => by cases w) e⟩, a2, a3⟩
  · obtain ⟨v, l1, o⟩ := S.vars x e q
    refine ⟨v, ?_, ?_⟩
    · rcases l1 with ⟨k, m, n, q⟩ | ⟨k, b, q, o, ho, hd⟩
      · exact .inl ⟨k, m, n.at fun o e => hk _ o (fun w => hl w.symm) e, q⟩
      · exact .inr ⟨k, b, q, o, hk b o (ne b o ho fun v n' w => by rw [w] at hd; cases hd) ho, hd⟩
    · cases e with
      | sh d => exact R.mono mon o
      | own l2 =>
        obtain ⟨a', vs, rfl, hm, ⟨n, e⟩, hr2⟩ := o
        exact ⟨a', vs, rfl, hm, ⟨n, hk _ _ (ne _ _ e fun v n w => by cases w) e⟩, Rs.mono mon hr2⟩
      | app y' =>
        obtain ⟨m, a', rfl, hm, ⟨o', ho', hc', hd'⟩, hz⟩ := o
        exact ⟨m, a', rfl, hm, ⟨o', hk m o' (ne m o' ho' fun v n w => by rw [w] at hd'; cases hd') ho', hc', hd'⟩, hz⟩
      | nest init last =>
        obtain ⟨a', b', vs, ws, rfl, hm, hm2, ⟨n, e⟩, hr1, ⟨n2, e2⟩, hr2⟩ := o
        exact ⟨a', b', vs, ws, rfl, hm, hm2, ⟨n, hk _ _ (ne _ _ e fun v n w => by cases w) e⟩, Rs.mono mon hr1, ⟨n2, hk _ _ (ne _ _ e2 fun v n w => by cases w) e2⟩, Rs.mono mon hr2⟩
      | dead => exact trivial

/-- a list of the frame's that no name holds is turned -/
theorem St.mutateH {h' : Heap} {tk : Nat} {y : Str} {a : Addr} {vs' : Array Value} (S : St c X0 s0 env gd hid ow r s) (hy : r.get y = none) (ha : (y, a) ∈ ow)
    (hs : Heap.SameBut a s.heap h') (hp : h'.PlainList a vs') (hyl : y ≠ (".last" : Str)) : St c X0 s0 env gd hid ow r { s with heap := h', toks := tk } := by
  have hax : a ∈ XX ow X0 := List.mem_append_left _ (List.mem_map_of_mem (f := (·.2)) ha)
  obtain ⟨⟨vs0, n0, e0⟩, f0, z0⟩ := S.owp _ ha
  have mon : ∀ a' vs, LP s.heap (XX ow X0) a' vs → LP h' (XX ow X0) a' vs := fun a' vs q =>
    ⟨IsList.at q.1 fun o e => (hs.2 a' fun w => q.2 (w ▸ hax)).trans e, q.2⟩
  have ne : ∀ b o, s.heap.get? b = some o → (∀ n, o.data ≠ .seq vs0 n) → b ≠ a := fun b o e q w => by
    rw [w] at e
    have e0' : s.heap.get? a = some { cls := .type "list", data := .seq vs0 n0 } := e0
    rw [e0'] at e
    cases e
    exact q n0 rfl
  refine ⟨S.kf, S.eg, S.eb, let ⟨_, _, q⟩ := S.same; ⟨h', tk, by rw [q]⟩, S.glo0, ⟨fun b o hb e => ?_, fun z hz q => (S.keep.zl z hz q).keep fun o w => (hs.2 z fun w => z0 (w ▸ hz)).trans w, fun z hz q => ?_⟩, S.zx, S.xl, ?_, S.nz, S.nf, fun x b q => ?_, S.ci, S.cf, S.fnc, fun p hp' => ?_, fun p hp' => R.mono mon (S.hids p hp'), S.owk, S.owa, fun p hp' => ?_, fun x e q => ?_⟩
  · exact (hs.2 b fun w => f0 (w ▸ live.of e)).trans (S.keep.keep b o hb e)
  · have := S.keep.zv z hz q
    unfold live at this ⊢
    rw [hs.2 z fun w => z0 (w ▸ hz)]; exact this
  · obtain ⟨m, n⟩ := S.ns
    refine ⟨m, n.at fun o e => (hs.2 _ (ne _ o e fun n' w => ?_)).trans e⟩
    obtain ⟨o1, es, ep, h1, h2, _⟩ := n
    rw [e] at h1; cases h1
    rw [w] at h2; cases h2
  · obtain ⟨⟨v, o, h1, h2⟩, hz⟩ := S.cl x b q
    exact ⟨⟨v, o, (hs.2 b (ne b o h1 fun n' w => by rw [w] at h2; cases h2)).trans h1, h2⟩, hz⟩
  · obtain ⟨a1, a2, a3, a4, a5⟩ := S.gds p hp'
    exact ⟨(hs.2 p.1 fun w => a5 (by rw [w]; exact List.mem_map_of_mem (f := (·.2)) ha)).trans a1, a2, a3, a4, a5⟩
  · obtain ⟨⟨vs, n, e⟩, a2, a3⟩ := S.owp p hp'
    by_cases w : p.2 = a
    · exact ⟨⟨vs', w ▸ hp⟩, a2, a3⟩
    · exact ⟨⟨vs, n, (hs.2 _ w).trans e⟩, a2, a3⟩
  · have loads : ∀ {v : Value}, Loads env s.heap x v → Loads env h' x v := fun {v} w => by
      rcases w with ⟨k, m, n, q⟩ | ⟨k, b, q, o, ho, hd⟩
      · refine .inl ⟨k, m, n.at fun o e => (hs.2 _ (ne _ o e fun n' w => ?_)).trans e, q⟩
        obtain ⟨o1, es, ep, h1, h2, _⟩ := n
        rw [e] at h1; cases h1
        rw [w] at h2; cases h2
      · exact .inr ⟨k, b, q, o, (hs.2 b (ne b o ho fun n' w => by rw [w] at hd; cases hd)).trans ho, hd⟩
    have hxy : x ≠ y := fun w => by rw [w, hy] at q; cases q
    obtain ⟨v, l1, o⟩ := S.vars x e q
    refine ⟨v, loads l1, ?_⟩
    cases e with
    | sh d => exact R.mono mon o
    | own l2 =>
      obtain ⟨a', vs, rfl, hm, hpl, hr2⟩ := o
      refine ⟨a', vs, rfl, hm, ?_, Rs.mono mon hr2⟩
      have hne : a' ≠ a := fun w => hxy (ow_inj S.owa (w ▸ hm) ha)
      obtain ⟨n, e⟩ := hpl
      exact ⟨n, (hs.2 _ hne).trans e⟩
    | nest init last =>
      obtain ⟨a', b', vs, ws, rfl, hm, hm2, ⟨n, e⟩, hr1, ⟨n2, e2⟩, hr2⟩ := o
      have hne : a' ≠ a := fun w => hxy (ow_inj S.owa (w ▸ hm) ha)
      have hne2 : b' ≠ a := fun w => hyl (ow_inj S.owa ha (w ▸ hm2))
      exact ⟨a', b', vs, ws, rfl, hm, hm2, ⟨n, (hs.2 _ hne).trans e⟩, Rs.mono mon hr1, ⟨n2, (hs.2 _ hne2).trans e2⟩, Rs.mono mon hr2⟩
    | app y' =>
      obtain ⟨m, a', rfl, hm, ⟨o', ho', hc', hd'⟩, hz⟩ := o
      exact ⟨m, a', rfl, hm, ⟨o', (hs.2 m (ne m o' ho' fun n' w => by rw [w] at hd'; cases hd')).trans ho', hc', hd'⟩, hz⟩
    | dead => exact trivial
end

/-! ### an iterator in its state -/
structure Going (c : Cx) (X0 : List Addr) (s0 : Shared) (env : Env) (gd : List (Addr × Obj)) (hid : List (Value × D)) (prog : Program) (w : World) (I : Addr) (ds : List D) (T : Nat → Heap → Prop) : Prop where
  item : ∀ {ow : List (Str × Addr)} {r : Rho} {s : Shared} {i : Nat} {d : D} {A : Around} {E : Value → Shared → Prop} {Q : Option Value → Shared → Prop}, St c X0 s0 env gd hid ow r s → T i s.heap → ds[i]? = some d → A.handled = none →
    (∀ v s' oI, R (LP s'.heap (XX ow X0)) v d → (∀ a vs, a ∈ XX ow X0 → s.heap.PlainList a vs → s'.heap.PlainList a vs) → (∀ a vs, LP s.heap (XX ow X0) a vs → LP s'.heap (XX ow X0) a vs) → St c X0 s0 env ((I, oI) :: gd) hid ow r s' →
      (∀ {ow5 : List (Str × Addr)} {r5 : Rho} {s5 : Shared}, St c X0 s0 env ((I, oI) :: gd) hid ow5 r5 s5 → T (i + 1) s5.heap ∧ St c X0 s0 env gd hid ow5 r5 s5) → Q (some v) s') → wpAny (model prog w) A (pyNext (.ref I)) Q E s
  done : ∀ {ow : List (Str × Addr)} {r : Rho} {s : Shared} {i : Nat} {A : Around} {E : Value → Shared → Prop} {Q : Option Value → Shared → Prop}, St c X0 s0 env gd hid ow r s → T i s.heap → i = ds.length → A.handled = none →
    (∀ s', St c X0 s0 env gd hid ow r s' → (∀ a vs, a ∈ XX ow X0 → s.heap.PlainList a vs → s'.heap.PlainList a vs) → (∀ a vs, LP s.heap (XX ow X0) a vs → LP s'.heap (XX ow X0) a vs) → Q none s') → wpAny (model prog w) A (pyNext (.ref I)) Q E s
  self : ∀ {s : Shared} {i : Nat} {A : Around} {E : Value → Shared → Prop} {Q : Value → Shared → Prop}, T i s.heap → A.handled = none → Q (.ref I) s → wpAny (model prog w) A (pyIter (.ref I)) Q E s
  guard : ∀ {ow : List (Str × Addr)} {r : Rho} {s : Shared} {i : Nat}, St c X0 s0 env gd hid ow r s → T i s.heap → ∃ oI, St c X0 s0 env ((I, oI) :: gd) hid ow r s ∧
    ∀ {ow5 : List (Str × Addr)} {r5 : Rho} {s5 : Shared}, St c X0 s0 env ((I, oI) :: gd) hid ow5 r5 s5 → T i s5.heap ∧ St c X0 s0 env gd hid ow5 r5 s5
theorem going_of {c : Cx} {X0 : List Addr} {s0 : Shared} {env : Env} {gd : List (Addr × Obj)} {hid : List (Value × D)} {prog : Program} {w : World} {I : Addr} {fp : List Addr} {P : Nat → Value → Prop} {T : Nat → Heap → Prop} {hl : List (Value × D)} {ds : List D}
    (W : ∀ A' : Around, A'.handled = none → Walks prog w A' I fp [I] ds.length P T)
    (hobj : ∀ i h, T i h → ∃ o vs K, h.get? I = some o ∧ o.cls = .type K ∧ K ≠ "builtin_function_or_method" ∧ o.data = .fields vs)
    (hP : ∀ i v, i < ds.length → P i v → ∃ d, ds[i]? = some d ∧ ((Flat d ∧ R (fun _ _ => False) v d) ∨ (v, d) ∈ hl))
    (hlg : ∀ a ∈ fp, a ≠ I → ∃ o, (a, o) ∈ gd) (hlh : ∀ p ∈ hl, p ∈ hid) (hIs0 : ¬ live s0.heap I) (hIz : I ∉ c.Z) (hIg : I ∉ gd.map (·.1)) : Going c X0 s0 env gd hid prog w I ds T where
  self := fun hT hA hq => (W _ hA).self _ _ _ _ hT hq
  guard := fun {ow r s i} S hT => by
    obtain ⟨oI, vsI, KI, q1, q2, q3, q4⟩ := hobj i _ hT
    have Sg : St c X0 s0 env ([(I, oI)] ++ gd) hid ow r s := S.gd_add fun p hp => by
      have : p = (I, oI) := by simpa using hp
      subst this
      exact ⟨q1, hIz, S.not_locals q1 (fun es n' w => by rw [w] at q4; cases q4), S.not_cell q1 (fun v w => by rw [w] at q4; cases q4), S.not_own q1 (fun v n' w => by rw [w] at q4; cases q4)⟩
    refine ⟨oI, Sg, fun {ow5 r5 s5} S5 => ⟨?_, S5.gd_drop (gd' := [(I, oI)])⟩⟩
    refine (W { depth := 0, units := 0, handled := none } rfl).frame _ _ _ hT fun b hb o e => ?_
    by_cases hbI : b = I
    · subst hbI
      have e1 := (S5.gds (b, oI) List.mem_cons_self).1
      rw [q1] at e
      cases e
      exact e1
    · obtain ⟨o', ho'⟩ := hlg b hb hbI
      have e1 := (S.gds (b, o') ho').1
      have e2 := (S5.gds (b, o') (List.mem_cons_of_mem _ ho')).1
      rw [e1] at e
      cases e
      exact e2
  done := fun {ow r s i A E Q} S hT hi hA hq => by
    subst hi
    have ho := hobj _ _ hT
    refine (W A hA).done s _ _ hT fun h1 tk hk => hq _ (S.iter (fun b o hb e => hk b o (by simpa using hb) e) hIs0 hIz hIg ho) (fun a vs ha q => ?_) fun a vs q => ⟨?_, q.2⟩
    · obtain ⟨o, vs', K, q1, q2, q3, q4⟩ := ho
      obtain ⟨n, e⟩ := q
      refine ⟨n, hk a _ (fun w' => ?_) e⟩
      have : a = I := by simpa using w'
      rw [this, q1] at e
      cases e; cases q4
    · obtain ⟨o, vs', K, q1, q2, q3, q4⟩ := ho
      obtain ⟨o2, e, e2, n, e3⟩ := q.1
      refine ⟨o2, hk a _ (fun w' => ?_) e, e2, n, e3⟩
      have : a = I := by simpa using w'
      rw [this, q1] at e
      cases e
      rw [q4] at e3; cases e3
  item := fun {ow r s i d A E Q} S hT hd hA hq => by
    have hlt : i < ds.length := (List.getElem?_eq_some_iff.mp hd).1
    have ho := hobj _ _ hT
    refine (W A hA).item i s _ _ hlt hT fun v h1 tk hPv hT1 hk1 => ?_
    have Sq : St c X0 s0 env gd hid ow r { s with heap := h1, toks := tk } := S.iter (fun b o hb e => hk1 b o (by simpa using hb) e) hIs0 hIz hIg ho
    obtain ⟨oI, vsI, KI, q1, q2, q3, q4⟩ := hobj (i + 1) _ hT1
    have Sg : St c X0 s0 env ([(I, oI)] ++ gd) hid ow r { s with heap := h1, toks := tk } := Sq.gd_add fun p hp => by
      have : p = (I, oI) := by simpa using hp
      subst this
      exact ⟨q1, hIz, Sq.not_locals q1 (fun es n' w => by rw [w] at q4; cases q4), Sq.not_cell q1 (fun v w => by rw [w] at q4; cases q4), Sq.not_own q1 (fun v n' w => by rw [w] at q4; cases q4)⟩
    obtain ⟨d', hd', hR⟩ := hP i v hlt hPv
    rw [hd] at hd'
    cases hd'
    have hRv : R (LP h1 (XX ow X0)) v d := by
      rcases hR with ⟨hfl, hr⟩ | hm
      · exact hr.flat hfl
      · exact Sg.hids (v, d) (hlh _ hm)
    refine hq v _ oI hRv (fun a vs ha q => ?_) (fun a vs q => ⟨?_, q.2⟩) Sg fun {ow5 r5 s5} S5 => ⟨?_, S5.gd_drop (gd' := [(I, oI)])⟩
    · obtain ⟨o, vs', K, q1, q2, q3, q4⟩ := ho
      obtain ⟨n, e⟩ := q
      refine ⟨n, hk1 a _ (fun w' => ?_) e⟩
      have : a = I := by simpa using w'
      rw [this, q1] at e
      cases e; cases q4
    · obtain ⟨o, vs', K, q1, q2, q3, q4⟩ := ho
      obtain ⟨o2, e, e2, n, e3⟩ := q.1
      refine ⟨o2, hk1 a _ (fun w' => ?_) e, e2, n, e3⟩
      have : a = I := by simpa using w'
      rw [this, q1] at e
      cases e
      rw [q4] at e3; cases e3
    · refine (W A hA).frame _ _ _ hT1 fun b hb o e => ?_
      by_cases hbI : b = I
      · subst hbI
        have e1 := (S5.gds (b, oI) List.mem_cons_self).1
        rw [q1] at e
        cases e
        exact e1
      · obtain ⟨o', ho'⟩ := hlg b hb hbI
        have e1 := (Sq.gds (b, o') ho').1
        have e2 := (S5.gds (b, o') (List.mem_cons_of_mem _ ho')).1
        have e3 : h1.get? b = some o' := e1
        rw [e3] at e
        cases e
        exact e2

/-- what one goes through from the state itself -/
theorem going_state {c : Cx} {X0 : List Addr} {s0 : Shared} {env : Env} {gd : List (Addr × Obj)} {hid : List (Value × D)} {ow : List (Str × Addr)} {r : Rho} {s : Shared} {prog : Program} {w : World} {A : Around} {E : Value → Shared → Prop} {Q : Value → Shared → Prop} {v : Value} {ds : List D}
    (S : St c X0 s0 env gd hid ow r s) (it : ItV c (XX ow X0) v ds s) (hA : A.handled = none)
    (h : ∀ I gd1 hid1 T s2, After c s s2 → St c X0 s0 env (gd1 ++ gd) (hid1 ++ hid) ow r s2 → T 0 s2.heap → Going c X0 s0 env (gd1 ++ gd) (hid1 ++ hid) prog w I ds T → Q (.ref I) s2) : wpAny (model prog w) A (pyIter v) Q E s :=
  it hA fun I fp P T hl s2 a2 hnl hlv W hT hobj hfp hhl hP => by
    have S2 := S.after a2
    obtain ⟨lst, l1, l2⟩ := pick_objs fp hfp
    have hIz : I ∉ c.Z := fun q => hnl (S.glo.zl I q).live
    refine h I lst hl T s2 a2 ((S2.gd_add fun p hp => ?_).hid_add hhl) hT (going_of W hobj hP (fun a ha hne => ?_) (fun p hp => List.mem_append_left _ hp) (fun q => hnl (S.keep.live q)) hIz fun q => ?_)
    · obtain ⟨q1, q2, vs, q3, q4⟩ := l2 p hp
      obtain ⟨o, h1, h2, n, h3⟩ := q3
      have e : o = p.2 := by rw [q1] at h1; exact (Option.some.inj h1).symm
      subst e
      exact ⟨q1, fun z => q4 (S2.zX _ z), S2.not_locals q1 (fun es n' w => by rw [w] at h3; cases h3), S2.not_cell q1 (fun v w => by rw [w] at h3; cases h3), fun z => q4 (List.mem_append_left _ z)⟩
    · obtain ⟨o, ho⟩ := l1 a ha hne
      exact ⟨o, List.mem_append_left _ ho⟩
    · obtain ⟨p, hp, e⟩ := List.mem_map.mp q
      rcases List.mem_append.mp hp with hp | hp
      · exact (l2 p hp).2.1 e
      · exact hnl (e ▸ live.of (S.gds p hp).1)
section
variable {c : Cx} {n : Nat} {sc : Scope} {b : Bool}
theorem trS_for {x : Str} {px pos : Pos} {iter : Expr} {body : List Stmt} {f : Rho → Option (List D)} {fb : Rho → Option (Rho × Fl)} (ti : TrI true c n sc iter f) (tb : TrSs c n sc body fb) (hk : Sto sc x)
    (hfold : ∀ env v, foldedSetIterable iter env v = pure v := by intro _ _; rfl) :
    TrS c n sc (.For (.Name x px) iter body [] pos) (fun r => (f r).bind fun ds => forF x fb ds r) := fun {prog w A E X0 s0 env gd hid ow r r' fl s Q} hA hs hfn S hf h => by
  obtain ⟨ds, h1, hf⟩ := bind_some hf
  refine wpAny_For (ti hA hs S h1 fun v s1 a1 it => going_state (S.after a1) it hA.hd fun I gd1 hid1 T s2 _ S2 hT G => ?_) (hfold _)
  refine codeAny_forLoop (fun k s' => ∃ i ow' r1, k = ds.length + 1 - i ∧ i ≤ ds.length ∧ St c X0 s0 env (gd1 ++ gd) (hid1 ++ hid) ow' r1 s' ∧ T i s'.heap ∧ forF x fb (ds.drop i) r1 = some (r', fl)) ?_ (ds.length + 1)
    ⟨0, ow, r, rfl, Nat.zero_le _, S2, hT, hf⟩
  rintro k s' ⟨i, ow', r1, rfl, hi, Sp, hTi, hfi⟩
  by_cases hlt : i < ds.length
  · have hd : ds[i]? = some ds[i] := List.getElem?_eq_getElem hlt
    rw [List.drop_eq_getElem_cons hlt] at hfi
    obtain ⟨⟨r2, f2⟩, hb, hfi⟩ := bind_some hfi
    refine G.item Sp hTi hd hA.hd fun v s3 oI hv _ _ S3 back => ?_
    refine wpAny_assign_Name (wp_storeName S3 (hk.of hs hfn) fun h' tk b hw Tst => ?_)
    refine tb hA hs hfn (S3.store_sh (tk := tk) (Ext.refl c _) hw Tst hv) hb fun f' s5 ow5 S5 hr => ?_
    obtain ⟨hT5, S6⟩ := back S5
    have more : ∃ m, m < ds.length + 1 - i ∧ m = ds.length + 1 - (i + 1) := ⟨_, by lia, rfl⟩
    obtain ⟨m, m1, m2⟩ := more
    cases f2 with
    | next =>
      obtain rfl := hr.next_of
      exact ⟨m, m1, i + 1, ow5, r2, m2, hlt, S6, hT5, hfi⟩
    | cont =>
      obtain rfl := hr.cont_of
      exact ⟨m, m1, i + 1, ow5, r2, m2, hlt, S6, hT5, hfi⟩
    | brk =>
      obtain rfl := hr.brk_of
      first | obtain ⟨rfl, rfl⟩ := some_pair hfi | obtain rfl := some_one hfi | cases hfi
      exact h _ _ _ S6.gd_drop.hid_drop trivial
    | ret d' =>
      obtain ⟨v, rfl, hr⟩ := hr.ret_of
      first | obtain ⟨rfl, rfl⟩ := some_pair hfi | obtain rfl := some_one hfi | cases hfi
      exact h _ _ _ S6.gd_drop.hid_drop hr
  · have hin : i = ds.length := Nat.le_antisymm hi (Nat.le_of_not_lt hlt)
    subst hin
    rw [List.drop_length] at hfi
    first | obtain ⟨rfl, rfl⟩ := some_pair hfi | obtain rfl := some_one hfi | cases hfi
    exact G.done Sp hTi rfl hA.hd fun s3 S3 _ _ => wpAny_execs_nil (h _ _ _ S3.gd_drop.hid_drop trivial)
end
end Mine
end SLa11

/-! La12 -/
noncomputable section SLa12
namespace Mine
section
variable {c : Cx} {n : Nat} {sc : Scope}

/-- what a comprehension adds to the list it makes -/
def TrA (c : Cx) (n : Nat) (sc : Scope) (m : Value → Env → Sem Unit) (f : Rho → Option (List D)) : Prop :=
  ∀ ⦃prog : Program⦄ ⦃w : World⦄ ⦃A : Around⦄ ⦃E : Value → Shared → Prop⦄ ⦃X0 : List Addr⦄ ⦃s0 : Shared⦄ ⦃env : Env⦄ ⦃gd : List (Addr × Obj)⦄ ⦃hid : List (Value × D)⦄ ⦃Da : Addr⦄ ⦃r : Rho⦄ ⦃s : Shared⦄ ⦃ys : Array Value⦄ ⦃l ds : List D⦄ ⦃Q : Unit → Shared → Prop⦄,
    AOk n A → env.scope = sc → St c X0 s0 env gd hid [((".acc" : Str), Da)] r s → r.get ".acc" = none → s.heap.PlainList Da ys → Rs (LP s.heap (XX [((".acc" : Str), Da)] X0)) ys.toList l → f r = some ds → l.length + ds.length ≤ lim →
    (∀ s' ys', St c X0 s0 env gd hid [((".acc" : Str), Da)] r s' → s'.heap.PlainList Da ys' → Rs (LP s'.heap (XX [((".acc" : Str), Da)] X0)) ys'.toList (l ++ ds) → Q () s') → wpAny (model prog w) A (m (.ref Da) env) Q E s
def emitElt (elt : Expr) (acc : Value) (env : Env) : Sem Unit := do let _ ← call (.builtin "list.append") [acc, ← eval elt env]
theorem trA_elt {elt : Expr} {f : Rho → Option D} (t : TrE c n sc elt f) : TrA c n sc (emitElt elt) (fun r => (f r).map fun d => [d]) := fun {prog w A E X0 s0 env gd hid Da r s ys l ds Q} hA hs S hr hp hl hf hlen h => by
  dsimp only at hf
  cases h1 : f r with
  | none => rw [h1] at hf; cases hf
  | some d =>
    rw [h1] at hf
    first | obtain ⟨rfl, rfl⟩ := some_pair hf | obtain rfl := some_one hf | cases hf
    unfold emitElt
    refine wpAny_bind (t hA hs S h1 fun v s1 a1 x1 => ?_)
    have S1 := S.after a1
    have hz := (S.owp (".acc", Da) List.mem_cons_self).2.2
    have hp1 : s1.heap.PlainList Da ys := hp.at fun o e => a1.2.keep Da o hz e
    have hl1 := S.mvs a1 hl
    have hlen' := Rs.length hl
    simp only [Array.length_toList] at hlen'
    simp only [List.length_cons, List.length_nil] at hlen
    refine wpAny_bind (wpAny_list_append_plain (hsz := Nat.le_trans (by lia) lim_le) hp1 fun h5 hl5 hs5 => wpAny_pure ?_)
    refine h _ _ (S1.mutateH (tk := s1.toks) hr List.mem_cons_self hs5 hl5 (by decide)) hl5 ?_
    rw [Array.toList_push]
    refine Rs.mono (fun a vs q => ⟨IsList.at q.1 fun o e => (hs5.2 a fun w' => q.2 ?_).trans e, q.2⟩) (Rs.append hl1 (.one x1))
    subst w'
    exact List.mem_append_left _ List.mem_cons_self

def TrTs (c : Cx) (n : Nat) (sc : Scope) (es : List Expr) (f : Rho → Option Bool) : Prop :=
  ∀ ⦃prog : Program⦄ ⦃w : World⦄ ⦃A : Around⦄ ⦃E : Value → Shared → Prop⦄ ⦃X0 : List Addr⦄ ⦃s0 : Shared⦄ ⦃env : Env⦄ ⦃gd : List (Addr × Obj)⦄ ⦃hid : List (Value × D)⦄ ⦃ow : List (Str × Addr)⦄ ⦃r : Rho⦄ ⦃s : Shared⦄ ⦃Q : Bool → Shared → Prop⦄ ⦃b : Bool⦄,
    AOk n A → env.scope = sc → St c X0 s0 env gd hid ow r s → f r = some b →
    (∀ s', After c s s' → Q b s') → wpAny (model prog w) A (forIn es true fun c r => if r = true then do let ok ← isTrue c env (eval c env); pure (ForInStep.yield ok) else pure (ForInStep.yield r)) Q E s
theorem trTs_nil : TrTs c n sc [] (fun _ => some true) := fun _ _ _ _ _ _ _ _ _ _ _ _ _ _ hA hs S hf h => by
  (first | obtain ⟨rfl, rfl⟩ := some_pair hf | obtain rfl := some_one hf | cases hf); exact wpAny_tests_nil (h _ (After.refl c _))
theorem trTs_one {e : Expr} {f : Rho → Option Bool} (t : TrT c n sc e f) : TrTs c n sc [e] f := fun _ _ _ _ _ _ _ _ _ _ _ _ _ _ hA hs S hf h =>
  wpAny_tests_one (t hA hs S hf h)

def compF (x : Str) (ft : Rho → Option Bool) (fa : Rho → Option (List D)) : List D → Rho → Option (List D)
  | [], _ => some []
  | d :: ds, r => (ft ((x, .sh d) :: r)).bind fun t => (if t then fa ((x, .sh d) :: r) else some []).bind fun u => (compF x ft fa ds r).map (u ++ ·)

/-- one turn -/
def turnF (x : Str) (px : Pos) (iter : Expr) (ifs : List Expr) (em : Value → Env → Sem Unit) (e : Expr) (k : Nat) (it acc : Value) (env : Env) : Sem Fin := do
  standAt iter.pos
  match ← pyNext it with
  | none => pure (.done .next)
  | some v =>
    letOwnedTupleGo (.Name x px) it v
    assign (.Name x px) env v
    let mut ok := true
    for c in ifs do
      if ok then ok ← isTrue c env (eval c env)
    if ok then
      em acc env
    again (.compLoop e k it acc env)

theorem loop_acc {elt : Expr} {gens : List Comprehension} {csc : Scope} {pos : Pos} {k : Nat} {x : Str} {px : Pos} {iter : Expr} {ifs : List Expr} {em : Value → Env → Sem Unit} {ft : Rho → Option Bool} {fa : Rho → Option (List D)}
    (hturn : ∀ it acc env, compTurn (.ListComp elt gens csc pos) k it acc env = turnF x px iter ifs em (.ListComp elt gens csc pos) k it acc env)
    (tt : TrTs c n sc ifs ft) (ta : TrA c n sc em fa) (hxa : x ≠ ".acc")
    {prog : Program} {w : World} {A : Around} {X0 : List Addr} {s0 : Shared} {env : Env} {gd : List (Addr × Obj)} {hid : List (Value × D)} {Da : Addr} {r : Rho} {s : Shared} {ys : Array Value} {l ds out : List D} {I : Addr} {T : Nat → Heap → Prop} {RR : Result → Shared → Prop}
    (hA : AOk n A) (hs : env.scope = sc) (hst : StC env s0 x) (S : St c X0 s0 env gd hid [((".acc" : Str), Da)] r s) (hr : r.get ".acc" = none) (hrx : r.get x = none) (hkl : r.kill x = r) (hp : s.heap.PlainList Da ys) (hl : Rs (LP s.heap (XX [((".acc" : Str), Da)] X0)) ys.toList l)
    (hT : T 0 s.heap) (G : Going c X0 s0 env gd hid prog w I ds T) (hf : compF x ft fa ds r = some out) (hlen : l.length + out.length ≤ lim)
    (h : ∀ s' ys', St c X0 s0 env gd hid [((".acc" : Str), Da)] r s' → s'.heap.PlainList Da ys' → Rs (LP s'.heap (XX [((".acc" : Str), Da)] X0)) ys'.toList (l ++ out) → RR (.ok .next) s') :
    codeAny (model prog w) A (.compLoop (.ListComp elt gens csc pos) k (.ref I) (.ref Da) env) RR s := by
  refine codeAny_loop rfl (fun m s' => ∃ i ys' l' out', m = ds.length + 1 - i ∧ i ≤ ds.length ∧ St c X0 s0 env gd hid [((".acc" : Str), Da)] r s' ∧ s'.heap.PlainList Da ys' ∧ Rs (LP s'.heap (XX [((".acc" : Str), Da)] X0)) ys'.toList l' ∧ T i s'.heap ∧
    compF x ft fa (ds.drop i) r = some out' ∧ l' ++ out' = l ++ out) ?_ (ds.length + 1) ⟨0, ys, l, out, rfl, Nat.zero_le _, S, hp, hl, hT, hf, rfl⟩
  rintro m s' ⟨i, ys', l', out', rfl, hi, S', hp', hl', hT', hf', hlo⟩
  show wpAny _ A ((compTurn (.ListComp elt gens csc pos) k (.ref I) (.ref Da) env).onRaise (fun x => do noteFrame x env; theTreesLotGoes x)) _ _ s'
  refine wpAny_noted ?_
  rw [hturn]
  unfold turnF
  refine wpAny_bind (wpAny_standAt (wpAny_bind ?_))
  by_cases hlt : i < ds.length
  · obtain ⟨d, hd⟩ : ∃ d, ds[i]? = some d := ⟨ds[i], List.getElem?_eq_getElem hlt⟩
    have hdrop : ds.drop i = d :: ds.drop (i + 1) := by
      obtain ⟨hh, he⟩ := List.getElem?_eq_some_iff.mp hd
      rw [List.drop_eq_getElem_cons hh, he]
    rw [hdrop] at hf'
    obtain ⟨t, h1, hf'⟩ := bind_some hf'
    obtain ⟨u, h2, hf'⟩ := bind_some hf'
    obtain ⟨out2, h3, e3⟩ : ∃ o, compF x ft fa (ds.drop (i + 1)) r = some o ∧ u ++ o = out' := by
      cases h3 : compF x ft fa (ds.drop (i + 1)) r with
      | none => rw [h3] at hf'; cases hf'
      | some o => rw [h3] at hf'; exact ⟨o, rfl, Option.some.inj hf'⟩
    subst e3
    refine G.item S' hT' hd hA.hd fun v s1 oI hv hpl hlp S1 back => ?_
    refine wpAny_bind (wpAny_of_eq rfl (wpAny_bind (wpAny_assign_Name (wp_storeNameC S1 hst fun h' tk b hw Tst => ?_))))
    have hdo : dropO [((".acc" : Str), Da)] x = [((".acc" : Str), Da)] := by
      unfold dropO
      rw [List.filter_cons_of_pos (by simpa using fun e => hxa e.symm)]
      rfl
    have S2 := S1.store_sh (tk := tk) (Ext.refl c _) hw Tst hv
    rw [hdo] at S2
    have S3 : St c X0 s0 env ((I, oI) :: gd) hid [((".acc" : Str), Da)] ((x, .sh d) :: r) { s1 with heap := h', toks := tk } := S2.weaken fun y e q => by
      rw [hkl]
      rw [Rho.get_put]
      unfold Rho.get at q
      rw [List.lookup_cons] at q
      cases hb : y == x with
      | true =>
        rw [hb] at q
        rw [if_pos (beq_iff_eq.mp hb)]; exact q
      | false =>
        rw [hb] at q
        rw [if_neg (beq_eq_false_iff_ne.mp hb)]; exact q
    have hmem : Da ∈ XX [((".acc" : Str), Da)] X0 := List.mem_append_left _ List.mem_cons_self
    have hp1 : h'.PlainList Da ys' := Tst.plain (hpl _ _ hmem hp')
    have hl1 : Rs (LP h' (XX [((".acc" : Str), Da)] X0)) ys'.toList l' := Rs.mono (fun a vs q => ⟨Tst.isList q.1, q.2⟩) (Rs.mono hlp hl')
    refine wpAny_bind (tt hA hs S3 h1 fun s4 a4 => ?_)
    have S4 := S3.after a4
    have hz := (S.owp (".acc", Da) List.mem_cons_self).2.2
    have hp4 : s4.heap.PlainList Da ys' := hp1.at fun o e => a4.2.keep Da o hz e
    have hl4 := S3.mvs a4 hl1
    have hxr : Rho.get ((x, .sh d) :: r) ".acc" = none := by
      unfold Rho.get
      rw [List.lookup_cons, beq_eq_false_iff_ne.mpr fun e => hxa e.symm]
      exact hr
    have fin : ∀ s5 ys5, St c X0 s0 env ((I, oI) :: gd) hid [((".acc" : Str), Da)] ((x, .sh d) :: r) s5 → s5.heap.PlainList Da ys5 → Rs (LP s5.heap (XX [((".acc" : Str), Da)] X0)) ys5.toList (l' ++ u) →
        ∃ m, m < ds.length + 1 - i ∧ ∃ i ys' l' out', m = ds.length + 1 - i ∧ i ≤ ds.length ∧ St c X0 s0 env gd hid [((".acc" : Str), Da)] r s5 ∧ s5.heap.PlainList Da ys' ∧ Rs (LP s5.heap (XX [((".acc" : Str), Da)] X0)) ys'.toList l' ∧ T i s5.heap ∧
          compF x ft fa (ds.drop i) r = some out' ∧ l' ++ out' = l ++ out := fun s5 ys5 S5 hp5 hl5 => by
      obtain ⟨b1, b2⟩ := back S5
      refine ⟨ds.length + 1 - (i + 1), by lia, i + 1, ys5, l' ++ u, out2, rfl, hlt, b2.weaken fun y e q => ?_, hp5, hl5, b1, h3, by rw [List.append_assoc]; exact hlo⟩
      unfold Rho.get
      rw [List.lookup_cons, beq_eq_false_iff_ne.mpr fun e' => by rw [e', hrx] at q; cases q]
      exact q
    have hlen2 : l'.length + (u.length + out2.length) = l.length + out.length := by
      have := congrArg List.length hlo
      simpa using this
    cases t with
    | false =>
      cases h2
      refine wpAny_pure ⟨rfl, fin s4 ys' S4 hp4 (by rw [List.append_nil]; exact hl4)⟩
    | true =>
      refine wpAny_bind (ta hA hs S4 hxr hp4 hl4 h2 (by lia) fun s5 ys5 S5 hp5 hl5 => wpAny_pure ⟨rfl, fin s5 ys5 S5 hp5 hl5⟩)
  · have hin : i = ds.length := by lia
    refine G.done S' hT' hin hA.hd fun s1 S1 hpl hlp => wpAny_pure ?_
    have hmem : Da ∈ XX [((".acc" : Str), Da)] X0 := List.mem_append_left _ List.mem_cons_self
    rw [hin, List.drop_length] at hf'
    cases hf'
    rw [List.append_nil] at hlo
    subst hlo
    exact h _ ys' S1 (hpl _ _ hmem hp') (Rs.mono hlp hl')

/-- a second clause -/
def emitFor (e : Expr) (k : Nat) (iter : Expr) (acc : Value) (env : Env) : Sem Unit := do
  let x ← eval iter env
  standAt iter.pos
  let x ← foldedSetIterable iter env x
  let _ ← runOwn (.compStart e k (← holding [x] (pyIter x)) acc env) env
end
end Mine
end SLa12

/-! La13 -/
noncomputable section SLa13
namespace Mine

def clStep (env : Env) (cs : List (Str × Addr)) (p : Str × NameKind) : List (Str × Addr) := if p.2 == .free then (p.1, (env.cells.lookup p.1).getD 0) :: cs else cs
theorem forIn_fold {α β : Type} {f : α → β → Sem (ForInStep β)} {g : β → α → β} : ∀ {l : List α} (c : β), (∀ x ∈ l, ∀ c, f x c = pure (.yield (g c x))) → forIn l c f = pure (l.foldl g c)
  | [], c, _ => rfl
  | x :: l, c, h => by
    rw [List.forIn_cons, h x List.mem_cons_self, pure_bind]
    exact forIn_fold _ fun y hy => h y (List.mem_cons_of_mem _ hy)
theorem closure_eq {scope : Scope} {env : Env} (h : ∀ p ∈ scope.names, p.2 = .free → ∃ a, env.cells.lookup p.1 = some a) : closureFor scope env = pure (scope.names.foldl (clStep env) []) := by
  simp only [closureFor]
  rw [forIn_fold (g := clStep env) []]
  · rfl
  · rintro ⟨x, k⟩ hx cs
    unfold clStep
    by_cases hk : k = .free
    · subst hk
      obtain ⟨a, ha⟩ := h _ hx rfl
      dsimp only at ha ⊢
      have hb : (NameKind.free == NameKind.free) = true := by decide
      rw [if_pos hb, if_pos hb]
      unfold cellOf
      rw [ha]
      rfl
    · have hb : (k == NameKind.free) = false := by simpa using hk
      dsimp only
      rw [hb]
      rfl
theorem clFold_sub {env : Env} : ∀ (names : List (Str × NameKind)) (cs : List (Str × Addr)), (∀ p ∈ names, p.2 = .free → ∃ a, env.cells.lookup p.1 = some a) → (∀ x a, cs.lookup x = some a → env.cells.lookup x = some a) →
    (∀ x a, (names.foldl (clStep env) cs).lookup x = some a → env.cells.lookup x = some a)
  | [], _, _, h => h
  | p :: names, cs, h, hc => by
    refine clFold_sub names _ (fun q hq => h q (List.mem_cons_of_mem _ hq)) fun x a hx => ?_
    unfold clStep at hx
    split at hx
    · rename_i hk
      rw [List.lookup_cons] at hx
      cases hb : x == p.1 with
      | true =>
        rw [hb] at hx
        obtain ⟨a', ha'⟩ := h p List.mem_cons_self (beq_iff_eq.mp hk)
        rw [beq_iff_eq.mp hb, ha']
        rw [ha'] at hx
        exact hx
      | false => rw [hb] at hx; exact hc x a hx
    · exact hc x a hx
theorem clFold_keep {env : Env} : ∀ (names : List (Str × NameKind)) (cs : List (Str × Addr)) (x : Str), (∃ a, cs.lookup x = some a) → ∃ a, (names.foldl (clStep env) cs).lookup x = some a
  | [], _, _, h => h
  | p :: names, cs, x, hc => by
    refine clFold_keep names _ x ?_
    unfold clStep
    split
    · rw [List.lookup_cons]
      cases (x == p.1) with
      | true => exact ⟨_, rfl⟩
      | false => exact hc
    · exact hc
theorem clFold_has {env : Env} : ∀ (names : List (Str × NameKind)) (cs : List (Str × Addr)) (x : Str), names.lookup x = some .free → ∃ a, (names.foldl (clStep env) cs).lookup x = some a
  | [], _, _, h => by cases h
  | (y, k) :: names, cs, x, h => by
    rw [List.lookup_cons] at h
    rw [List.foldl_cons]
    cases hb : x == y with
    | true =>
      rw [hb] at h
      cases h
      refine clFold_keep names _ x ?_
      unfold clStep
      rw [if_pos (show (NameKind.free == NameKind.free) = true by decide), List.lookup_cons, hb]
      exact ⟨_, rfl⟩
    | false =>
      rw [hb] at h
      exact clFold_has names _ x h

def capO : List Str → Rho → Option Rho
  | [], _ => some []
  | y :: ys, r => match r.get y with
    | some (.sh d) => (capO ys r).map ((y, .sh d) :: ·)
    | _ => none
def shs (r : Rho) : Bool := r.all fun p => match p.2 with
  | .sh _ => true
  | _ => false
theorem kill_shs {x : Str} : ∀ {r : Rho}, shs r = true → r.kill x = r
  | [], _ => rfl
  | (y, e) :: r, h => by
    unfold shs at h
    rw [List.all_cons, Bool.and_eq_true] at h
    show (y, e.kill x) :: Rho.kill r x = _
    rw [kill_shs (r := r) h.2]
    cases e with
    | sh d => rfl
    | own _ => exact absurd h.1 (by simp)
    | app _ => exact absurd h.1 (by simp)
    | nest _ _ => exact absurd h.1 (by simp)
    | dead => exact absurd h.1 (by simp)
theorem capO_shs : ∀ {cap : List Str} {r rc : Rho}, capO cap r = some rc → shs rc = true
  | [], _, _, h => by cases h; rfl
  | y :: ys, r, rc, h => by
    unfold capO at h
    split at h
    · cases hc : capO ys r with
      | none => rw [hc] at h; cases h
      | some r' =>
        rw [hc] at h
        cases h
        have := capO_shs hc
        unfold shs at this ⊢
        rw [List.all_cons, this]
        rfl
    · cases h
theorem capO_get : ∀ {cap : List Str} {r rc : Rho}, capO cap r = some rc → ∀ {y : Str} {e : Ent}, rc.get y = some e → y ∈ cap ∧ r.get y = some e ∧ ∃ d, e = .sh d
  | [], _, _, h, y, e, q => by cases h; cases q
  | x :: ys, r, rc, h, y, e, q => by
    unfold capO at h
    split at h
    · rename_i d hx
      cases hc : capO ys r with
      | none => rw [hc] at h; cases h
      | some r' =>
        rw [hc] at h
        cases h
        unfold Rho.get at q
        rw [List.lookup_cons] at q
        cases hb : y == x with
        | true =>
          rw [hb] at q
          cases q
          have := beq_iff_eq.mp hb
          subst this
          exact ⟨List.mem_cons_self, hx, d, rfl⟩
        | false =>
          rw [hb] at q
          obtain ⟨h1, h2⟩ := capO_get hc q
          exact ⟨List.mem_cons_of_mem _ h1, h2⟩
    · cases h
theorem capO_all : ∀ {cap : List Str} {r rc : Rho}, capO cap r = some rc → ∀ {y : Str}, y ∈ cap → ∃ d, r.get y = some (.sh d)
  | [], _, _, h, y, q => by cases q
  | x :: ys, r, rc, h, y, q => by
    unfold capO at h
    split at h
    · rename_i d hx
      cases hc : capO ys r with
      | none => rw [hc] at h; cases h
      | some r' =>
        rcases List.mem_cons.mp q with e | q
        · subst e; exact ⟨d, hx⟩
        · exact capO_all hc q
    · cases h

def relabelS (csc sc : Scope) : Scope :=
  { csc with names := csc.names.map fun (n, k) => if (k == .free && sc.kind == .function && sc.names.lookup n == some .cell) then (n, .cell) else (n, k) }
theorem relabel_eq {csc sc : Scope} {env : Env} (h : env.scope = sc) : relabel csc env = relabelS csc sc := by
  subst h; rfl
/-- a comprehension's scope fits -/
def cOK (csc sc : Scope) (cap : List Str) (x : Str) : Bool :=
  (csc.names.all fun p => p.2 != .local || csc.names.lookup p.1 == some .local) && (csc.names.all fun p => p.2 != .free || cap.contains p.1) && (csc.names.all fun p => p.2 != .cell || p.1 == x) &&
  (cap.all fun y => (relabelS csc sc).names.lookup y == some .cell && sc.names.lookup y == some .cell && csc.names.lookup y == some .free)

section
variable {c : Cx} {n : Nat} {sc : Scope}

def forA (y : Str) (ft : Rho → Option Bool) (fa : Rho → Option (List D)) (fi : Rho → Option (List D)) (r : Rho) : Option (List D) :=
  (fi r).bind fun ds => if shs r && (r.get y).isNone then compF y ft fa ds r else none
theorem codeAny_compStart_1 {prog : Program} {w : World} {A : Around} {RR : Result → Shared → Prop} {s : Shared} {elt target iter : Expr} {ifs : List Expr} {g0 : Comprehension} {scope pos it acc env}
    (h0 : codeAny (model prog w) A (.compLoop (.ListComp elt [g0, ⟨target, iter, ifs, 0⟩] scope pos) 1 it acc env) RR s)
    (h : wpAny (model prog w) A (pyIter it) (fun it' s' => codeAny (model prog w) A (.compLoop (.ListComp elt [g0, ⟨target, iter, ifs, 0⟩] scope pos) 1 it' acc env) RR s')
      (notedBy (model prog w) A env fun x s' => RR (.error x) s') s) :
    codeAny (model prog w) A (.compStart (.ListComp elt [g0, ⟨target, iter, ifs, 0⟩] scope pos) 1 it acc env) RR s := by
  refine codeAny_of_tree ?_
  show wpAny _ _ ((compStart (.ListComp elt [g0, ⟨target, iter, ifs, 0⟩] scope pos) 1 it acc env).onRaise (fun x => do noteFrame x env; standAt theWindowsPlace)) _ _ s
  refine wpAny_notedAt ?_
  unfold compStart
  show wpAny _ _ (ask >>= _) _ _ s
  refine wpAny_bind (wpAny_askSetting (wpAny_ite ?_))
  split
  · first
      | exact wpAny_bind (wpAny_pure (wpAny_pure (And.intro rfl h0)))
      | exact wpAny_pure (And.intro rfl h0)
  · first
      | exact wpAny_bind (wpAny_rule (wpAny_bind (wpAny_standAt (wpAny_bind (wpAny_mono h (fun it' s' h' => wpAny_pure (And.intro rfl h')) fun _ _ x => x)))))
      | (refine wpAny_bind (wpAny_rule ?_); show wpAny _ _ (standAt iter.pos >>= _) _ _ s; exact wpAny_bind (wpAny_standAt (wpAny_bind (wpAny_mono h (fun it' s' h' => wpAny_pure (And.intro rfl h')) fun _ _ x => x))))

theorem trA_for {elt : Expr} {g0 : Comprehension} {csc : Scope} {pos : Pos} {y : Str} {py : Pos} {iter : Expr} {ifs : List Expr} {em : Value → Env → Sem Unit} {ft : Rho → Option Bool} {fa fi : Rho → Option (List D)}
    (ti : TrI true c n sc iter fi) (tt : TrTs c n sc ifs ft) (ta : TrA c n sc em fa) (hfx : sc.names.lookup y = some .local) (hxa : y ≠ ".acc")
    (hturn : ∀ it acc env, compTurn (.ListComp elt [g0, ⟨.Name y py, iter, ifs, 0⟩] csc pos) 1 it acc env = turnF y py iter ifs em (.ListComp elt [g0, ⟨.Name y py, iter, ifs, 0⟩] csc pos) 1 it acc env)
    (hfold : ∀ env v, foldedSetIterable iter env v = pure v := by intro _ _; rfl) :
    TrA c n sc (emitFor (.ListComp elt [g0, ⟨.Name y py, iter, ifs, 0⟩] csc pos) 1 iter) (forA y ft fa fi) := fun {prog w A E X0 s0 env gd hid Da r s ys l ds Q} hA hs S hr hp hl hf hlen h => by
  obtain ⟨items, h1, hf⟩ := bind_some hf
  split at hf
  · rename_i hcond
    rw [Bool.and_eq_true] at hcond
    have hrx : r.get y = none := by
      cases hq : r.get y with
      | none => rfl
      | some e => rw [hq] at hcond; exact absurd hcond.2 (by simp)
    unfold emitFor
    refine wpAny_bind (ti hA hs S h1 fun v s1 a1 it => wpAny_bind (wpAny_standAt (wpAny_bind (wpAny_of_eq (hfold _ _) (wpAny_bind (wpAny_holding ?_))))))
    have S1 := S.after a1
    refine going_state S1 it hA.hd fun I gd1 hid1 T s2 a2 S2 hT G => ?_
    have hz := (S.owp (".acc", Da) List.mem_cons_self).2.2
    have a12 := a1.trans a2
    have hp2 : s2.heap.PlainList Da ys := hp.at fun o e => a12.2.keep Da o hz e
    have hl2 := S.mvs a12 hl
    refine wpAny_bind (wpAny_runOwn ?_)
    have key : ∀ {RR : Result → Shared → Prop}, (∀ s' ys', St c X0 s0 env (gd1 ++ gd) (hid1 ++ hid) [((".acc" : Str), Da)] r s' → s'.heap.PlainList Da ys' → Rs (LP s'.heap (XX [((".acc" : Str), Da)] X0)) ys'.toList (l ++ ds) → RR (.ok .next) s') →
        codeAny (model prog w) A (.compLoop (.ListComp elt [g0, ⟨.Name y py, iter, ifs, 0⟩] csc pos) 1 (.ref I) (.ref Da) env) RR s2 := fun hR =>
      loop_acc hturn tt ta hxa hA hs (.inl (by show Env.kindOf _ _ = _; unfold Env.kindOf; rw [hs]; exact hfx)) S2 hr hrx (kill_shs hcond.1) hp2 hl2 hT G hf hlen hR
    have fin : ∀ s' ys', St c X0 s0 env (gd1 ++ gd) (hid1 ++ hid) [((".acc" : Str), Da)] r s' → s'.heap.PlainList Da ys' → Rs (LP s'.heap (XX [((".acc" : Str), Da)] X0)) ys'.toList (l ++ ds) → wpAny (model prog w) A (pure ()) Q E s' := fun s' ys' S' hp' hl' =>
      wpAny_pure (h s' ys' S'.gd_drop.hid_drop hp' hl')
    exact codeAny_compStart_1 (key fun s' ys' S' hp' hl' => fin s' ys' S' hp' hl') (G.self hT hA.hd (key fun s' ys' S' hp' hl' => fin s' ys' S' hp' hl'))
  · first | obtain ⟨rfl, rfl⟩ := some_pair hf | obtain rfl := some_one hf | cases hf
end
end Mine
end SLa13

/-! La14 -/
noncomputable section SLa14
namespace Mine
section
variable {c : Cx} {n : Nat} {sc : Scope}

theorem cOK_names {csc sc : Scope} {cap : List Str} {x : Str} (h : cOK csc sc cap x = true) : (∀ p ∈ csc.names, p.2 = .local → csc.names.lookup p.1 = some .local) ∧ (∀ p ∈ csc.names, p.2 = .free → p.1 ∈ cap) ∧ (∀ p ∈ csc.names, p.2 = .cell → p.1 = x) ∧
    (∀ y ∈ cap, (relabelS csc sc).names.lookup y = some .cell ∧ sc.names.lookup y = some .cell ∧ csc.names.lookup y = some .free) := by
  unfold cOK at h
  rw [Bool.and_eq_true, Bool.and_eq_true, Bool.and_eq_true, List.all_eq_true, List.all_eq_true, List.all_eq_true, List.all_eq_true] at h
  obtain ⟨⟨⟨h1, h2⟩, h3⟩, h4⟩ := h
  refine ⟨fun p hp e => ?_, fun p hp e => ?_, fun p hp e => ?_, fun y hy => ?_⟩
  · have := h1 p hp
    rw [e] at this
    simpa using this
  · have := h2 p hp
    rw [e] at this
    simpa using this
  · have := h3 p hp
    rw [e] at this
    simpa using this
  · have := h4 y hy
    simp only [Bool.and_eq_true, beq_iff_eq] at this
    exact ⟨this.1.1, this.1.2, this.2⟩

/-- the name that a comprehension gives its items -/
def XK (csc sc : Scope) (x : Str) : Prop := (relabelS csc sc).names.lookup x = some .local ∨ ((relabelS csc sc).names.lookup x = some .cell ∧ csc.names.lookup x = some .cell)
theorem newEnv_comp {M : Model} {A : Around} {E : Value → Shared → Prop} {s : Shared} {scope : Scope} {globals : Addr} {cl : List (Str × Addr)} {qual : Str} {env : Env} {Q : Env → Shared → Prop}
    (h : Q (newEnv scope s.heap.objs.size globals (cellsFrom (s.heap.objs.size + 1) scope.names cl) qual none .none (some env) builtinsNs) { s with heap := pushCells (s.heap.push { cls := .type "dict", data := .dict #[] }) scope.names }) :
    wpAny M A (newFunctionEnv scope globals cl [] qual none .none (some env)) Q E s := by
  simp only [newFunctionEnv, Option.isSome_some, if_true]
  refine wpAny_bind (wpAny_alloc ?_)
  refine wpAny_bind (wpAny_layCells _ (fun name kind cells => by cases hkc : kind == NameKind.cell <;> simp [hkc]) _ _ _ _ ?_)
  rw [show ({ s with heap := s.heap.push { cls := .type "dict", data := .dict #[] } } : Shared).heap.objs.size = s.heap.objs.size + 1 from Heap.size_push ..]
  refine wpAny_bind ?_
  rw [List.forIn_nil]
  exact wpAny_pure (wpAny_pure h)
theorem cellsFrom_look : ∀ (names : List (Str × NameKind)) (h : Heap) (acc : List (Str × Addr)) (y : Str) (a : Addr), (cellsFrom h.objs.size names acc).lookup y = some a →
    acc.lookup y = some a ∨ ((y, .cell) ∈ names ∧ (pushCells h names).IsCell a none ∧ h.objs.size ≤ a)
  | [], _, _, _, _, q => .inl q
  | (n, k) :: r, h, acc, y, a, q => by
    unfold cellsFrom at q
    unfold pushCells
    split at q
    · rename_i hk
      rw [if_pos hk]
      rw [show h.objs.size + 1 = (h.push { cls := .type "cell", data := .cell none }).objs.size from (Heap.size_push ..).symm] at q
      rcases cellsFrom_look r _ _ y a q with q1 | ⟨q1, q2, q3⟩
      · rw [List.lookup_cons] at q1
        cases hb : y == n with
        | true =>
          rw [hb] at q1
          cases q1
          rw [beq_iff_eq.mp hb, ← beq_iff_eq.mp hk]
          exact .inr ⟨List.mem_cons_self, ⟨_, pushCells_keeps _ _ _ _ (Heap.get?_push_size _ rfl), rfl⟩, Nat.le_refl _⟩
        | false => rw [hb] at q1; exact .inl q1
      · rw [Heap.size_push] at q3
        exact .inr ⟨List.mem_cons_of_mem _ q1, q2, Nat.le_of_succ_le q3⟩
    · rename_i hk
      rw [if_neg hk]
      rcases cellsFrom_look r _ _ y a q with q1 | ⟨q1, q2, q3⟩
      · exact .inl q1
      · exact .inr ⟨List.mem_cons_of_mem _ q1, q2, q3⟩
theorem cellsFrom_up {n0 : Nat} {y : Str} : ∀ (names : List (Str × NameKind)) (n : Nat) (acc : List (Str × Addr)), n0 ≤ n → (names.lookup y = some .cell ∨ ∃ a, acc.lookup y = some a ∧ n0 ≤ a) → ∃ a, (cellsFrom n names acc).lookup y = some a ∧ n0 ≤ a
  | [], _, _, _, h => by
    rcases h with h | h
    · cases h
    · exact h
  | (m, k) :: r, n, acc, hn, h => by
    unfold cellsFrom
    rw [List.lookup_cons] at h
    cases hb : y == m with
    | true =>
      rw [hb] at h
      split
      · refine cellsFrom_up r _ _ (Nat.le_succ_of_le hn) (.inr ⟨n, ?_, hn⟩)
        rw [List.lookup_cons, hb]
      · rename_i hk
        refine cellsFrom_up r _ _ hn ?_
        rcases h with h | h
        · cases h; exact absurd rfl hk
        · exact .inr h
    | false =>
      rw [hb] at h
      split
      · refine cellsFrom_up r _ _ (Nat.le_succ_of_le hn) ?_
        rcases h with h | ⟨a, h1, h2⟩
        · exact .inl h
        · refine .inr ⟨a, ?_, h2⟩
          rw [List.lookup_cons, hb]
          exact h1
      · exact cellsFrom_up r _ _ hn h
theorem cellsFrom_keep : ∀ (names : List (Str × NameKind)) (n : Nat) (acc : List (Str × Addr)) (y : Str), (y, .cell) ∉ names → (cellsFrom n names acc).lookup y = acc.lookup y
  | [], _, _, _, _ => rfl
  | (m, k) :: r, n, acc, y, h => by
    unfold cellsFrom
    have hr : (y, NameKind.cell) ∉ r := fun q => h (List.mem_cons_of_mem _ q)
    split
    · rename_i hk
      rw [cellsFrom_keep r _ _ y hr, List.lookup_cons, beq_eq_false_iff_ne.mpr fun e => h (by rw [e, ← beq_iff_eq.mp hk]; exact List.mem_cons_self)]
    · exact cellsFrom_keep r _ _ y hr
theorem comp_core {elt : Expr} {gs : List Comprehension} {csc : Scope} {pos cpos : Pos} {x : Str} {px : Pos} {iter : Expr} {ifs : List Expr} {em : Value → Env → Sem Unit} {fi : Rho → Option (List D)} {ft : Rho → Option Bool} {fa : Rho → Option (List D)} (cap : List Str)
    (hok : cOK csc sc cap x = true) (hfx : XK csc sc x) (hxa : x ≠ ".acc") (hck : csc.kind = .function)
    (hturn : ∀ it acc env, compTurn (.ListComp elt (⟨.Name x px, iter, ifs, 0⟩ :: gs) csc pos) 0 it acc env = turnF x px iter ifs em (.ListComp elt (⟨.Name x px, iter, ifs, 0⟩ :: gs) csc pos) 0 it acc env)
    (ti : TrI true c n sc iter fi) (tt : TrTs c n (relabelS csc sc) ifs ft) (ta : TrA c n (relabelS csc sc) em fa) (hfold : ∀ env v, foldedSetIterable iter env v = pure v)
    {prog : Program} {w : World} {A : Around} {E : Value → Shared → Prop} {X0 : List Addr} {s0 : Shared} {env : Env} {gd : List (Addr × Obj)} {hid : List (Value × D)} {ow : List (Str × Addr)} {r rc : Rho} {s : Shared} {ds out : List D} {use : Option (Value → Sem Unit)} {Q : Value → Shared → Prop}
    (hA : AOk n A) (hs : env.scope = sc) (S : St c X0 s0 env gd hid ow r s) (h1 : fi r = some ds) (h2 : capO cap r = some rc) (h3 : rc.get x = none) (h4 : rc.get ".acc" = none) (h5 : compF x ft fa ds rc = some out) (h6 : out.length ≤ lim)
    (h : ∀ Da C vs s', After c s s' → ¬ live s.heap Da → ¬ live s.heap C → (∃ m, s'.heap.Ns C m) → s'.heap.PlainList Da vs → Rs (LP s'.heap (Da :: XX ow X0)) vs.toList out → compPost (model prog w) A E use Q (.ref Da) C (.ok .next) s') :
    wpAny (model prog w) A (comprehension (.ListComp elt (⟨.Name x px, iter, ifs, 0⟩ :: gs) csc pos) csc env cpos (newList []) false (eval iter env) use) Q E s := by
  obtain ⟨n1, n2, n3, n4⟩ := cOK_names hok
  have ecl : ∀ y ∈ cap, ∃ a v d, env.cells.lookup y = some a ∧ s.heap.IsCell a (some v) ∧ R (LP s.heap (XX ow X0)) v d ∧ r.get y = some (.sh d) := fun y hy => by
    obtain ⟨d, hd⟩ := capO_all h2 hy
    obtain ⟨v, l, o⟩ := S.vars y _ hd
    have hk := (n4 y hy).2.1
    rw [← hs] at hk
    rcases l with ⟨k, _⟩ | ⟨_, a, ha, hc⟩
    · have : Env.kindOf env y = some .cell := hk
      rw [this] at k; cases k
    · exact ⟨a, v, d, ha, hc, o, hd⟩
  have hfr : ∀ p ∈ csc.names, p.2 = .free → ∃ a, env.cells.lookup p.1 = some a := fun p hp e => by
    obtain ⟨a, _, _, ha, _⟩ := ecl p.1 (n2 p hp e)
    exact ⟨a, ha⟩
  have hcl := closure_eq hfr
  have hsub := clFold_sub csc.names [] hfr (fun x a q => by cases q)
  have hhas := clFold_has (env := env) csc.names []
  generalize csc.names.foldl (clStep env) [] = cl at hcl hsub hhas
  have hrel := relabel_eq (csc := csc) hs
  refine wpAny_comprehension_free (cl := cl) rfl (hfold env) hcl hck n1 (ti hA hs S h1 fun v s1 a1 it => it hA.hd fun I fp P T hl s2 a2 hnl hlv W hT hobj hfp hhl hP => ?_)
  have S1 := S.after a1
  have S2 := S1.after a2
  obtain ⟨⟨hh2, tk2, rfl⟩, e12⟩ := a2
  refine wpAny_newObj_type (newEnv_comp ?_)
  dsimp only at hT hhl hfp S2 hlv ⊢
  generalize hH2 : hh2.push { cls := .type "list", dict := none, data := .seq ([] : List Value).toArray } = H2
  have hC : H2.objs.size = hh2.objs.size + 1 := by rw [← hH2, Heap.size_push]
  have hDC : hh2.objs.size ≠ H2.objs.size := by rw [hC]; exact Nat.ne_of_lt (Nat.lt_succ_self _)
  have hns : (pushCells (H2.push { cls := .type "dict", data := .dict #[] }) csc.names).Ns H2.objs.size (fun _ => none) := (Heap.Ns.new H2 (.type "dict")).keeps (pushCells_keeps _ _)
  have hcs := cellsFrom_look csc.names (H2.push { cls := .type "dict", data := .dict #[] }) cl
  have hck2 := fun y => cellsFrom_keep csc.names (H2.objs.size + 1) cl y
  have hch := fun q => cellsFrom_up (n0 := H2.objs.size + 1) (y := x) csc.names (H2.objs.size + 1) cl (Nat.le_refl _) (.inl q)
  rw [Heap.size_push] at hcs
  generalize cellsFrom (H2.objs.size + 1) csc.names cl = cs at hcs hck2 hch ⊢
  have up0 : ∀ b o, H2.get? b = some o → (pushCells (H2.push { cls := .type "dict", data := .dict #[] }) csc.names).get? b = some o := fun b o e => pushCells_keeps _ _ b o (Heap.get?_push_of_some _ e)
  generalize pushCells (H2.push { cls := .type "dict", data := .dict #[] }) csc.names = h4' at hns hcs up0 ⊢
  have up : ∀ b o, hh2.get? b = some o → h4'.get? b = some o := fun b o e => up0 b o (hH2 ▸ Heap.get?_push_of_some _ e)
  have hacc : h4'.PlainList hh2.objs.size #[] := ⟨_, up0 _ _ (hH2 ▸ Heap.get?_push_size _ rfl)⟩
  show codeAny (model prog w) A (.compStart _ 0 (.ref I) (.ref hh2.objs.size) (compEnvC csc cs H2.objs.size env)) (compPost (model prog w) A E use Q (.ref hh2.objs.size) H2.objs.size) { s1 with heap := h4', toks := tk2 }
  have e24 : Ext c hh2 h4' := Ext.of up
  have e14 : Ext c s1.heap h4' := e12.trans e24
  have dead2 : ∀ a, hh2.objs.size ≤ a → ¬ live hh2 a := fun a ha l => absurd l.lt (Nat.not_lt.mpr ha)
  have dead1 : ∀ a, hh2.objs.size ≤ a → ¬ live s1.heap a := fun a ha l => dead2 a ha (e12.live l)
  have dead0 : ∀ a, hh2.objs.size ≤ a → ¬ live s.heap a := fun a ha l => dead1 a ha (a1.2.live l)
  have hCle : hh2.objs.size ≤ H2.objs.size := by rw [hC]; exact Nat.le_succ _
  have hDz : hh2.objs.size ∉ c.Z := fun q => dead1 _ (Nat.le_refl _) (S1.glo.zl _ q).live
  have hCz : H2.objs.size ∉ c.Z := fun q => dead1 _ hCle (S1.glo.zl _ q).live
  obtain ⟨lst, l1, l2⟩ := pick_objs fp hfp
  have hIz : I ∉ c.Z := fun q => hnl (S1.glo.zl I q).live
  have hcells : ∀ y a, cs.lookup y = some a → env.cells.lookup y = some a ∨ (y = x ∧ h4'.IsCell a none ∧ H2.objs.size + 1 ≤ a) := fun y a q => by
    rcases hcs y a q with q | ⟨q1, q2, q3⟩
    · exact .inl (hsub y a q)
    · exact .inr ⟨n3 _ q1 rfl, q2, q3⟩
  have hCle2 : hh2.objs.size ≤ H2.objs.size + 1 := Nat.le_succ_of_le hCle
  have clt : ∀ y a, env.cells.lookup y = some a → a < hh2.objs.size := fun y a q => by
    obtain ⟨⟨v', o, q1, _⟩, _⟩ := S2.cl y a q
    exact Heap.lt_size q1
  have mono : ∀ a vs, LP hh2 (XX ow X0) a vs → LP h4' (XX [((".acc" : Str), hh2.objs.size)] (XX ow X0)) a vs := fun a vs q => by
    refine ⟨IsList.at q.1 fun o e => up a o e, fun w' => ?_⟩
    rcases List.mem_append.mp w' with w' | w'
    · have e : a = hh2.objs.size := by simpa using w'
      exact dead2 a (Nat.le_of_eq e.symm) (IsList.live q.1)
    · exact q.2 w'
  have SI : St c (XX ow X0) s1 (compEnvC csc cs H2.objs.size env) lst hl [((".acc" : Str), hh2.objs.size)] rc { s1 with heap := h4', toks := tk2 } := by
    refine ⟨hck, S.eg, S.eb, ⟨_, _, rfl⟩, S1.glo, e14, S.zX, S1.Xl, ⟨_, hns⟩, hCz, dead1 _ hCle, fun y a q => ?_, fun y z a q1 q2 => ?_, fun q => absurd rfl q, fun q => absurd rfl q, fun p hp => ?_, fun p hp => ?_, by simp, by simp, fun p hp => ?_, fun y e q => ?_⟩
    · rcases hcells _ _ q with q | ⟨_, q1, q2⟩
      · obtain ⟨⟨v', o, q1, q2⟩, q3⟩ := S1.cl y a q
        exact ⟨⟨v', o, e14.keep a o q3 q1, q2⟩, q3⟩
      · exact ⟨⟨none, q1⟩, fun w' => dead1 _ (Nat.le_trans hCle2 q2) (S1.glo.zl _ w').live⟩
    · rcases hcells _ _ q1 with w1 | ⟨w1, _, w2⟩ <;> rcases hcells _ _ q2 with w3 | ⟨w3, _, w4⟩
      · exact S.ci y z a w1 w3
      · exact absurd (clt _ _ w1) (Nat.not_lt.mpr (Nat.le_trans hCle2 w4))
      · exact absurd (clt _ _ w3) (Nat.not_lt.mpr (Nat.le_trans hCle2 w2))
      · rw [w1, w3]
    · obtain ⟨q1, q2, vs, q3, q4⟩ := l2 p hp
      obtain ⟨o, g1, g2, n', g3⟩ := q3
      have e : o = p.2 := by rw [q1] at g1; exact (Option.some.inj g1).symm
      subst e
      refine ⟨up _ _ q1, fun z => q4 (S2.zX _ z), fun w' => ?_, fun y w' => ?_, fun w' => ?_⟩
      · have : p.1 = H2.objs.size := w'
        exact dead2 p.1 (by rw [this]; exact hCle) (live.of q1)
      · rcases hcells _ _ w' with w' | ⟨_, _, w2⟩
        · exact S2.not_cell q1 (fun v w => by rw [w] at g3; cases g3) y w'
        · exact dead2 p.1 (Nat.le_trans hCle2 w2) (live.of q1)
      · have : p.1 = hh2.objs.size := by simpa using w'
        exact dead2 p.1 (Nat.le_of_eq this.symm) (live.of q1)
    · exact R.mono mono (hhl p hp)
    · have : p = ((".acc" : Str), hh2.objs.size) := by simpa using hp
      subst this
      exact ⟨⟨_, hacc⟩, dead1 _ (Nat.le_refl _), hDz⟩
    · obtain ⟨g1, g2, d, rfl⟩ := capO_get h2 q
      obtain ⟨a, v', d', q1, q2, q3, q4⟩ := ecl y g1
      rw [g2] at q4
      cases q4
      obtain ⟨a', ha'⟩ := hhas y (n4 y g1).2.2
      have : a' = a := by have := hsub _ _ ha'; rw [q1] at this; exact (Option.some.inj this).symm
      subst this
      have az := (S.cl y a' q1).2
      have hyx : y ≠ x := fun e => by rw [e, h3] at q; cases q
      have ha2 : cs.lookup y = some a' := by
        rw [hck2 y fun w => hyx (n3 _ w rfl)]
        exact ha'
      refine ⟨v', .inr ⟨.inl ?_, a', ha2, ?_⟩, ?_⟩
      · show (relabel csc env).names.lookup y = some .cell
        rw [hrel]
        exact (n4 y g1).1
      · obtain ⟨o, ho, hd⟩ := q2
        exact ⟨o, e14.keep a' o az (a1.2.keep a' o az ho), hd⟩
      · refine R.mono mono (R.mono (LP.ext e12 S.zX fun _ q => .inl q) (S.mv a1 q3))
  have G : Going c (XX ow X0) s1 (compEnvC csc cs H2.objs.size env) lst hl prog w I ds T :=
    going_of W hobj hP l1 (fun p hp => hp) hnl hIz fun q => by
      obtain ⟨p, hp, e⟩ := List.mem_map.mp q
      exact (l2 p hp).2.1 e
  have hT4 : T 0 h4' := (W A hA.hd).frame _ _ _ hT fun b _ o e => up b o e
  have hst : StC (compEnvC csc cs H2.objs.size env) s1 x := by
    have hkx : Env.kindOf (compEnvC csc cs H2.objs.size env) x = (relabelS csc sc).names.lookup x := by rw [← hrel]; rfl
    rcases hfx with q | ⟨q1, q2⟩
    · exact .inl (hkx.trans q)
    · obtain ⟨a, ha, w⟩ := hch q2
      exact .inr ⟨hkx.trans q1, a, ha, dead1 a (Nat.le_trans hCle2 w)⟩
  have loop : codeAny (model prog w) A (.compLoop (.ListComp elt (⟨.Name x px, iter, ifs, 0⟩ :: gs) csc pos) 0 (.ref I) (.ref hh2.objs.size) (compEnvC csc cs H2.objs.size env))
      (compPost (model prog w) A E use Q (.ref hh2.objs.size) H2.objs.size) { s1 with heap := h4', toks := tk2 } :=
    loop_acc (sc := relabelS csc sc) (l := []) hturn tt ta hxa hA hrel hst SI h4 h3 (kill_shs (capO_shs h2)) hacc .nil hT4 G h5 (by simpa using h6) fun s' ys' S' hp' hl' => by
      obtain ⟨m, hn⟩ := S'.ns
      obtain ⟨hh, tk, e⟩ := S'.same
      refine h _ _ ys' s' (a1.trans ⟨⟨hh, tk, e⟩, S'.keep⟩) (dead0 _ (Nat.le_refl _)) (dead0 _ hCle) ⟨m, hn⟩ hp' (Rs.mono (fun a vs q => ⟨q.1, fun w' => q.2 ?_⟩) hl')
      rcases List.mem_cons.mp w' with e | w'
      · exact List.mem_append_left _ (by rw [e]; exact List.mem_cons_self)
      · exact List.mem_append_right _ w'
  exact codeAny_compStart_list loop (G.self hT4 hA.hd loop)

/-- a comprehension, as plain data -/
def compO (cap : List Str) (x : Str) (fi : Rho → Option (List D)) (ft : Rho → Option Bool) (fa : Rho → Option (List D)) (r : Rho) : Option (List D) :=
  (fi r).bind fun ds => (capO cap r).bind fun rc => if (rc.get x).isNone && (rc.get ".acc").isNone then (compF x ft fa ds rc).bind fun out => if out.length ≤ lim then some out else none else none
theorem compO_inv {cap : List Str} {x : Str} {fi : Rho → Option (List D)} {ft : Rho → Option Bool} {fa : Rho → Option (List D)} {r : Rho} {out : List D} (h : compO cap x fi ft fa r = some out) :
    ∃ ds rc, fi r = some ds ∧ capO cap r = some rc ∧ rc.get x = none ∧ rc.get ".acc" = none ∧ compF x ft fa ds rc = some out ∧ out.length ≤ lim := by
  obtain ⟨ds, h1, h⟩ := bind_some h
  obtain ⟨rc, h2, h⟩ := bind_some h
  split at h
  · rename_i hc
    obtain ⟨o, h3, h⟩ := bind_some h
    split at h
    · rename_i hl
      cases h
      rw [Bool.and_eq_true, Option.isNone_iff_eq_none, Option.isNone_iff_eq_none] at hc
      exact ⟨ds, rc, h1, h2, hc.1, hc.2, h3, hl⟩
    · cases h
  · cases h
theorem trF_compG {elt : Expr} {gs : List Comprehension} {csc : Scope} {pos : Pos} {x : Str} {px : Pos} {iter : Expr} {ifs : List Expr} {em : Value → Env → Sem Unit} {fi : Rho → Option (List D)} {ft : Rho → Option Bool} {fa : Rho → Option (List D)} (cap : List Str)
    (hok : cOK csc sc cap x = true) (hfx : XK csc sc x) (hxa : x ≠ ".acc") (hck : csc.kind = .function)
    (hturn : ∀ it acc env, compTurn (.ListComp elt (⟨.Name x px, iter, ifs, 0⟩ :: gs) csc pos) 0 it acc env = turnF x px iter ifs em (.ListComp elt (⟨.Name x px, iter, ifs, 0⟩ :: gs) csc pos) 0 it acc env)
    (ti : TrI true c n sc iter fi) (tt : TrTs c n (relabelS csc sc) ifs ft) (ta : TrA c n (relabelS csc sc) em fa) (hfold : ∀ env v, foldedSetIterable iter env v = pure v) :
    TrF c n sc (.ListComp elt (⟨.Name x px, iter, ifs, 0⟩ :: gs) csc pos) (compO cap x fi ft fa) := fun {prog w A E X0 s0 env gd hid ow r s Q ds} hA hs S hf h => by
  obtain ⟨items, rc, h1, h2, h3, h4, h5, h6⟩ := compO_inv hf
  rw [eval_ListComp]
  refine comp_core (use := none) cap hok hfx hxa hck hturn ti tt ta hfold hA hs S h1 h2 h3 h4 h5 h6 fun Da C vs s' a hD hC ⟨m, hn⟩ hp hl => ⟨m, hn, fun h' hs' => ?_⟩
  have hne : ∀ b, live s.heap b → b ≠ C := fun b l e => hC (e ▸ l)
  obtain ⟨oC, es, ep, hoC, hdC, _⟩ := id hn
  have ln : ∀ b vs, s'.heap.IsList b vs → h'.IsList b vs := fun b vs q => IsList.at q fun o e => (hs'.2 b fun w' => by
    obtain ⟨o', e1, _, _, e2⟩ := q
    rw [w', hoC] at e1
    cases e1
    rw [hdC] at e2; cases e2).trans e
  refine h Da vs _ ⟨?_, ?_, ?_, ?_⟩ hD ?_ (Rs.mono (fun b vs q => ⟨ln b vs q.1, q.2⟩) hl)
  · obtain ⟨⟨hh, tk, rfl⟩, _⟩ := a
    exact ⟨h', tk, rfl⟩
  · exact fun b o hb e => (hs'.2 b (hne b (live.of e))).trans (a.2.keep b o hb e)
  · exact fun z hz l => (a.2.zl z hz l).keep fun o w => (hs'.2 z (hne z l.live)).trans w
  · intro z hz l
    have := a.2.zv z hz l
    unfold live at this ⊢
    rw [hs'.2 z (hne z l)]; exact this
  · obtain ⟨n', e⟩ := hp
    refine ⟨n', (hs'.2 Da fun w' => ?_).trans e⟩
    rw [w', hoC] at e
    cases e
    cases hdC
/-- x = [comprehension], on one line -/
theorem trS_assignCG {elt : Expr} {gs : List Comprehension} {csc : Scope} {pos py spos : Pos} {x y : Str} {px : Pos} {iter : Expr} {ifs : List Expr} {em : Value → Env → Sem Unit} {fi : Rho → Option (List D)} {ft : Rho → Option Bool} {fa : Rho → Option (List D)} (cap : List Str)
    (hok : cOK csc sc cap x = true) (hfx : XK csc sc x) (hxa : x ≠ ".acc") (hck : csc.kind = .function)
    (hturn : ∀ it acc env, compTurn (.ListComp elt (⟨.Name x px, iter, ifs, 0⟩ :: gs) csc pos) 0 it acc env = turnF x px iter ifs em (.ListComp elt (⟨.Name x px, iter, ifs, 0⟩ :: gs) csc pos) 0 it acc env)
    (ti : TrI true c n sc iter fi) (tt : TrTs c n (relabelS csc sc) ifs ft) (ta : TrA c n (relabelS csc sc) em fa) (hfold : ∀ env v, foldedSetIterable iter env v = pure v)
    (hsk : sc.kind = .function) (hy : sc.names.lookup y = some .local) (hb : (py.line == pos.line && !(csc.names.any fun (n, k) => n == y && (k == .local || k == .cell))) = true) :
    TrS c n sc (.Assign [.Name y py] (.ListComp elt (⟨.Name x px, iter, ifs, 0⟩ :: gs) csc pos) spos) (fun r => (compO cap x fi ft fa r).bind fun ds => some ((r.kill y).put y (.sh (.list ds)), .next)) := fun {prog w A E X0 s0 env gd hid ow r r' fl s Q} hA hs hfn S hf h => by
  obtain ⟨ds, h0, hf⟩ := bind_some hf
  first | obtain ⟨rfl, rfl⟩ := some_pair hf | obtain rfl := some_one hf | cases hf
  obtain ⟨items, rc, h1, h2, h3, h4, h5, h6⟩ := compO_inv h0
  have hky : env.kindOf y = some .local := by show env.scope.names.lookup y = _; rw [hs]; exact hy
  have hsw : swapsWith (.ListComp elt (⟨.Name x px, iter, ifs, 0⟩ :: gs) csc pos) (some (.Name y py)) spos.line env = pure true := by
    show (pure _ : Sem Bool) = _
    congr 1
    rw [hky]
    have : env.blockKind = .function := by unfold Env.blockKind; rw [hs, hsk]; rfl
    rw [this]
    have e : (some NameKind.local == some NameKind.local) = true := by decide
    have e2 : (ScopeKind.function == ScopeKind.function) = true := by decide
    rw [e, e2]
    exact hb
  rw [exec_Assign_Name_used _ _ _ _ hsw]
  refine wpAny_bind (wpAny_standAt (wpAny_bind ?_))
  show wpAny _ A (do let _ ← comprehension (.ListComp elt (⟨.Name x px, iter, ifs, 0⟩ :: gs) csc pos) csc env _ (newList []) false (eval iter env) (some (assign (.Name y py) env))) _ _ s
  refine wpAny_bind ?_
  refine comp_core (use := some (assign (.Name y py) env)) cap hok hfx hxa hck hturn ti tt ta hfold hA hs S h1 h2 h3 h4 h5 h6 fun Da C vs s' a hD hC ⟨m, hn⟩ hp hl => ?_
  refine wpAny_assign_Name (wp_storeName (S.after a) (.inl hky) fun h' tk b hw Tst => ?_)
  have hlive : ∀ b', live s.heap b' → b' ≠ C := fun b' l e => hC (e ▸ l)
  have hCl : env.locals ≠ C := by
    obtain ⟨m', o1, es, ep, g1, _⟩ := S.ns
    exact hlive _ (live.of g1)
  have hbne : b = env.locals := by
    rcases hw with ⟨_, q, _⟩ | ⟨q, _⟩
    · exact q
    · rw [hky] at q; cases q
  obtain ⟨oC, es, ep, hoC, hdC, hr⟩ := id hn
  have hCz : C ∉ c.Z := fun q => hC (S.glo.zl C q).live
  have hR : R (LP s'.heap (XX ow X0)) (.ref Da) (.list ds) := .list ⟨hp.isList, fun q => hD (S.Xl Da q)⟩ (Rs.mono (fun a vs q => ⟨q.1, fun w' => q.2 (List.mem_cons_of_mem _ w')⟩) hl)
  obtain ⟨⟨hh, tk0, rfl⟩, ea⟩ := a
  have Sf := S.store_sh (tk := tk) ea hw Tst hR
  refine ⟨m, hn.at fun o e => (Tst.sb.2 C (fun w' => hCl (hbne.symm.trans w'.symm))).trans e, fun h'' hs'' => ?_⟩
  refine wpAny_pure (wpAny_pure (h .next _ _ (Sf.side (tk := tk) (C := C) (fun b' o hb' e => (hs''.2 b' hb').trans e) (fun q => hC (S.keep.live q)) hCz (fun e => hCl e.symm) (fun q => ?_) ⟨oC, es, ep, (Tst.sb.2 C (fun w' => hCl (hbne.symm.trans w'.symm))).trans hoC, hdC⟩) trivial))
  obtain ⟨p, hp', e⟩ := List.mem_map.mp q
  exact hC (e ▸ live.of (S.gds p hp').1)

/-! one clause, two clauses -/
theorem turn_two (elt iter iter2 : Expr) (x y : Str) (px py pos : Pos) (ifs ifs2 : List Expr) (csc : Scope) (it acc : Value) (env : Env) :
    compTurn (.ListComp elt [⟨.Name x px, iter, ifs, 0⟩, ⟨.Name y py, iter2, ifs2, 0⟩] csc pos) 0 it acc env =
      turnF x px iter ifs (emitFor (.ListComp elt [⟨.Name x px, iter, ifs, 0⟩, ⟨.Name y py, iter2, ifs2, 0⟩] csc pos) 1 iter2) (.ListComp elt [⟨.Name x px, iter, ifs, 0⟩, ⟨.Name y py, iter2, ifs2, 0⟩] csc pos) 0 it acc env := by
  unfold compTurn turnF emitFor
  simp only [List.getElem?_cons_zero, List.getElem?_cons_succ, bne_self_eq_false, Bool.false_eq_true, if_false, bind_assoc, pure_bind, Nat.zero_add]
  rfl
theorem trF_comp {elt : Expr} {csc : Scope} {pos : Pos} {x : Str} {px : Pos} {iter : Expr} {ifs : List Expr} {fi : Rho → Option (List D)} {ft : Rho → Option Bool} {fe : Rho → Option D} (cap : List Str)
    (ti : TrI true c n sc iter fi) (tt : TrTs c n (relabelS csc sc) ifs ft) (te : TrE c n (relabelS csc sc) elt fe)
    (hok : cOK csc sc cap x = true := by rfl) (hfx : XK csc sc x := by first | exact .inl rfl | exact .inr ⟨rfl, rfl⟩) (hxa : x ≠ ".acc" := by decide) (hck : csc.kind = .function := by rfl) (hfold : ∀ env v, foldedSetIterable iter env v = pure v := by intro _ _; rfl) :
    TrF c n sc (.ListComp elt [⟨.Name x px, iter, ifs, 0⟩] csc pos) (compO cap x fi ft (fun r => (fe r).map fun d => [d])) :=
  trF_compG cap hok hfx hxa hck (fun _ _ _ => rfl) ti tt (trA_elt te) hfold
theorem trS_assignC {elt : Expr} {csc : Scope} {pos py spos : Pos} {x y : Str} {px : Pos} {iter : Expr} {ifs : List Expr} {fi : Rho → Option (List D)} {ft : Rho → Option Bool} {fe : Rho → Option D} (cap : List Str)
    (ti : TrI true c n sc iter fi) (tt : TrTs c n (relabelS csc sc) ifs ft) (te : TrE c n (relabelS csc sc) elt fe)
    (hok : cOK csc sc cap x = true := by rfl) (hfx : XK csc sc x := by first | exact .inl rfl | exact .inr ⟨rfl, rfl⟩) (hxa : x ≠ ".acc" := by decide) (hck : csc.kind = .function := by rfl) (hfold : ∀ env v, foldedSetIterable iter env v = pure v := by intro _ _; rfl)
    (hsk : sc.kind = .function := by rfl) (hy : sc.names.lookup y = some .local := by rfl) (hb : (py.line == pos.line && !(csc.names.any fun (n, k) => n == y && (k == .local || k == .cell))) = true := by rfl) :
    TrS c n sc (.Assign [.Name y py] (.ListComp elt [⟨.Name x px, iter, ifs, 0⟩] csc pos) spos) (fun r => (compO cap x fi ft (fun r => (fe r).map fun d => [d]) r).bind fun ds => some ((r.kill y).put y (.sh (.list ds)), .next)) :=
  trS_assignCG cap hok hfx hxa hck (fun _ _ _ => rfl) ti tt (trA_elt te) hfold hsk hy hb
theorem trF_comp2 {elt : Expr} {csc : Scope} {pos : Pos} {x y : Str} {px py : Pos} {iter iter2 : Expr} {ifs ifs2 : List Expr} {fi fi2 : Rho → Option (List D)} {ft ft2 : Rho → Option Bool} {fe : Rho → Option D} (cap : List Str)
    (ti : TrI true c n sc iter fi) (tt : TrTs c n (relabelS csc sc) ifs ft) (ti2 : TrI true c n (relabelS csc sc) iter2 fi2) (tt2 : TrTs c n (relabelS csc sc) ifs2 ft2) (te : TrE c n (relabelS csc sc) elt fe)
    (hok : cOK csc sc cap x = true := by rfl) (hfx : XK csc sc x := by first | exact .inl rfl | exact .inr ⟨rfl, rfl⟩) (hfy : (relabelS csc sc).names.lookup y = some .local := by rfl) (hxa : x ≠ ".acc" := by decide) (hya : y ≠ ".acc" := by decide) (hck : csc.kind = .function := by rfl)
    (hfold : ∀ env v, foldedSetIterable iter env v = pure v := by intro _ _; rfl) (hfold2 : ∀ env v, foldedSetIterable iter2 env v = pure v := by intro _ _; rfl) :
    TrF c n sc (.ListComp elt [⟨.Name x px, iter, ifs, 0⟩, ⟨.Name y py, iter2, ifs2, 0⟩] csc pos) (compO cap x fi ft (forA y ft2 (fun r => (fe r).map fun d => [d]) fi2)) :=
  trF_compG cap hok hfx hxa hck (turn_two _ _ _ _ _ _ _ _ _ _ _) ti tt (trA_for (elt := elt) (g0 := ⟨.Name x px, iter, ifs, 0⟩) (csc := csc) (pos := pos) (py := py) ti2 tt2 (trA_elt te) hfy hya (fun _ _ _ => rfl) hfold2) hfold
end
end Mine
end SLa14

/-! App1 -/
namespace Mine
namespace App
theorem typeOf_append : typeOf (.builtin "list.append") = pure (.type "method_descriptor") := by show builtinType _ = _; rw [builtinType_eq_fast]; kernel_rfl
theorem slot_md_get : Slot "method_descriptor" "__get__" "method_descriptor.__get__" :=
  .of (owner := "method_descriptor") (n := "__get__") (by rw [typeLookup_type, builtinLookup_eq_fast]; kernel_rfl) (by decide +kernel) (by decide +kernel) (by decide +kernel)
    (by first | exact .inl (by decide +kernel) | exact .inr (by decide +kernel)) (by rw [isSubtype_type]; kernel_rfl)
theorem md_set : typeLookup (.type "method_descriptor") "__set__" = pure none := by rw [typeLookup_type, builtinLookup_eq_fast]; kernel_rfl
theorem md_del : typeLookup (.type "method_descriptor") "__delete__" = pure none := by rw [typeLookup_type, builtinLookup_eq_fast]; kernel_rfl
theorem entry_md_get : entryFor table "method_descriptor.__get__" = some Builtin.«method_descriptor.__get__» := entryFor_of_tree (by kernel_rfl)
theorem args_md_get (a b c : Value) : argsOk "method_descriptor.__get__" ⟨[a, b, c], []⟩ := by unfold argsOk; kernel_rfl
theorem owner_append : (".".intercalate ("list.append".cutAt '.').dropLast) = "list" := by
  have e0 : "list.append".cutAt '.' = ["list", "append"] := by first | rfl | decide +kernel
  rw [e0]; decide +kernel
theorem sub_append : isSubtype (.type "list") (.type (".".intercalate ("list.append".cutAt '.').dropLast)) = pure true := by
  rw [owner_append, isSubtype_type]; kernel_rfl
theorem sub_list : isSubtype (.type "list") (.type "list") = pure true := by rw [isSubtype_type]; kernel_rfl
theorem told : Manifest.toldItsClass.contains "list.append" = false := by decide +kernel
end App
section
variable {prog : Program} {w : World} {A : Around} {E : Value → Shared → Prop} {h : Heap} {g : Array GenState} {d : Drawn} {t : Nat} {os : OsState} {a : Addr} {xs : Array Value} {k : Nat}
def appObj (a : Addr) : Obj := { cls := .type "builtin_function_or_method", data := .fields #[.builtin "list.append", .ref a] }
theorem append_get {R : Result → Shared → Prop} (hx : h.get? a = some { cls := .type "list", dict := none, data := .seq xs k }) (hq : R (.ok (.ret (.ref h.objs.size))) ⟨h.push (appObj a), g, d, t, os⟩) :
    codeAny (model prog w) A (.call (.builtin "method_descriptor.__get__") ⟨[.builtin "list.append", .ref a, .type "list"], []⟩) R ⟨h, g, d, t, os⟩ := by
  have hT : (⟨h, g, d, t, os⟩ : Shared).TypeIs (.ref a) "list" := ⟨_, hx, rfl⟩
  have hT5 : (⟨h, g, d, t, os⟩ : Shared).TypeIs (.builtin "list.append") "method_descriptor" := App.typeOf_append
  have f8 := App.sub_append
  have f9 := App.told
  refine codeAny_call_builtin App.slot_md_get.plain App.entry_md_get (App.slot_md_get.check _ _ _ _ _ _ _ _ hT5 (App.args_md_get _ _ _) ?_)
  unfold Builtin.«method_descriptor.__get__»
  refine wpAny_bind (wpAny_of_eq (a := (.builtin "list.append", some (.ref a), some (.type "list"))) (by first | rfl | kernel_rfl) ?_)
  dsimp only
  rw [if_neg (by rw [f9]; decide)]
  refine wpAny_bind ?_
  refine wpAny_bind (wpAny_of_eq (a := (Str.ofString "append", .type "list")) (by first | rfl | kernel_rfl) ?_)
  dsimp only
  refine wpAny_bind (wpAny_isInstance hT App.sub_list ?_)
  refine wpAny_pure ?_
  refine wpAny_bind (wpAny_newObj_type (wpAny_pure ?_))
  exact hq

theorem append_entry {tk : Tok} {Q : Fin → Shared → Prop} (hx : h.get? a = some { cls := .type "list", dict := none, data := .seq xs k }) (hq : Q (.done (.ret (.ref h.objs.size))) ⟨h.push (appObj a), g, d, t, os⟩) :
    wpAny (model prog w) A (Builtin.«object.__getattribute__» ⟨[.ref a, .str "append" tk], []⟩) Q E ⟨h, g, d, t, os⟩ := by
  have hT : (⟨h, g, d, t, os⟩ : Shared).TypeIs (.ref a) "list" := ⟨_, hx, rfl⟩
  have hT5 : (⟨h, g, d, t, os⟩ : Shared).TypeIs (.builtin "list.append") "method_descriptor" := App.typeOf_append
  have f4 : typeLookup (.type "list") "append" = pure (some (.builtin "list.append")) := slot_list_append.lookup
  have f5 := App.typeOf_append
  have f6 := App.slot_md_get.lookup
  have f7 := App.md_set
  have f8 := App.md_del
  unfold Builtin.«object.__getattribute__»
  repeat (any_goals (first | assumption | ((with_reducible show codeAny _ _ (.call (.builtin "method_descriptor.__get__") _) _ _); refine append_get hx ?_) | wp_step))

theorem append_attr {Q : Value → Shared → Prop} (hx : h.get? a = some { cls := .type "list", dict := none, data := .seq xs k }) (hq : ∀ t', Q (.ref h.objs.size) ⟨h.push (appObj a), g, d, t', os⟩) : wpAny (model prog w) A (getAttr (.ref a) "append" true) Q E ⟨h, g, d, t, os⟩ := by
  have hT : ∀ tk', (⟨h, g, d, tk', os⟩ : Shared).TypeIs (.ref a) "list" := fun _ => ⟨_, hx, rfl⟩
  have f3 := F.slot_list_getattribute.lookup
  have f4 := F.slot_list_getattribute.bind (.ref a)
  unfold getAttr getAttrBy
  repeat (any_goals (first | assumption | exact hT _ | ((with_reducible show wpAny _ _ (call (Value.builtin "list.__getattribute__") _ _) _ _ _); refine wpAny_call_entry F.slot_list_getattribute (hT _) F.entry_list_ga (append_entry hx ?_) (F.args_list_getattribute_2 _ _)) | wp_step))
  refine ⟨_, rfl, ?_⟩
  show wpAny _ _ (handedOut _) _ _ _
  rw [show handedOut (.ref h.objs.size) = pure (.ref h.objs.size) from rfl]
  exact wpAny_pure (hq _)
end
end Mine

/-! La15 -/
noncomputable section SLa15
namespace Mine
theorem sig_some : (Manifest.signature? "list.append").isSome = true := by kernel_rfl
theorem sig_append : Manifest.signature? "list.append" = some ((Manifest.signature? "list.append").get sig_some) := (Option.some_get _).symm
theorem kind_append : builtinKind "list.append" = some .method := by kernel_rfl
theorem va_append : Manifest.varargsMethods.contains "list.append" = false := by kernel_rfl
theorem sub_mod : isSubtype (.type "list") (.type "module") = pure false := by rw [isSubtype_type]; kernel_rfl
theorem ck_append {l : Addr} {x : Value} : Bind.checkArgs "list.append" { ((Manifest.signature? "list.append").get sig_some) with full := s!"{Bind.lastOf "list"}.{Bind.lastOf "list.append"}" } ⟨[.ref l, x], []⟩ = pure () := by kernel_rfl
section
variable {prog : Program} {w : World} {A : Around} {E : Value → Shared → Prop} {s : Shared}
theorem wp_check_append {l : Addr} {x : Value} {vs : Array Value} {k : Nat} {Q : Unit → Shared → Prop} (ho : s.heap.get? l = some { cls := .type "list", data := .seq vs k }) (h : Q () s) : wpAny (model prog w) A (checkBoundCall "list.append" ⟨[.ref l, x], []⟩) Q E s := by
  have hT : s.TypeIs (.ref l) "list" := ⟨_, ho, rfl⟩
  unfold checkBoundCall
  rw [sig_append]
  dsimp only
  rw [kind_append]
  dsimp only
  rw [if_neg (by decide)]
  refine wpAny_bind (wpAny_isInstance hT sub_mod ?_)
  rw [if_neg (by rw [va_append]; decide)]
  refine wpAny_bind ?_
  show wpAny _ _ (loadHead l >>= _) _ _ s
  refine wpAny_bind (wpAny_load ho (wpAny_pure ?_))
  dsimp only
  rw [if_neg (by decide)]
  refine wpAny_bind (wpAny_typeOf hT ?_)
  dsimp only
  exact wpAny_of_eq ck_append h
end
section
variable {prog : Program} {w : World} {A : Around} {E : Value → Shared → Prop} {s : Shared}
theorem quiet_append {as : Args} : (Code.builtin "list.append" as).quiet = true := Code.quiet_builtin _ (by decide +kernel)
theorem call_app {m l : Addr} {items : Array Value} {x : Value} {Q : Value → Shared → Prop} (hm : IsApp s.heap m l) (hl : s.heap.PlainList l items) (hsz : items.size ≤ sizeLine)
    (hQ : ∀ h', h'.PlainList l (items.push x) → Heap.SameBut l s.heap h' → Q .none { s with heap := h' }) : wpAny (model prog w) A (call (.ref m) [x]) Q E s := by
  obtain ⟨⟨cl, dct, dt, sl⟩, ho, hc, hd⟩ := hm
  dsimp only at hc hd
  subst hc hd
  refine wpAny_call (codeAny_of_tree ?_)
  show wpAny _ A.in1 (callAny (.ref m) ⟨[x], []⟩) _ _ s
  simp only [callAny]
  refine wpAny_bind (wpAny_load ho ?_)
  simp only [show (Value.type "builtin_function_or_method" == Value.type "method" || Value.type "builtin_function_or_method" == Value.type "builtin_function_or_method" || Value.type "builtin_function_or_method" == Value.type "method-wrapper") = true by decide, if_true]
  refine KFB.if_so (by decide) ?_
  obtain ⟨n, hol⟩ := hl
  refine wpAny_bind (wp_check_append hol ?_)
  refine wpAny_bind (wpAny_pure (wpAny_pure ?_))
  refine ⟨quiet_append, codeAny_builtin entry_list_append ?_⟩
  show wpAny _ _ (updateSeq l (·.push x) >>= fun _ => ret .none) _ _ s
  refine wpAny_bind ?_
  refine wpAny_updateSeq hol rfl (wpAny_pure (hQ _ ⟨n + 1, ?_⟩ (Heap.SameBut.update ..)))
  rw [Heap.get?_update_self _ hol (by rw [Obj.mapSeq_push_plain]; rfl), Obj.mapSeq_push_plain]
theorem callWith_app {M : Model} {pos : Pos} {u a : Addr} {first : List Value} {args : List (Bool × Sem Value)} {Q : Value → Shared → Prop} (hplain : args.any (·.1) = false)
    (h : wpAny M A (evalArgs (.ref u) true args []) (fun x s₁ => IsApp s₁.heap u a ∧ wpAny M A (call (.ref u) (first ++ x.pos) x.kw) Q E s₁) E s) : wpAny M A (callWith pos (.ref u) first args []) Q E s := by
  unfold callWith
  refine wpAny_bind (wpAny_holding (wpAny_mono h (fun x s₁ h₁ => wpAny_bind (wpAny_standAt ?_)) fun _ _ x => x))
  obtain ⟨⟨⟨cl, dct, dt, sl⟩, ho, hc, hd⟩, hcall⟩ := h₁
  dsimp only at hc hd
  subst hc hd
  simp only [hplain, List.any_nil, Bool.or_false]
  refine wpAny_bind (m := keeperOf (.ref u)) ?_
  unfold keeperOf
  refine wpAny_bind (wpAny_load ho ?_)
  simp only [show (Value.type "builtin_function_or_method" != Value.type "method") = true by decide, show (Value.type "builtin_function_or_method" == Value.type "builtin_function_or_method" || Value.type "builtin_function_or_method" == Value.type "method-wrapper") = true by decide, if_true]
  refine wpAny_pure ?_
  exact wpAny_bind (wpAny_mono hcall (fun r s₂ hr => wpAny_bind (wpAny_holding (wpAny_point (wpAny_pure hr)))) fun _ _ x => x)
end
section
variable {c : Cx} {n : Nat} {sc : Scope}
theorem St.store_app {X0 : List Addr} {s0 : Shared} {env : Env} {gd : List (Addr × Obj)} {hid : List (Value × D)} {ow : List (Str × Addr)} {r : Rho} {s : Shared} {h1 h' : Heap} {tk : Nat} {b : Addr} {x y : Str} {m a : Addr}
    (S : St c X0 s0 env gd hid ow r s) (e1 : Ext c s.heap h1) (hw : HW env h1 h' x (.ref m) b) (T : Step c s0 env b h1 h') (hxy : y ≠ x) (hya : (y, a) ∈ ow) (hm : IsApp h1 m a) (hmz : m ∉ c.Z) :
    St c X0 s0 env gd hid (dropO ow x) ((r.kill x).put x (.app y)) { s with heap := h', toks := tk } := by
  have sub := dropO_sub ow x
  have hX : ∀ a, a ∈ XX (dropO ow x) X0 → a ∈ XX ow X0 := fun a h => by
    rcases List.mem_append.mp h with q | q
    · exact List.mem_append_left _ ((sub.map _).subset q)
    · exact List.mem_append_right _ q
  have mon : ∀ a vs, LP h1 (XX ow X0) a vs → LP h' (XX (dropO ow x) X0) a vs := fun a vs l => ⟨T.isList l.1, fun q => l.2 (hX a q)⟩
  refine S.store e1 hw T (fun p hp hx => mem_dropO.mpr ⟨hp, hx⟩) (S.owk.sublist (sub.map _)) (S.owa.sublist (sub.map _)) (fun p hp => ?_) (fun a vs l => mon a vs (LP.ext e1 S.zX (fun _ q => .inl q) a vs l))
    (fun p hp q => (S.gds p hp).2.2.2.2 ((sub.map _).subset q)) ⟨m, a, rfl, mem_dropO.mpr ⟨hya, hxy⟩, T.isApp hm, hmz⟩
  obtain ⟨⟨vs, a1⟩, a2, a3⟩ := S.owp p (sub.subset hp)
  exact ⟨⟨vs, T.plain (a1.at fun o z => e1.keep _ o a3 z)⟩, a2, a3⟩

/-- m = y.append -/
theorem trS_app {m y : Str} {p yp apos pos : Pos} (hk : Sto sc m) (hxy : y ≠ m := by decide) (hsw : ∀ env, swapsWith (.Attribute (.Name y yp) "append" apos) (some (.Name m p)) pos.line env = pure false := by intro _; rfl)
    (hd : (y == ("__debug__" : Str)) = false := by decide) (hn : (y == ("__classdict__" : Str)) = false := by decide) :
    TrS c n sc (.Assign [.Name m p] (.Attribute (.Name y yp) "append" apos) pos) (fun r => (getOwn r y).bind fun _ => some ((r.kill m).put m (.app y), .next)) := fun {prog w A E X0 s0 env gd hid ow r r' fl s Q} hA hs hfn S hf h => by
  obtain ⟨l, h0, hf⟩ := bind_some hf
  first | obtain ⟨rfl, rfl⟩ := some_pair hf | obtain rfl := some_one hf | cases hf
  have hy := getOwn_of h0
  refine wpAny_Assign_Name (Attribute_name (ownOf S hy hd hn fun a vs hm hp hr => ?_)) (hsw _)
  obtain ⟨nn, e0⟩ := id hp
  have hz := (S.owp _ hm).2.2
  obtain ⟨hh, g, dd, tk0, os⟩ := s
  refine append_attr e0 fun t' => ?_
  have e1 : Ext c hh (hh.push (appObj a)) := Ext.push c _ _
  have S1 : St c X0 s0 env gd hid ow r ⟨hh.push (appObj a), g, dd, t', os⟩ := S.ext (tk := t') e1
  refine wp_storeName S1 (hk.of hs hfn) fun h' tk b hw T => ?_
  exact h _ _ _ (S.store_app (tk := tk) (s := ⟨hh, g, dd, tk0, os⟩) e1 hw T hxy hm ⟨_, Heap.get?_push_size _ rfl, rfl, rfl⟩ fun q => not_live_size _ (S.glo.zl _ q).live) trivial
def getApp (r : Rho) (m : Str) : Option (Str × List D) := match r.get m with
  | some (.app y) => if y = ".last" then none else (getOwn r y).map (y, ·)
  | _ => none
/-- m(e), where m is y.append -/
theorem trS_appCall {m : Str} {p pos spos : Pos} {e : Expr} {f : Rho → Option (List D)} (t : TrEs true c n sc [e] f) (pl : Plain [e])
    (hi : ∀ env, env.scope = sc → interactive env = false) (hsw : ∀ env, swapsWith (.Call (.Name m p) [e] [] pos) none spos.line env = pure false := by intro _; rfl)
    (hd : (m == ("__debug__" : Str)) = false := by decide) (hn : (m == ("__classdict__" : Str)) = false := by decide) :
    TrS c n sc (.Expr (.Call (.Name m p) [e] [] pos) spos) (fun r => (getApp r m).bind fun q => (f r).bind fun ds => match ds with | [d] => if q.2.length < lim then some (r.put q.1 (.own (q.2 ++ [d])), .next) else none | _ => none) := fun {prog w A E X0 s0 env gd hid ow r r' fl s Q} hA hs hfn S hf h => by
  obtain ⟨⟨y, l⟩, h0, hf⟩ := bind_some hf
  obtain ⟨ds, h1, hf⟩ := bind_some hf
  split at hf <;> try (cases hf; done)
  rename_i d
  split at hf
  · rename_i hl
    first | obtain ⟨rfl, rfl⟩ := some_pair hf | obtain rfl := some_one hf | cases hf
    unfold getApp at h0
    split at h0
    · rename_i y' hm
      split at h0 <;> try (cases h0; done)
      rename_i hyl'
      cases hy' : getOwn r y' with
      | none => rw [hy'] at h0; cases h0
      | some l' =>
        rw [hy'] at h0
        cases h0
        have hy := getOwn_of hy'
        obtain ⟨v, lo, mm, a, rfl, hya, hap, hmz⟩ := S.vars m _ hm
        obtain ⟨v2, _, a2, vs, rfl, hm2, hp, hr⟩ := S.vars y _ hy
        have ea : a2 = a := by
          have : ∀ (ow : List (Str × Addr)), (ow.map (·.1)).Nodup → ∀ u v, (y, u) ∈ ow → (y, v) ∈ ow → u = v := by
            intro ow
            induction ow with
            | nil => intro _ u v hu; cases hu
            | cons p q ih =>
              intro hn u v hu hv
              rw [List.map_cons, List.nodup_cons] at hn
              rcases List.mem_cons.mp hu with e1 | e1 <;> rcases List.mem_cons.mp hv with e2 | e2
              · rw [← e1] at e2; exact (Prod.mk.inj e2).2.symm
              · exact absurd (List.mem_map_of_mem (f := (·.1)) e2) (by rw [← e1] at hn; exact hn.1)
              · exact absurd (List.mem_map_of_mem (f := (·.1)) e1) (by rw [← e2] at hn; exact hn.1)
              · exact ih hn.2 u v e1 e2
          exact this ow S.owk _ _ hm2 hya
        subst ea
        refine wpAny_Expr ?_ (hi _ hs) (hsw _)
        have ld : ∀ {Q' : Value → Shared → Prop}, Q' (.ref mm) s → wpAny (model prog w) A (eval (.Name m p) env) Q' E s := fun {Q'} hq => by
          rcases lo with ⟨k, mp, hmp, q⟩ | ⟨k | k, a, ha, hc⟩
          · exact wpAny_Name (wpAny_loadName_local S.kf k hmp q hq) hd
          · exact wpAny_Name (wpAny_loadName_cell S.kf k ha hc hq) hd
          · exact wpAny_Name (wpAny_loadName_free S.kf k ha hc hq hn) hd
        refine wpAny_Call_NameR (ld ?_)
        refine callWith_app (a := a2) (pl _ _).1 (evalArgs_pl pl (t hA hs S h1 fun us s1 a1 x1 => ?_))
        have S1 := S.after a1
        have hz := (S.owp _ hm2).2.2
        have hp1 : s1.heap.PlainList a2 vs := hp.at fun o e => a1.2.keep a2 o hz e
        have hap1 : IsApp s1.heap mm a2 := by
          obtain ⟨o, ho, q⟩ := hap
          exact ⟨o, a1.2.keep mm o hmz ho, q⟩
        have hlen := Rs.length hr
        obtain ⟨u, rfl, x2⟩ := x1.one_inv
        simp only [Array.length_toList] at hlen
        refine ⟨hap1, call_app hap1 hp1 (by rw [hlen]; exact Nat.le_trans (Nat.le_of_lt hl) lim_le) fun h' hp' hs' => ?_⟩
        have S2 := S1.mutate (tk := s1.toks) hy hm2 hs' hp' (l' := l ++ [d]) ?_ hyl'
        · exact h _ _ _ S2 trivial
        · rw [Array.toList_push]
          exact Rs.append (S.mvs a1 hr) x1
    · cases h0
  · first | obtain ⟨rfl, rfl⟩ := some_pair hf | obtain rfl := some_one hf | cases hf
end
end Mine
end SLa15

/-! La16 -/
noncomputable section SLa16
namespace Mine
def oSum2 : List D → Option D
  | [.list l] => (intsOf l).map fun ns => .int ns.sum
  | _ => none
def boolsOf : List D → Option (List Bool)
  | [] => some []
  | .bool i :: r => (boolsOf r).map (i :: ·)
  | _ :: _ => none
def oIn : D → D → Option D
  | .bool b, .list l => (boolsOf l).map fun bs => .bool (bs.any (· == b))
  | .str y, .str x => some (.bool !(Builtin.Str.occurrences x y 0 x.length 1).isEmpty)
  | _, _ => none
def oNotIn : D → D → Option D
  | .bool b, .list l => (boolsOf l).map fun bs => .bool (!bs.any (· == b))
  | .str y, .str x => some (.bool (!(!(Builtin.Str.occurrences x y 0 x.length 1).isEmpty)))
  | _, _ => none
def rangeD3 (a c : Int) (k : Nat) : List D := (List.range k).map fun (i : Nat) => .int (a + i * c)
def oRange3 : List D → Option (List D)
  | [.int a, .int b, .int c] => if -(lim : Int) < a ∧ a < lim ∧ -(lim : Int) < b ∧ b < lim ∧ 0 < c ∧ c < lim ∧ Builtin.Range.rangeSize a b c ≤ lim then some (rangeD3 a c (Builtin.Range.rangeSize a b c).toNat) else none
  | _ => none
section
variable {c : Cx} {n : Nat} {sc : Scope} {b : Bool}
theorem act_sum : ActL c n (fun vs => call (.builtin "sum") vs) oSum2 := fun {prog w A E s Q vs ds d X} hA G hz hX ra ho h => by
  unfold oSum2 at ho
  split at ho
  · rename_i l
    cases h1 : intsOf l with
    | none => rw [h1] at ho; cases ho
    | some ns =>
      rw [h1] at ho
      first | obtain ⟨rfl, rfl⟩ := some_pair ho | obtain rfl := some_one ho | cases ho
      obtain ⟨v, rfl, r⟩ := ra.one_inv
      obtain ⟨a, vs, rfl, p, q⟩ := r.list_inv
      obtain ⟨xs, e1, e2⟩ := Rs.ints q h1
      have e3 : vs = intItems xs.toArray := by
        apply Array.ext'
        rw [e1]; simp [intItems]
      refine sum_intListG hA.hd (e3 ▸ p.1) fun h' tk t' hk => ?_
      have e4 : preSum (numAt xs.toArray) xs.toArray.size = ns.sum := by
        rw [preSum_eq, List.take_of_length_le (by simp), ← e2]
      rw [e4]
      exact h _ _ (After.heap tk (Ext.of hk)) .int
  · first | obtain ⟨rfl, rfl⟩ := some_pair ho | obtain rfl := some_one ho | cases ho
theorem Rs.bools {P : Addr → Array Value → Prop} {vs : List Value} {ds : List D} {bs : List Bool} (q : Rs P vs ds) (h : boolsOf ds = some bs) : D.pys ds = some (bs.map PyData.bool) :=
  Rs.ind (M := fun vs ds => ∀ bs, boolsOf ds = some bs → D.pys ds = some (bs.map PyData.bool)) (fun bs h => by cases h; rfl) (fun {v d vs ds} r _ ih bs h => by
    cases d <;> try (cases h; done)
    rename_i i
    obtain ⟨ms, hd, rfl⟩ := Option.map_eq_some_iff.mp (show (boolsOf ds).map (i :: ·) = some bs from h)
    unfold D.pys
    rw [ih ms hd]
    rfl) q bs h
theorem lay_bools : ∀ bs : List Bool, PyData.canLayAll0 (bs.map PyData.bool) = true
  | [] => rfl
  | b :: r => by
    show (PyData.canLay0 (.bool b) && PyData.canLayAll0 (r.map PyData.bool)) = true
    rw [lay_bools r]; rfl
theorem any_bools (bs : List Bool) (b : Bool) : ((bs.map PyData.bool).any fun y => PyData.eqv y (.bool b)) = bs.any (· == b) := by
  rw [List.any_map]
  first
    | (congr 1; done)
    | (congr 1; funext x; cases x <;> cases b <;> rfl)
theorem act_in : Act2 c n (compareOp .In) oIn := fun {prog w A E s Q a b da db d X} hA G hz hX ra rb ho h => by
  unfold oIn at ho
  split at ho
  · rename_i bb l
    cases h1 : boolsOf l with
    | none => rw [h1] at ho; cases ho
    | some bs =>
      rw [h1] at ho
      first | obtain ⟨rfl, rfl⟩ := some_pair ho | obtain rfl := some_one ho | cases ho
      obtain ⟨as, r1⟩ := R.reads ra (p := .bool bb) rfl
      have e : D.py (.list l) = some (.list (bs.map PyData.bool)) := by
        obtain ⟨a, vs, rfl, p, q⟩ := rb.list_inv
        unfold D.py
        rw [Rs.bools q h1]
        rfl
      obtain ⟨as2, r2⟩ := R.reads rb e
      refine SeqAt.in_list_reads r2 r1 (lay_bools bs) rfl ?_ ?_
      · have := hA.un
        show A.units + 1 + min _ 0 < 9900
        lia
      · rw [any_bools]
        exact h _ _ (After.refl c _) .bool
  · first | obtain ⟨rfl, rfl⟩ := some_pair ho | obtain rfl := some_one ho | cases ho
    obtain ⟨t, rfl⟩ := ra.str_inv
    obtain ⟨u, rfl⟩ := rb.str_inv
    exact in_str (h _ _ (After.refl c _) .bool)
  · first | obtain ⟨rfl, rfl⟩ := some_pair ho | obtain rfl := some_one ho | cases ho
theorem act_notIn : Act2 c n (compareOp .NotIn) oNotIn := fun {prog w A E s Q a b da db d X} hA G hz hX ra rb ho h => by
  unfold oNotIn at ho
  split at ho
  · rename_i bb l
    cases h1 : boolsOf l with
    | none => rw [h1] at ho; cases ho
    | some bs =>
      rw [h1] at ho
      first | obtain ⟨rfl, rfl⟩ := some_pair ho | obtain rfl := some_one ho | cases ho
      obtain ⟨as, r1⟩ := R.reads ra (p := .bool bb) rfl
      have e : D.py (.list l) = some (.list (bs.map PyData.bool)) := by
        obtain ⟨a, vs, rfl, p, q⟩ := rb.list_inv
        unfold D.py
        rw [Rs.bools q h1]
        rfl
      obtain ⟨as2, r2⟩ := R.reads rb e
      refine SeqAt.notIn_list_reads r2 r1 (lay_bools bs) rfl ?_ ?_
      · have := hA.un
        show A.units + 1 + min _ 0 < 9900
        lia
      · rw [any_bools]
        exact h _ _ (After.refl c _) .bool
  · first | obtain ⟨rfl, rfl⟩ := some_pair ho | obtain rfl := some_one ho | cases ho
    obtain ⟨t, rfl⟩ := ra.str_inv
    obtain ⟨u, rfl⟩ := rb.str_inv
    exact notIn_str (h _ _ (After.refl c _) .bool)
  · first | obtain ⟨rfl, rfl⟩ := some_pair ho | obtain rfl := some_one ho | cases ho

theorem small3 {a b k : Int} (h : -(lim : Int) < a ∧ a < lim ∧ -(lim : Int) < b ∧ b < lim ∧ 0 < k ∧ k < lim ∧ Builtin.Range.rangeSize a b k ≤ lim) (h0 : 0 ≤ Builtin.Range.rangeSize a b k) : Builtin.Range.small a b k = true := by
  have hlim := lim_eq
  unfold Builtin.Range.small
  simp only [Builtin.Range.rangeFitsLong, Bool.and_eq_true, Bool.or_eq_true, decide_eq_true_eq, beq_iff_eq, h.2.2.2.2.1, gt_iff_lt, if_true]
  omega
theorem rangeSize_nonneg {a b k : Int} (h : 0 < k) : 0 ≤ Builtin.Range.rangeSize a b k := by
  unfold Builtin.Range.rangeSize
  rw [if_pos h]
  split
  · have : 0 ≤ (b - a - 1) / k := Int.ediv_nonneg (by lia) (by lia)
    omega
  · exact Int.le_refl _
/-- list(range(a, b, c)) -/
theorem trF_range3 {p1 p2 q1 q2 : Pos} {es : List Expr} {f : Rho → Option (List D)} (tl : TrE c n sc (.Name "list" p1) (fun _ => some (.ty "list"))) (tn : TrE c n sc (.Name "range" p2) (fun _ => some (.ty "range"))) (ta : TrEs true c n sc es f) (pl : Plain es) (pl2 : Plain [.Call (.Name "range" p2) es [] q2]) :
    TrF c n sc (.Call (.Name "list" p1) [.Call (.Name "range" p2) es [] q2] [] q1) (fun r => (f r).bind oRange3) := fun {prog w A E X0 s0 env gd hid ow r s Q ds} hA hs S hf h => by
  obtain ⟨l, h1, hf⟩ := bind_some hf
  unfold oRange3 at hf
  split at hf <;> try (cases hf; done)
  rename_i a b k
  split at hf <;> try (cases hf; done)
  rename_i hb
  have hlim := lim_eq
  first | obtain ⟨rfl, rfl⟩ := some_pair hf | obtain rfl := some_one hf | cases hf
  refine wpAny_Call_NameR (tl hA hs S rfl fun v s1 a1 x1 => ?_)
  obtain rfl := x1.ty_inv
  have S1 := S.after a1
  refine PySem.callWith_type (pl2 _ _).1 (evalArgs_pl pl2 ?_)
  refine spliced_more ?_ rfl
  refine wpAny_Call_NameR (tn hA hs S1 rfl fun v s2 a2 x2 => ?_)
  obtain rfl := x2.ty_inv
  have S2 := S1.after a2
  refine PySem.callWith_type (pl _ _).1 (evalArgs_pl pl (ta hA hs S2 h1 fun vs s3 a3 x3 => ?_))
  obtain ⟨u1, u2, u3, rfl, y1, y2, y3⟩ := x3.three_inv
  obtain ⟨t1, rfl⟩ := y1.int_inv
  obtain ⟨t2, rfl⟩ := y2.int_inv
  obtain ⟨t3, rfl⟩ := y3.int_inv
  refine call_range_3 (by lia) ?_ (Or.inl (PyProof.noPylong_small (by omega)))
  refine spliced_none ?_
  have hn0 := rangeSize_nonneg (a := a) (b := b) hb.2.2.2.2.1
  have hR : IsRange (s3.heap.push { cls := .type "range", data := .fields #[.int a t1, .int b t2, .int k t3] }) s3.heap.objs.size a b k t1 t2 t3 := Heap.get?_push_size _ rfl
  have ap : After c s3 { s3 with heap := s3.heap.push { cls := .type "range", data := .fields #[.int a t1, .int b t2, .int k t3] }, toks := s3.toks } := After.push c _ _ _
  refine call_list_range hA.hd hR (small3 hb hn0) (n := (Builtin.Range.rangeSize a b k).toNat) (by lia) (by omega) fun h' tk acc' c' hk hS' hacc => ?_
  have aall := ((a1.trans a2).trans a3).trans ap
  refine h _ acc' _ (aall.trans (After.heap tk (Ext.of hk))) (fun q => not_live_size _ (aall.2.live q)) ⟨c', hS'⟩ ?_
  have key : ∀ (vs : List Value) (m i : Nat), vs.length = m → (∀ (j : Nat) (v : Value), vs[j]? = some v → ∃ t, v = Value.int (a + ((i + j : Nat) : Int) * k) t) → Rs (LP h' ((s3.heap.push { cls := .type "range", data := .fields #[.int a t1, .int b t2, .int k t3] }).objs.size :: XX ow X0)) vs ((List.range' i m).map fun (i : Nat) => D.int (a + (i : Int) * k)) := by
    intro vs
    induction vs with
    | nil => intro m i hm _; cases hm; exact .nil
    | cons v vs ih =>
      intro m i hm hv
      cases m with
      | zero => cases hm
      | succ m =>
        rw [List.range'_succ, List.map_cons]
        obtain ⟨t, rfl⟩ := hv 0 v rfl
        refine Rs.cons R.int (ih m (i + 1) (by simpa using hm) fun j v hj => ?_)
        obtain ⟨t, e⟩ := hv (j + 1) v (by simpa using hj)
        exact ⟨t, by rw [e]; congr 4; lia⟩
  have := key acc'.toList _ 0 (by simpa using hacc.1) fun j v hj => by
    have := hacc.2 j v (by simpa using hj)
    simpa using this
  unfold rangeD3
  rw [List.range_eq_range']
  exact this
end
end Mine
end SLa16

/-! Obj1 -/
noncomputable section SObj1
namespace Mine
namespace Ob
theorem mro_object : mroOf (.type "object") = pure [.type "object"] := by kernel_rfl
theorem lookup_object_new : typeLookup (.type "object") "__new__" = pure (some (.builtin "object.__new__")) := by rw [typeLookup_type, builtinLookup_eq_fast]; kernel_rfl
theorem slot_object_init : Slot "object" "__init__" "object.__init__" :=
  .of (owner := "object") (n := "__init__") (by rw [typeLookup_type, builtinLookup_eq_fast]; kernel_rfl) (by decide +kernel) (by decide +kernel) (by decide +kernel)
    (by first | exact .inl (by decide +kernel) | exact .inr (by decide +kernel)) (by rw [isSubtype_type]; kernel_rfl)
theorem made_object : Bind.madeBy (.type "object") = pure (some "object.__new__") := madeBy_type mro_object lookup_object_new (by decide +kernel)
theorem called_object : TypeCalled "object" "object.__new__" "object.__init__" :=
  ⟨by decide +kernel, by decide +kernel, ⟨_, _, mro_object⟩, made_object, by decide +kernel, by rw [isSubtype_type]; kernel_rfl, slot_object_init⟩
theorem typeCall_object : checkTypeCall "object" ⟨[], []⟩ = pure () := by kernel_rfl
theorem newCall_object : checkBuiltinCall "object.__new__" ⟨[.type "object"], []⟩ = pure () := by kernel_rfl
theorem initArgs_object (obj : Value) : argsOk "object.__init__" ⟨[obj], []⟩ := by unfold argsOk; kernel_rfl
theorem refuse_object : ((Manifest.find? "object").elim false (·.mro.any fun t => (Manifest.find? t).elim false (·.noNew))) = false := by decide +kernel
theorem here_object : Bind.madeHere "object.__new__" (.type "object") = pure () := by kernel_rfl
theorem dict_object : typeHasDict (.type "object") = false := by kernel_rfl
theorem dies_object : diesByItsTypesDel "object" = false := by kernel_rfl
end Ob
section
variable {prog : Program} {w : World} {A : Around} {E : Value → Shared → Prop} {s : Shared}
theorem new_object : Meets (Builtin.«object.__new__» ⟨[.type "object"], []⟩) (fun _ R s => R (.ok (.ret (.ref s.heap.objs.size))) { s with heap := s.heap.push { cls := .type "object" } }) :=
  Meets.of_wp fun prog w A R s h => by
    unfold Builtin.«object.__new__»
    dsimp only
    refine wpAny_bind (wpAny_pure ?_)
    rw [if_neg (by decide)]
    rw [Ob.refuse_object, if_neg (by decide)]
    refine wpAny_bind (wpAny_of_eq Ob.here_object ?_)
    rw [if_neg (by decide), if_neg (by rw [Ob.dict_object]; decide)]
    refine wpAny_bind (wpAny_pure ?_)
    refine wpAny_bind (wpAny_newObj_type ?_)
    rw [if_neg (by rw [Ob.dies_object]; decide)]
    exact wpAny_pure ⟨_, rfl, h⟩
theorem call_object {Q : Value → Shared → Prop} (h : Q (.ref s.heap.objs.size) { s with heap := s.heap.push { cls := .type "object" } }) : wpAny (model prog w) A (call (.type "object") []) Q E s :=
  callType_meets (Q₁ := fun obj s₁ => s₁.TypeIs obj "object" ∧ Q obj s₁) Ob.called_object Ob.typeCall_object Ob.newCall_object F.entry_object_new F.entry_object_init new_object ⟨⟨_, Heap.get?_push_size _ rfl, rfl⟩, h⟩ fun obj s₁ hq =>
    ⟨hq.1, Ob.initArgs_object obj, _, Meets.of_wp (S := fun _ R s => R (.ok (.ret .none)) s) fun prog w A R s hs => wpAny_pure ⟨_, rfl, hs⟩, rfl, hq.2⟩
end

/-! ### a fresh object in a name -/
def objD (g : Rho → Option (Rho × Fl)) (x : Str) (r : Rho) (d : D) : Prop := ∀ a : Addr, ∃ r', g ((r.kill x).put x (.sh (.adr a))) = some (r', .ret d)
open Classical in
def objF (g : Rho → Option (Rho × Fl)) (x : Str) (r : Rho) : Option (Rho × Fl) := if h : ∃ d, objD g x r d then some ([], .ret h.choose) else none
theorem objF_of {g : Rho → Option (Rho × Fl)} {x : Str} {r : Rho} {d : D} (h : objD g x r d) : objF g x r = some ([], .ret d) := by
  unfold objF
  have hx : ∃ d, objD g x r d := ⟨d, h⟩
  rw [dif_pos hx]
  obtain ⟨r1, e1⟩ := h 0
  obtain ⟨r2, e2⟩ := hx.choose_spec 0
  rw [e1] at e2
  cases e2
  rfl
section
variable {c : Cx} {n : Nat} {sc : Scope}
/-- x = object(); the rest does not depend on its place -/
theorem trSs_obj {x : Str} {p q pos spos : Pos} {es : List Stmt} {g : Rho → Option (Rho × Fl)} (tn : TrE c n sc (.Name "object" q) (fun _ => some (.ty "object"))) (u : TrSs c n sc es g) (hk : Sto sc x)
    (hsw : ∀ env, swapsWith (.Call (.Name "object" q) [] [] pos) (some (.Name x p)) spos.line env = pure false := by intro _; rfl) :
    TrSs c n sc (.Assign [.Name x p] (.Call (.Name "object" q) [] [] pos) spos :: es) (objF g x) := fun {prog w A E X0 s0 env gd hid ow r r' fl s Q} hA hs hfn S hf h => by
  unfold objF at hf
  split at hf
  · rename_i hx
    first | obtain ⟨rfl, rfl⟩ := some_pair hf | obtain rfl := some_one hf | cases hf
    refine wpAny_execs_cons (wpAny_Assign_Name (wpAny_Call_NameR (tn hA hs S rfl fun v s1 a1 x1 => ?_)) (hsw _))
    obtain rfl := x1.ty_inv
    have S1 := S.after a1
    refine PySem.callWith_type (plain_nil env pos).1 (evalArgs_pl plain_nil (spliced_none ?_))
    refine call_object ?_
    have a2 : After c s { s1 with heap := s1.heap.push { cls := .type "object" } } := a1.trans (After.heap0 (Ext.push c _ _))
    have S2 := S.after a2
    refine wp_storeName S2 (hk.of hs hfn) fun h' tk b hw T => ?_
    obtain ⟨⟨h1', tk1, e⟩, e1⟩ := a2
    have S3 := S2.store_sh (tk := tk) (Ext.refl c _) hw T (d := .adr s1.heap.objs.size) .adr
    obtain ⟨r2, e2⟩ := hx.choose_spec s1.heap.objs.size
    refine u hA hs hfn S3 e2 fun f' s' ow' S' hr => ?_
    exact h _ _ _ (S'.weaken fun x e q => by cases q) hr
  · first | obtain ⟨rfl, rfl⟩ := some_pair hf | obtain rfl := some_one hf | cases hf
end
end Mine
end SObj1

/-! Tra1 -/
noncomputable section STra1
namespace Mine
namespace Tr
theorem sub_key : isSubtype (.type "KeyError") (.type "LookupError") = pure true := by rw [isSubtype_type]; kernel_rfl
end Tr
section
variable {prog : Program} {w : World} {A : Around} {E : Value → Shared → Prop} {s : Shared}
theorem table_miss {d : Addr} {f : Int → Option Value} {k : Nat} {Q : Builtin.Str.Mapped → Shared → Prop} (hd : (d == sysModules) = false) (hh : A.handled = none) (hm : s.heap.MapOf (intKind prog w) d f) (hv : f k = none)
    (h : ∀ h' tk, (∀ b o, s.heap.get? b = some o → h'.get? b = some o) → Q .keep { s with heap := h', toks := tk }) : wpAny (model prog w) A (Builtin.Str.tableLookup (.ref d) k) Q E s := by
  unfold Builtin.Str.tableLookup
  refine wpAny_bind (wpAny_attempt (wpAny_bind (wpAny_mkInt ?_)))
  refine wpAny_getItem_missing_of (knd := intKind prog w) (k := (k : Int)) (by simp [intKind, Value.isInt]) hd hh hm hv fun h' e N => ?_
  dsimp only
  obtain ⟨ob, t, h1, h2, h3⟩ := N.there
  refine wpAny_bind (wpAny_isInstance ⟨ob, h1, h2⟩ Tr.sub_key ?_)
  rw [if_pos rfl]
  exact wpAny_bind (wpAny_rule (wpAny_pure (h _ _ fun b o e => N.keeps b o e)))
theorem trans_miss {d : Addr} {f : Int → Option Value} {k : Nat} {t : Tok} {Q : Fin → Shared → Prop} (hk : k < 128) (hd : (d == sysModules) = false) (hh : A.handled = none) (hm : s.heap.MapOf (intKind prog w) d f) (hv : f k = none)
    (h : ∀ h' tk t', (∀ b o, s.heap.get? b = some o → h'.get? b = some o) → Q (.done (.ret (.str ⟨#[k]⟩ t'))) { s with heap := h', toks := tk }) : wpAny (model prog w) A (Builtin.«str.translate» ⟨[.str ⟨#[k]⟩ t, .ref d], []⟩) Q E s := by
  unfold Builtin.«str.translate»
  refine wpAny_bind (wpAny_of_eq (a := (.str ⟨#[k]⟩ t, ⟨#[k]⟩, .ref d)) (by first | rfl | kernel_rfl) ?_)
  dsimp only
  rw [if_neg (by show ¬ (1 == 0) = true; decide)]
  rw [← Array.forIn_toList]
  simp only [List.forIn_cons, List.forIn_nil]
  have hf : (#[k].all fun x => decide (x < 128)) = true := by simp [hk]
  have tl0 : Builtin.Str.tooLong 0 = false := by first | rfl | decide
  have tl1 : Builtin.Str.tooLong 1 = false := by first | rfl | decide
  refine wpAny_bind (wpAny_bind ?_)
  rw [if_neg (by rw [tl0]; decide), if_pos hf]
  dsimp only [List.lookup]
  refine wpAny_bind (table_miss hd hh hm hv fun h' tk hk' => ?_)
  dsimp only
  refine wpAny_bind (wpAny_pure ?_)
  dsimp only
  refine wpAny_pure ?_
  dsimp only
  refine wpAny_pure ?_
  dsimp only
  rw [if_neg (by show ¬ Builtin.Str.tooLong 1 = true; rw [tl1]; decide)]
  refine wpAny_bind (wpAny_mkStr (wpAny_pure ?_) (by show 1 ≤ sizeLine; rw [sizeLine_eq]; lia))
  exact h _ _ _ hk'
end
/-- x.translate(table) for one sign that the table does not hold -/
def oTrans (ta : Addr) (ks : List Nat) (ds : List D) : Option D :=
  open Classical in if ∃ k ∈ ks, ds = [.str ⟨#[k]⟩, .adr ta] then ds.head? else none
theorem act_trans {c : Cx} {n : Nat} {ta : Addr} {ks : List Nat} {es : Array DictEntry} {ep : Nat} (hob : c.FT ta = some { cls := .type "dict", data := .dict es ep }) (hd : (ta == sysModules) = false) (hk : IntKeys es)
    (hn : ∀ k ∈ ks, findBy Value.isInt es (k : Int) = none ∧ k < 128) : ActL c n (fun vs => call (.builtin "str.translate") vs) (oTrans ta ks) := fun {prog w A E s Q vs ds d X} hA G hz hX ra ho h => by
  unfold oTrans at ho
  split at ho
  · rename_i hc
    obtain ⟨k, hks, rfl⟩ := hc
    obtain ⟨hf, hlt⟩ := hn k hks
    obtain rfl := some_one ho
    obtain ⟨v, u, rfl, r1, r2⟩ := ra.two_inv
    obtain ⟨t, rfl⟩ := r1.str_inv
    have eu := r2.adr_inv
    subst eu
    have hm : s.heap.IntMap ta (fun k => findBy Value.isInt es k) := ⟨_, es, ep, G.obs ta _ hob, rfl, rfl, hk, fun _ => rfl⟩
    have hm2 : s.heap.MapOf (intKind prog w) ta (fun k => findBy Value.isInt es k) := hm.mapOf fun o e => by
      rw [G.obs ta _ hob] at e; cases e; exact ⟨rfl, rfl⟩
    refine wpAny_call_entry F.slot_str_translate (typeIs_str _ _ _) F.entry_str_translate ?_ (F.args_str_translate_2 _ _)
    exact trans_miss hlt hd hA.hd hm2 hf fun h' tk t' hk' => ⟨_, rfl, h _ _ (After.heap tk (Ext.of hk')) .str⟩
  · cases ho
end Mine
end STra1

/-! La17 -/
noncomputable section SLa17
namespace Mine
section
variable {prog : Program} {w : World} {A : Around} {s : Shared}
theorem codeAny_call_cellsB {R : Result → Shared → Prop} {a : Addr} {o : Obj} {fd : FuncData} {body : List Stmt} {vals : List Value} {binds : List (Str × Value)}
    (hroom : A.depth < recursionLimit) (ho : s.heap.get? a = some o) (hdata : o.data = .func fd) (hlim : s.heap.NoLimit) (hcd : s.heap.CodeRec fd.code fd.qualname)
    (hbody : fd.body = .stmts body) (hbind : BindsTo s fd ⟨vals, []⟩ binds) (hclo : fd.closure = [])
    (hkind : ∀ x ∈ binds, fd.scope.names.lookup x.1 = some .local ∨ (fd.scope.names.lookup x.1 = some .cell ∧ ((cellsFrom (s.heap.objs.size + 1) fd.scope.names []).lookup x.1).isSome = true))
    (h : ∀ s₁, InCallC s (callEnvC fd s.heap.objs.size a).locals (bindL (callEnvC fd s.heap.objs.size a).kindOf binds fun _ => none) (callEnvC fd s.heap.objs.size a).cells
        (bindC (callEnvC fd s.heap.objs.size a).kindOf binds fun _ => none) s₁ →
      wpAny (model prog w) (A.deeper (callEnvC fd s.heap.objs.size a)) (execs body (callEnvC fd s.heap.objs.size a)) (fun f s' => R (.ok (.ret (match f with | .ret v => v | _ => .none))) s')
        (fun e s' => wpAny (model prog w) (A.deeper (callEnvC fd s.heap.objs.size a)) (leaving (callEnvC fd s.heap.objs.size a) e) (fun _ s'' => R (.error e) s'') (fun e' s'' => R (.error e') s'') s') s₁)
    (hco : fd.scope.isCoroutine = false := by rfl) (hgen : fd.scope.isGenerator = false := by rfl) (hk : fd.scope.kind = .function := by rfl) :
    codeAny (model prog w) A (.call (.ref a) ⟨vals, []⟩) R s := by
  refine codeAny_call_function hroom ho hdata hco hgen hbody hcd (hbind _ _ _ _ ?_)
  rw [hclo]
  refine wpAny_newFunctionEnv_cells hk hkind fun env he s' x => ?_
  subst he
  exact ⟨hlim.keeps x.toInCall.keep, codeAny_func (h s' x)⟩
end
section
variable {c : Cx} {n : Nat}
/-- a def of the module's, once its body is known -/
theorem act_defB {fa : Addr} {ob : Obj} {fd : FuncData} {body : List Stmt} {names : List Str} {f : Rho → Option (Rho × Fl)} {F : List D → Option D}
    (hob : c.FT fa = some ob) (hd : ob.data = .func fd) (hcr : ∀ h, Glo c h → h.CodeRec fd.code fd.qualname) (hbody : fd.body = .stmts body) (hclo : fd.closure = [])
    (hgl : fd.globals = mainGlobals) (hbi : fd.builtins = builtinsNs) (hnd : names.Nodup)
    (hbind : ∀ (s : Shared) vals, Glo c s.heap → vals.length = names.length → BindsTo s fd ⟨vals, []⟩ (names.zip vals))
    (hkind : ∀ x ∈ names, fd.scope.names.lookup x = some .local ∨ fd.scope.names.lookup x = some .cell)
    (t : TrSs c n fd.scope body f)
    (hF : ∀ ds d, F ds = some d → ds.length = names.length ∧ ∃ r', f (names.zip (ds.map Ent.sh)) = some (r', .ret d))
    (hco : fd.scope.isCoroutine = false := by rfl) (hgen : fd.scope.isGenerator = false := by rfl) (hk : fd.scope.kind = .function := by rfl) :
    ActL c (n + 1) (fun vs => call (.ref fa) vs) F := fun {prog w A E s Q vs ds d X} hA G hz hX ra ho h => by
  obtain ⟨hlen, r', hf⟩ := hF ds d ho
  have hvl : vs.length = names.length := (Rs.length ra).trans hlen
  have hmap : (names.zip vs).map (·.1) = names := by
    rw [List.map_fst_zip]; lia
  refine wpAny_call (codeAny_call_cellsB (binds := names.zip vs) hA.room (G.obs fa ob hob) hd G.lim (hcr _ G) hbody (hbind s vs G hvl) hclo (fun x hx => ?_) (fun s1 I => ?_) hco hgen hk)
  · have hm : x.1 ∈ names := by rw [← hmap]; exact List.mem_map_of_mem (f := (·.1)) hx
    rcases hkind x.1 hm with e | e
    · exact .inl e
    · exact .inr ⟨e, cellsFrom_has _ _ _ _ e⟩
  · have hLs : ¬ live s.heap s.heap.objs.size := not_live_size _
    have hfr : ∀ a, s.heap.objs.size ≤ a → ¬ live s.heap a := fun a ha l => absurd l.lt (Nat.not_lt.mpr ha)
    have hcf : ∀ x a, (callEnvC fd s.heap.objs.size fa).cells.lookup x = some a → ¬ live s.heap a := fun x a q => hfr a (Nat.le_of_lt (I.above x a (mem_of_lookup q)))
    have S : St c X s (callEnvC fd s.heap.objs.size fa) [] [] [] (names.zip (ds.map Ent.sh)) s1 := by
      refine ⟨hk, hgl, hbi, I.toInCall.same, G, Ext.of I.toInCall.keep, hz, hX, ⟨_, I.toInCall.ns⟩, fun q => hLs (hX _ (hz _ q)), hLs, fun x a q => ?_, fun x y a q1 q2 => name_of_addr I.apart (mem_of_lookup q1) (mem_of_lookup q2), fun _ x a _ q => hcf x a q, fun _ x q => ?_, fun p hp => (nomatch hp), fun p hp => (nomatch hp), .nil, .nil, fun p hp => (nomatch hp), fun x e q => ?_⟩
      · exact ⟨⟨_, I.cell x a q⟩, fun z => hcf x a q (hX _ (hz _ z))⟩
      · exact Option.isSome_iff_exists.mp (cellsFrom_has _ _ _ _ q)
      · obtain ⟨v, d', rfl, r1, hm⟩ := zip_get ra q
        refine ⟨v, ?_, R.mono (LP.ext (Ext.of I.toInCall.keep) hz fun _ q => .inl q) r1⟩
        have hmx : x ∈ names := by rw [← hmap]; exact List.mem_map_of_mem (f := (·.1)) hm
        rcases hkind x hmx with e | e
        · exact .inl ⟨e, _, I.toInCall.ns, bindL_hit e _ _ (by rw [hmap]; exact hnd) hm⟩
        · obtain ⟨a, ha⟩ := Option.isSome_iff_exists.mp (cellsFrom_has fd.scope.names (s.heap.objs.size + 1) [] x e)
          have hc := I.cell x a ha
          have hne : (callEnvC fd s.heap.objs.size fa).kindOf x ≠ some .local := by
            show fd.scope.names.lookup x ≠ some .local
            rw [e]; decide
          rw [bindC_hit hne _ _ (by rw [hmap]; exact hnd) hm] at hc
          exact .inr ⟨.inl e, a, ha, hc⟩
    refine t (hA.deeper _) rfl ⟨fa, ob, fd, rfl, hob, hd, rfl, rfl⟩ S hf fun f' s' ow' S' hr => ?_
    obtain ⟨v, rfl, hr⟩ := hr.ret_of
    exact h _ _ ⟨S'.same, S'.keep⟩ hr
end

/-! ### a list and another place -/
def oIsL (ia : Addr) : D → D → Option D
  | .list _, .adr b => if b = ia then some (.bool false) else none
  | _, _ => none
section
variable {c : Cx} {n : Nat} {sc : Scope} {b : Bool}
theorem act_isL {ia : Addr} {oi : Obj} {T : String} (hi : c.FT ia = some oi) (hc : oi.cls = .type T) (h1 : T ≠ "list") (h2 : T ≠ "tuple") : Act2 c n (compareOp .Is) (oIsL ia) := fun {prog w A E s Q a b da db d X} hA G hz hX ra rb ho h => by
  unfold oIsL at ho
  split at ho <;> try (cases ho; done)
  rename_i l b'
  split at ho <;> try (cases ho; done)
  rename_i e
  subst e
  first | obtain ⟨rfl, rfl⟩ := some_pair ho | obtain rfl := some_one ho | cases ho
  obtain ⟨x, vs, rfl, p, q⟩ := ra.list_inv
  have eb := rb.adr_inv
  subst eb
  obtain ⟨o, ho, hcl, k, hd⟩ := p.1
  have hob := G.obs b' oi hi
  have hne : x ≠ b' := fun e => by
    subst e
    rw [ho] at hob
    cases hob
    rw [hc] at hcl
    exact h1 (by cases hcl; rfl)
  show wpAny _ _ (isSame (.ref x) (.ref b') >>= fun r => pure (Value.bool r)) _ _ _
  refine wpAny_bind ?_
  unfold isSame
  dsimp only
  rw [if_neg (by simpa using hne)]
  refine wpAny_bind (wpAny_load ho (wpAny_bind (wpAny_load hob ?_)))
  rw [hcl, hc]
  split
  · rename_i e1 _ _ _
    injection e1 with e2
    exact absurd e2 (by decide)
  · exact wpAny_pure (wpAny_pure (h _ _ (After.refl c _) .bool))

/-- a function in a local name is called -/
def atF (x : Str) (fa : Addr) (r : Rho) : Bool := match r.get x with
  | some (.sh (.adr a)) => a == fa
  | _ => false
theorem tr_callL {x : Str} {p pos : Pos} {args : List Expr} {fa : Addr} {ob : Obj} {fd : FuncData} {f : Rho → Option (List D)} {o : List D → Option D} (ta : TrEs b c n sc args f)
    (hob : c.FT fa = some ob) (hfd : ob.data = .func fd) (ho : ActL c n (fun vs => call (.ref fa) vs) o) (pl : Plain args) (hd : (x == ("__debug__" : Str)) = false := by decide) (hn : (x == ("__classdict__" : Str)) = false := by decide) :
    TrM b c n sc (.Call (.Name x p) args [] pos) (fun r => if atF x fa r then (f r).bind o else none) := fun {prog w A E X0 s0 env gd hid ow r s Q d} hA hs S hf h => by
  dsimp only at hf
  split at hf <;> try (cases hf; done)
  rename_i hx
  obtain ⟨ds, h1, hf⟩ := bind_some hf
  unfold atF at hx
  split at hx <;> try (cases hx; done)
  rename_i a hxa
  have ea := beq_iff_eq.mp hx
  subst ea
  refine wpAny_Call_NameR (tr_name x p hd hn hA hs S (d := .adr a) (by dsimp only; rw [hxa]) fun v s1 a1 x1 => ?_)
  have hv := x1.adr_inv
  subst hv
  refine Calls.callWith_function (o := ob) (fd := fd) (evalArgs_pl pl (ta hA hs (S.after a1) h1 fun vs s2 a2 x2 => ?_))
  have S2 := (S.after a1).after a2
  exact ⟨⟨S2.glo.obs a ob hob, hfd⟩, ho hA S2.glo S.zM S2.Ml x2 hf fun v s3 a3 x3 => h v s3 ((a1.trans a2).trans a3) x3⟩
end

def foldD (F : List D → Option D) : D → List D → Option D
  | acc, [] => some acc
  | acc, d :: ds => (F [acc, d]).bind fun a => foldD F a ds
def itemsD : D → Option (List D)
  | .list ds => some ds
  | .str x => some (strSigns x)
  | _ => none
def shOf : Option Ent → Option D
  | some (.sh d) => some d
  | _ => none
theorem shOf_inv {o : Option Ent} {d : D} (h : shOf o = some d) : o = some (.sh d) := by
  cases o with
  | none => cases h
  | some e => cases e <;> first | (obtain rfl := some_one h; rfl) | cases h
def adrOf : D → Option Addr
  | .adr a => some a
  | _ => none
theorem adrOf_inv {d : D} {a : Addr} (h : adrOf d = some a) : d = .adr a := by
  cases d <;> first | (obtain rfl := some_one h; rfl) | cases h
def listOf : D → Option (List D)
  | .list a => some a
  | _ => none
theorem listOf_inv {d : D} {a : List D} (h : listOf d = some a) : d = .list a := by
  cases d <;> first | (obtain rfl := some_one h; rfl) | cases h
def redF (fa : Addr) (F : List D → Option D) (r : Rho) : Option (Rho × Fl) :=
  (shOf (r.get "function")).bind fun f => (adrOf f).bind fun a => (shOf (r.get "sequence")).bind fun q => (shOf (r.get "initial")).bind fun i => (listOf i).bind fun l =>
    (itemsD q).bind fun ds => if a = fa then (foldD F (.list l) ds).map fun d => ([], .ret d) else none
def RedI (fa I : Addr) (acc : D) (r : Rho) : Prop := r.get "function" = some (.sh (.adr fa)) ∧ r.get "it" = some (.sh (.adr I)) ∧ r.get "value" = some (.sh acc)

theorem get_kp (r : Rho) (x y : Str) (e : Ent) : ((r.kill x).put x e).get y = if y = x then some e else (r.get y).map (Ent.kill x) := by
  rw [Rho.get_put, Rho.get_kill]
theorem call_iter {prog : Program} {w : World} {A : Around} {E : Value → Shared → Prop} {s : Shared} {v : Value} {Q : Value → Shared → Prop} (h : ∀ {E' : Value → Shared → Prop} {P : Value → Shared → Prop}, (∀ u s', Q u s' → P u s') → wpAny (model prog w) A.in1 (pyIter v) P E' s) : wpAny (model prog w) A (call (.builtin "iter") [v]) Q E s := by
  refine Calls.call_function_entry (by decide +kernel) (by decide +kernel) kdk_entry_iter (kdk_args_iter _) ?_
  unfold Builtin.«iter»
  refine wpAny_bind (wpAny_of_eq (a := [v]) (by first | rfl | kernel_rfl) ?_)
  show wpAny _ _ (pyIter v >>= _) _ _ _
  exact wpAny_bind (h fun u s' q => wpAny_pure ⟨_, rfl, q⟩)
section
variable {c : Cx} {n : Nat} {sc : Scope}
theorem reduce0 {fa : Addr} {F : List D → Option D} {p1 p2 p3 p4 p5 p13 p14 p21 : Pos} {st2 st4 : Stmt} {bd : List Stmt} {f2 f4 fB : Rho → Option (Rho × Fl)}
    (ti : TrE c n sc (.Name "iter" p2) (fun _ => some (.bi "iter"))) (k1 : Sto sc "it") (k3 : Sto sc "element") (T2 : TrS c n sc st2 f2) (TB : TrSs c n sc bd fB) (T4 : TrS c n sc st4 f4)
    (h2 : ∀ (r : Rho) l, r.get "initial" = some (.sh (.list l)) → f2 r = some ((r.kill "value").put "value" (.sh (.list l)), .next))
    (hB : ∀ (r : Rho) acc d acc', r.get "function" = some (.sh (.adr fa)) → r.get "value" = some (.sh acc) → r.get "element" = some (.sh d) → F [acc, d] = some acc' → fB r = some ((r.kill "value").put "value" (.sh acc'), .next))
    (h4 : ∀ (r : Rho) acc, r.get "value" = some (.sh acc) → f4 r = some (r, .ret acc)) :
    TrSs c n sc [.Assign [.Name "it" p1] (.Call (.Name "iter" p2) [.Name "sequence" p3] [] p4) p5, st2, .For (.Name "element" p13) (.Name "it" p14) bd [] p21, st4] (redF fa F) := fun {prog w A E X0 s0 env gd hid ow r r' fl s Q} hA hs hfn S hf h => by
  obtain ⟨fv, g1, e1⟩ := bind_some hf
  obtain ⟨a, ga, e2⟩ := bind_some e1
  obtain ⟨sq, g2, e3⟩ := bind_some e2
  obtain ⟨iv, g3, e4⟩ := bind_some e3
  obtain ⟨l, gl, e5⟩ := bind_some e4
  obtain ⟨ds, hq, e6⟩ := bind_some e5
  clear hf e1 e2 e3 e4 e5
  obtain rfl := adrOf_inv ga
  obtain rfl := listOf_inv gl
  replace g1 := shOf_inv g1
  replace g2 := shOf_inv g2
  replace g3 := shOf_inv g3
  by_cases ea : a = fa
  case neg => rw [if_neg ea] at e6; cases e6
  rw [if_pos ea] at e6
  subst ea
  obtain ⟨dres, hfold, hf⟩ := Option.map_eq_some_iff.mp e6
  obtain ⟨rfl, rfl⟩ := Prod.mk.inj hf
  have nD : ∀ x : Str, x ∈ (["sequence", "initial", "value", "element", "it", "function"] : List Str) → (x == ("__debug__" : Str)) = false ∧ (x == ("__classdict__" : Str)) = false := by decide
  refine wpAny_execs_cons (wpAny_Assign_Name (wpAny_Call_NameR (ti hA hs S rfl fun v s1 a1 x1 => ?_)) rfl)
  obtain rfl := x1.bi_inv
  have S1 := S.after a1
  have plS : Plain [Expr.Name "sequence" p3] := plain_cons plain_nil
  have TS : TrEs true c n sc [Expr.Name "sequence" p3] _ := trEs_cons (c := c) (n := n) (sc := sc) (b := true) (tr_name "sequence" p3 (nD _ (by decide)).1 (nD _ (by decide)).2) trEs_nil
  refine Calls.callWith_builtin (plS _ _).1 (evalArgs_pl plS (TS hA hs S1 (ds := [sq]) (by simp only [g2, Option.bind_some]) fun vs s2 a2 x2 => ?_))
  obtain ⟨v2, rfl, y2⟩ := x2.one_inv
  have S2 := S1.after a2
  have itv : ItV c (XX ow X0) v2 ds s2 := by
    cases sq <;> simp only [itemsD, reduceCtorEq, Option.some.injEq] at hq
    · subst hq
      obtain ⟨t, rfl⟩ := y2.str_inv
      exact iter_str
    · subst hq
      obtain ⟨aa, vv, rfl, lp, rs⟩ := y2.list_inv
      exact iter_list S2.zX lp rs
  refine call_iter fun {E' P} hP => going_state S2 itv (by exact hA.hd) fun I gd1 hid1 T s3 a3 S3 hT G => hP _ _ ?_
  obtain ⟨oI, Sg, back⟩ := G.guard S3 hT
  refine wp_storeName Sg (k1.of hs hfn) fun h' tk b hw Tst => ?_
  have S4 := Sg.store_sh (tk := tk) (Ext.refl c _) hw Tst (d := .adr I) .adr
  generalize hr4 : (r.kill "it").put "it" (.sh (.adr I)) = r4 at S4
  have f4 : r4.get "function" = some (.sh (.adr a)) := by rw [← hr4, get_kp, if_neg (by decide), g1]; rfl
  have i4 : r4.get "initial" = some (.sh (.list l)) := by rw [← hr4, get_kp, if_neg (by decide), g3]; rfl
  have t4 : r4.get "it" = some (.sh (.adr I)) := by rw [← hr4, get_kp, if_pos rfl]
  refine wpAny_execs_cons (T2 hA hs hfn S4 (h2 r4 l i4) fun f5 s5 ow5 S5 hr5 => ?_)
  obtain rfl := hr5.next_of
  obtain ⟨hT5, S5'⟩ := back S5
  have hI5 : RedI a I (.list l) ((r4.kill "value").put "value" (.sh (.list l))) := by
    refine ⟨?_, ?_, ?_⟩
    · rw [get_kp, if_neg (by decide), f4]; rfl
    · rw [get_kp, if_neg (by decide), t4]; rfl
    · rw [get_kp, if_pos rfl]
  generalize (r4.kill "value").put "value" (.sh (.list l)) = r5 at S5' hI5
  refine wpAny_execs_cons (wpAny_For (tr_name "it" p14 (nD _ (by decide)).1 (nD _ (by decide)).2 hA hs S5' (d := .adr I) (by dsimp only; rw [hI5.2.1]) fun v s6 a6 x6 => ?_) (fun _ => rfl))
  have ev := x6.adr_inv
  subst ev
  have S6 := S5'.after a6
  have hT6 : T 0 s6.heap := by
    obtain ⟨oI', Sg', back'⟩ := G.guard S5' hT5
    exact (back' (Sg'.after a6)).1
  refine G.self hT6 hA.hd ?_
  refine codeAny_forLoop (fun k s' => ∃ i ow' r1 acc, k = ds.length + 1 - i ∧ i ≤ ds.length ∧ St c X0 s0 env (gd1 ++ gd) (hid1 ++ hid) ow' r1 s' ∧ T i s'.heap ∧ RedI a I acc r1 ∧ foldD F acc (ds.drop i) = some dres) ?_ (ds.length + 1)
    ⟨0, _, r5, _, rfl, Nat.zero_le _, S6, hT6, hI5, hfold⟩
  rintro k s' ⟨i, ow', r1, acc, rfl, hi', Sp, hTi, hri, hfi⟩
  by_cases hlt : i < ds.length
  · obtain ⟨d, hd⟩ : ∃ d, ds[i]? = some d := ⟨ds[i], List.getElem?_eq_getElem hlt⟩
    have hdrop : ds.drop i = d :: ds.drop (i + 1) := by
      obtain ⟨hh, he⟩ := List.getElem?_eq_some_iff.mp hd
      rw [List.drop_eq_getElem_cons hh, he]
    rw [hdrop] at hfi
    obtain ⟨acc', hacc, hfi⟩ := bind_some hfi
    refine G.item Sp hTi hd hA.hd fun v s7 oI7 hv _ _ S7 back7 => ?_
    refine wpAny_assign_Name (wp_storeName S7 (k3.of hs hfn) fun h' tk b hw Tst => ?_)
    have S8 := S7.store_sh (tk := tk) (Ext.refl c _) hw Tst hv
    have hI8 : RedI a I acc ((r1.kill "element").put "element" (.sh d)) := by
      refine ⟨?_, ?_, ?_⟩
      · rw [get_kp, if_neg (by decide), hri.1]; rfl
      · rw [get_kp, if_neg (by decide), hri.2.1]; rfl
      · rw [get_kp, if_neg (by decide), hri.2.2]; rfl
    have he8 : Rho.get ((r1.kill "element").put "element" (.sh d)) "element" = some (.sh d) := by rw [get_kp, if_pos rfl]
    generalize (r1.kill "element").put "element" (.sh d) = r8 at S8 hI8 he8
    refine TB hA hs hfn S8 (hB r8 acc d acc' hI8.1 hI8.2.2 he8 hacc) fun f9 s9 ow9 S9 hr9 => ?_
    obtain rfl := hr9.next_of
    obtain ⟨q1, q2⟩ := back7 S9
    refine ⟨ds.length + 1 - (i + 1), by lia, i + 1, ow9, _, acc', rfl, hlt, q2, q1, ⟨?_, ?_, ?_⟩, hfi⟩
    · rw [get_kp, if_neg (by decide), hI8.1]; rfl
    · rw [get_kp, if_neg (by decide), hI8.2.1]; rfl
    · rw [get_kp, if_pos rfl]
  · have hin : i = ds.length := by lia
    refine G.done Sp hTi hin hA.hd fun s7 S7 _ _ => ?_
    rw [hin, List.drop_length] at hfi
    have ea : acc = dres := Option.some.inj hfi
    subst ea
    refine wpAny_execs_nil ?_
    refine wpAny_execs_cons (T4 hA hs hfn S7.gd_drop.hid_drop (h4 r1 acc hri.2.2) fun f8 s8 ow8 S8 hr8 => ?_)
    obtain ⟨v8, rfl, hr8⟩ := hr8.ret_of
    exact h _ _ _ (S8.weaken fun x e q => by cases q) hr8
theorem trSs_reduce {fa ia : Addr} {ob oi : Obj} {fd : FuncData} {F : List D → Option D} {p1 p2 p3 p4 p5 p6 p7 p8 p9 p10 p11 p12 p13 p14 p15 p16 p17 p18 p19 p20 p21 p22 p23 : Pos} {tb : List Stmt}
    (hob : c.FT fa = some ob) (hfd : ob.data = .func fd) (hF : ActL c n (fun vs => call (.ref fa) vs) F)
    (ti : TrE c n sc (.Name "iter" p2) (fun _ => some (.bi "iter"))) (tm : TrE c n sc (.Name "_initial_missing" p7) (fun _ => some (.adr ia)))
    (hi : c.FT ia = some oi) (hoi : oi.cls = .type "object") (k1 : Sto sc "it") (k2 : Sto sc "value") (k3 : Sto sc "element") :
    TrSs c n sc [.Assign [.Name "it" p1] (.Call (.Name "iter" p2) [.Name "sequence" p3] [] p4) p5,
      .If (.Compare (.Name "initial" p6) [.Is] [.Name "_initial_missing" p7] p8) tb [.Assign [.Name "value" p9] (.Name "initial" p10) p11] p12,
      .For (.Name "element" p13) (.Name "it" p14) [.Assign [.Name "value" p15] (.Call (.Name "function" p16) [.Name "value" p17, .Name "element" p18] [] p19) p20] [] p21,
      .Return (some (.Name "value" p22)) p23] (redF fa F) :=
  reduce0 (fa := fa) (F := F) ti k1 k3
    (trS_if (c := c) (n := n) (sc := sc) (pos := p12) (trT_cmp (pos := p8) (tr_name "initial" p6 (by decide) (by decide)) tm (act_isL (T := "object") hi hoi (by decide) (by decide))) (trSs_no tb)
      (trSs_cons (trS_assign (x := "value") (p := p9) (pos := p11) (tr_name "initial" p10 (by decide) (by decide)) k2) trSs_nil))
    (trSs_cons (c := c) (n := n) (sc := sc) (trS_assign (x := "value") (p := p15) (pos := p20) (tr_callL (b := true) (x := "function") (p := p16) (pos := p19)
      (trEs_cons (tr_name "value" p17 (by decide) (by decide)) (trEs_cons (tr_name "element" p18 (by decide) (by decide)) trEs_nil)) hob hfd hF (plain_cons (plain_cons plain_nil))) k2) trSs_nil)
    (trS_ret (TrE.b (tr_name "value" p22 (by decide) (by decide))))
    (fun r l hg => by simp only [hg, oIsL, asB, seqF, Option.bind_some, if_true, Bool.false_eq_true, if_false])
    (fun r acc d acc' g1 g2 g3 hacc => by
      have : atF "function" fa r = true := by unfold atF; rw [g1]; exact beq_iff_eq.mpr rfl
      simp only [seqF, this, if_true, g2, g3, Option.bind_some, hacc])
    (fun r acc hg => by simp only [hg, Option.bind_some])
end
end Mine
end SLa17

/-! La18 -/
noncomputable section SLa18
namespace Mine
theorem ActL.le {c : Cx} {n m : Nat} {f : List Value → Sem Value} {o : List D → Option D} (h : ActL c n f o) (hn : n ≤ m) : ActL c m f o := fun _ _ _ _ _ _ _ _ _ _ hA => h (hA.le hn)
theorem gm_translate {M : Model} {A : Around} {E : Value → Shared → Prop} {s : Shared} {x : Str} {t : Tok} {pl : Sem Bool} {Q : Value × List Value → Shared → Prop} (h : Q (.builtin "str.translate", [.str x t]) s) : wpAny M A (getMethod (.str x t) "translate" pl) Q E s :=
  by with_reducible exact GM.of (.str x t) (typeIs_str _ _ _) F.slot_str_translate F.type_str_translate GM.noRef h
section
variable {c : Cx} {n : Nat} {sc : Scope} {b : Bool}
/-- a cut of a text that any expression gives -/
theorem tr_cutS {e : Expr} {lo hi : Option Expr} {p pos : Pos} {f : Rho → Option D} {g k : Rho → Option (Option Int)} (tv : TrM b c n sc e f) (tl : TrP b c n sc lo g) (tu : TrP b c n sc hi k) :
    TrM b c n sc (.Subscript e (.Slice lo hi none p) pos) (fun r => ((f r).bind strOnly).bind fun d => (g r).bind fun l => (k r).bind fun u => oCut d l u) := fun {prog w A E X0 s0 env gd hid ow r s Q d} hA hsc S hf h => by
  obtain ⟨da', h1', hf⟩ := bind_some hf
  obtain ⟨da, h1, h0⟩ := bind_some h1'
  obtain ⟨dl, h2, hf⟩ := bind_some hf
  obtain ⟨du, h3, hf⟩ := bind_some hf
  cases da <;> try (cases h0; done)
  rename_i x
  cases h0
  rw [eval_Subscript]
  refine wpAny_bind (tv hA hsc S h1 fun a s1 a1 x1 => wpAny_bind (wpAny_holding (wpAny_Slice (tl hA hsc (S.after a1) h2 fun vl s2 a2 p2 q2 => tu hA hsc ((S.after a1).after a2) h3 fun vu s3 a3 p3 q3 => ?_))))
  rw [evalPart_none]
  refine wpAny_pure (wpAny_bind (wpAny_standAt ?_))
  have ap : After c s3 { s3 with heap := s3.heap.push { cls := .type "slice", data := .fields #[vl, vu, .none] } } := After.push c s3 _ s3.toks
  obtain ⟨t, rfl⟩ := x1.str_inv
  obtain ⟨T, id, hT, hl⟩ := typeIs_seq (s := { s3 with heap := s3.heap.push { cls := .type "slice", data := .fields #[vl, vu, .none] } }) (X := []) (a := .str x t) (.str) trivial
  simp only [oCut] at hf
  split at hf <;> try (cases hf; done)
  rename_i hsz
  first | obtain ⟨rfl, rfl⟩ := some_pair hf | obtain rfl := some_one hf | cases hf
  have key : wpAny (model prog w) A (getItem (.str x t) (.ref s3.heap.objs.size)) (fun r s5 => wpAny (model prog w) A (letTemporaryGo e (.str x t) r >>= fun _ => pure r) Q E s5) E { s3 with heap := s3.heap.push { cls := .type "slice", data := .fields #[vl, vu, .none] } } :=
    act_cutS (Heap.get?_push_size _ rfl) q2 q3 hsz fun t' tk => wpAny_bind (wpAny_of_eq (letGo_str _ _ _ _) (wpAny_pure (h _ _ (((a1.trans a2).trans a3).trans (ap.tk tk)) .str)))
  refine wpAny_bind ?_
  rw [getitemInPython_of_ne hT.not_modules]
  refine wpAny_bind (wpAny_specialOf hT hl ?_)
  exact wpAny_pure (wpAny_bind (wpAny_operating key))
end
structure CF (K : Frag) (c : Cx) : Prop where
  g : ∀ n v, nsIn K mainGlobals n = some (some v) → c.mg n = some v
  gn : ∀ n, nsIn K mainGlobals n = some none → c.mg n = none
  b : ∀ n v, bootBuiltins n = some v → n ≠ "__name__" → c.mb n = some v
  ft : ∀ a o, K.lookup a = some o → c.FT a = some o
/-- what a def's spec must show of its body -/
def HF (names : List Str) (f : Rho → Option (Rho × Fl)) (F : List D → Option D) : Prop := ∀ ds d, F ds = some d → ds.length = names.length ∧ ∃ r', f (names.zip (ds.map Ent.sh)) = some (r', .ret d)
end Mine
end SLa18

/-! La19 -/
noncomputable section SLa19
namespace Mine
theorem CF.ink {K : Frag} {c : Cx} (h : CF K c) {hh : Heap} (G : Glo c hh) : K.In hh := fun a o e => G.obs a o (h.ft a o e)
theorem kinds_of {names : List Str} {ns : List (Str × NameKind)} (h : (names.all fun x => ns.lookup x == some .local || ns.lookup x == some .cell) = true) : ∀ x ∈ names, ns.lookup x = some .local ∨ ns.lookup x = some .cell := fun x hx => by
  have := List.all_eq_true.mp h x hx
  rw [Bool.or_eq_true, beq_iff_eq, beq_iff_eq] at this
  exact this
theorem len_cons {n : Nat} {vals : List Value} (h : vals.length = n + 1) : ∃ a l, vals = a :: l ∧ l.length = n := by
  obtain ⟨a, l, rfl⟩ := List.exists_cons_of_length_eq_add_one h
  exact ⟨a, l, rfl, Nat.succ.inj h⟩
theorem bnd1 {fd : FuncData} {x : Str} (vals : List Value) (hl : vals.length = [x].length) (h : ∀ a, bindArgs fd ⟨[a], []⟩ = pure ([x].zip [a])) : bindArgs fd ⟨vals, []⟩ = pure ([x].zip vals) := by
  obtain ⟨a, l1, rfl, q1⟩ := len_cons hl
  obtain rfl := List.length_eq_zero_iff.mp q1
  exact h a
theorem bnd2 {fd : FuncData} {x y : Str} (vals : List Value) (hl : vals.length = [x, y].length) (h : ∀ a b, bindArgs fd ⟨[a, b], []⟩ = pure ([x, y].zip [a, b])) : bindArgs fd ⟨vals, []⟩ = pure ([x, y].zip vals) := by
  obtain ⟨a, l1, rfl, q1⟩ := len_cons hl
  obtain ⟨b, l2, rfl, q2⟩ := len_cons q1
  obtain rfl := List.length_eq_zero_iff.mp q2
  exact h a b
theorem bnd3 {fd : FuncData} {x y z : Str} (vals : List Value) (hl : vals.length = [x, y, z].length) (h : ∀ a b c, bindArgs fd ⟨[a, b, c], []⟩ = pure ([x, y, z].zip [a, b, c])) : bindArgs fd ⟨vals, []⟩ = pure ([x, y, z].zip vals) := by
  obtain ⟨a, l1, rfl, q1⟩ := len_cons hl
  obtain ⟨b, l2, rfl, q2⟩ := len_cons q1
  obtain ⟨c, l3, rfl, q3⟩ := len_cons q2
  obtain rfl := List.length_eq_zero_iff.mp q3
  exact h a b c
theorem bndD3 {c : Cx} {fd : FuncData} {x y z : Str} {T : Addr} {o : Obj} {items : Array Value} {n : Nat} {s : Shared} {k : Value → Value → Value → Option (Array Value) → Sem (List (Str × Value))} (vals : List Value) (G : Glo c s.heap) (hl : vals.length = [x, y, z].length) (hT : c.FT T = some o) (hs : o.data = .seq items n) (hd : fd.defaults = .ref T)
    (h1 : ∀ a b c, bindArgs fd ⟨[a, b, c], []⟩ = seqItems? fd.defaults >>= k a b c) (h2 : ∀ a b c, k a b c (some items) = pure ([x, y, z].zip [a, b, c])) : BindsTo s fd ⟨vals, []⟩ ([x, y, z].zip vals) := by
  obtain ⟨a, l1, rfl, q1⟩ := len_cons hl
  obtain ⟨b, l2, rfl, q2⟩ := len_cons q1
  obtain ⟨d, l3, rfl, q3⟩ := len_cons q2
  obtain rfl := List.length_eq_zero_iff.mp q3
  exact BindsTo.of_defaults hd (G.obs T o hT) hs (h1 a b d) (h2 a b d)
theorem itr_of {sc : Scope} (h : sc.kind = .function) : ∀ env : Env, env.scope = sc → interactive env = false := fun env he => by
  unfold interactive
  rw [he, h]
  rfl

/-- a def's package: what its body computes, and its contract once a spec is shown of that -/
def packT {K : Frag} {c : Cx} {n : Nat} (h : CF K c) {fa : Addr} {ob : Obj} {fd : FuncData} {body : List Stmt} (names : List Str) {f : Rho → Option (Rho × Fl)}
    (hob : K.lookup fa = some ob) (hd : ob.data = .func fd) (hcr : codeIn K fd.code fd.qualname = true) (hbody : fd.body = .stmts body) (hclo : fd.closure = [])
    (hgl : fd.globals = mainGlobals) (hbi : fd.builtins = builtinsNs) (hnd : names.Nodup)
    (hbind : ∀ vals, vals.length = names.length → bindArgs fd ⟨vals, []⟩ = pure (names.zip vals))
    (hkind : (names.all fun x => fd.scope.names.lookup x == some .local || fd.scope.names.lookup x == some .cell) = true)
    (t : TrSs c n fd.scope body f)
    (hco : fd.scope.isCoroutine = false := by rfl) (hgen : fd.scope.isGenerator = false := by rfl) (hk : fd.scope.kind = .function := by rfl) :
    (f : Rho → Option (Rho × Fl)) ×' (∀ F, HF names f F → ActL c (n + 1) (fun vs => call (.ref fa) vs) F) :=
  ⟨f, fun _ hF => act_def (names := names) (h.ft fa ob hob) hd (fun _ G => codeRec_of (h.ink G) hcr) hbody hclo hgl hbi hnd hbind (kinds_of hkind) t hF hco hgen hk⟩
def packTD {K : Frag} {c : Cx} {n : Nat} (h : CF K c) {fa : Addr} {ob : Obj} {fd : FuncData} {body : List Stmt} (names : List Str) {f : Rho → Option (Rho × Fl)}
    (hob : K.lookup fa = some ob) (hd : ob.data = .func fd) (hcr : codeIn K fd.code fd.qualname = true) (hbody : fd.body = .stmts body) (hclo : fd.closure = [])
    (hgl : fd.globals = mainGlobals) (hbi : fd.builtins = builtinsNs) (hnd : names.Nodup)
    (hbind : ∀ (s : Shared) vals, Glo c s.heap → vals.length = names.length → BindsTo s fd ⟨vals, []⟩ (names.zip vals))
    (hkind : (names.all fun x => fd.scope.names.lookup x == some .local || fd.scope.names.lookup x == some .cell) = true)
    (t : TrSs c n fd.scope body f)
    (hco : fd.scope.isCoroutine = false := by rfl) (hgen : fd.scope.isGenerator = false := by rfl) (hk : fd.scope.kind = .function := by rfl) :
    (f : Rho → Option (Rho × Fl)) ×' (∀ F, HF names f F → ActL c (n + 1) (fun vs => call (.ref fa) vs) F) :=
  ⟨f, fun _ hF => act_defB (names := names) (h.ft fa ob hob) hd (fun _ G => codeRec_of (h.ink G) hcr) hbody hclo hgl hbi hnd hbind (kinds_of hkind) t hF hco hgen hk⟩
def nmF (env : Env) (l : Nat) : Expr → Option Str
  | .Name id pos => if env.kindOf id == some .local && pos.line == l then some id else none
  | _ => none
theorem swp_of {sc : Scope} {x y : Str} {p q : Pos} {k k' : Nat} {tpos vpos : Pos} {e1 e2 : Expr} (hk : sc.kind = .function) (hx : sc.names.lookup x = some .local) (hy : sc.names.lookup y = some .local)
    (hl : (p.line == q.line) = true) (hxy : x ≠ y) (h1 : ([e1, e2].any fun | .Starred .. => true | _ => false) = false) (h2 : [e1, e2].all (foldedForSure 8) = false) (h3 : [e1, e2].all (constantsAlone 8) = false) :
    ∀ env : Env, env.scope = sc → swappedStores [.Tuple [.Name x p, .Name y q] k tpos] (.Tuple [e1, e2] k' vpos) env = pure (some [x, y]) := fun env he => by
  have kx : env.kindOf x = some .local := by show env.scope.names.lookup x = _; rw [he]; exact hx
  have ky : env.kindOf y = some .local := by show env.scope.names.lookup y = _; rw [he]; exact hy
  have kb : env.blockKind = .function := by unfold Env.blockKind; rw [he, hk]; rfl
  have cx : (env.kindOf x == some NameKind.local && p.line == p.line) = true := by rw [kx, beq_self_eq_true, beq_self_eq_true]; rfl
  have cy : (env.kindOf y == some NameKind.local && q.line == p.line) = true := by rw [ky, beq_self_eq_true, beq_iff_eq.mp hl, beq_self_eq_true]; rfl
  have nm : ([.Name x p, .Name y q] : List Expr).filterMap (nmF env p.line) = [x, y] :=
    (List.filterMap_cons_some (f := nmF env p.line) (a := .Name x p) (b := x) (if_pos cx)).trans (congrArg (x :: ·) (List.filterMap_cons_some (f := nmF env p.line) (a := .Name y q) (b := y) (l := []) (if_pos cy)))
  have hd : [x, y].eraseDups.length = 2 := by
    have : (y == x) = false := beq_eq_false_iff_ne.mpr fun e => hxy e.symm
    simp [List.eraseDups_cons, this]
  refine Eq.trans (if_neg (show ¬ (env.blockKind != ScopeKind.function) = true by rw [kb]; decide)) ?_
  refine Eq.trans (if_neg (fun w => absurd (h1.symm.trans w) (by decide))) ?_
  show (fun names : List Str => (if (names.length != 2 || names.eraseDups.length != names.length) = true then pure none else (if [e1, e2].all (foldedForSure 8) = true then pure none else (if [e1, e2].all (constantsAlone 8) = true then _ else pure (some names)))) : List Str → Sem (Option (List Str))) (([.Name x p, .Name y q] : List Expr).filterMap (nmF env p.line)) = _
  rw [nm]
  refine Eq.trans (if_neg (by rw [hd]; exact Bool.false_ne_true)) ?_
  refine Eq.trans (if_neg (by rw [h2]; decide)) ?_
  exact if_neg (by rw [h3]; decide)
end Mine
namespace Mine
section
variable {c : Cx} {n : Nat}
theorem act_isub : Act2 c n (inplaceOp .Sub) oSub := act_ii (f := fun a b => some (.int (a - b))) fun ho h => by
  (first | obtain ⟨rfl, rfl⟩ := some_pair ho | obtain rfl := some_one ho | cases ho); exact PyProof.Rows.isub_int (h _ _ (After.tok c _ _) .int)
end
end Mine
end SLa19

/-! La20 -/
noncomputable section SLa20
namespace Mine
end Mine
end SLa20

/-! La21 -/
noncomputable section SLa21
namespace Mine
section
variable {c : Cx} {n : Nat} {sc : Scope} {b : Bool}
/-! ### replace where nothing is found -/
def oRepl : List D → Option D
  | [.str x, .str y, .str _] => if (Builtin.Str.occurrences x y 0 x.length (x.length + 1)).isEmpty = true then some (.str x) else none
  | _ => none
theorem act_repl : ActL c n (fun vs => call (.builtin "str.replace") vs) oRepl := fun {prog w A E s Q vs ds d X} hA G hz hX ra ho h => by
  unfold oRepl at ho
  split at ho
  · rename_i x y z
    split at ho
    · rename_i he
      first | obtain ⟨rfl, rfl⟩ := some_pair ho | obtain rfl := some_one ho | cases ho
      cases ra with
      | cons r1 ra =>
        obtain ⟨v2, v3, rfl, r2, r3⟩ := ra.two_inv
        obtain ⟨t, rfl⟩ := r1.str_inv
        obtain ⟨u, rfl⟩ := r2.str_inv
        obtain ⟨v, rfl⟩ := r3.str_inv
        refine call_gives F.slot_str_replace (typeIs_str _ _ _) F.entry_str_replace (F.args_str_replace_3 _ _ _)
          (gives_str_replace x y z t u v fun q => ?_) ?_
        · rw [he, Bool.true_or] at q; cases q
        · rw [he, Bool.true_or, if_pos rfl]
          exact h _ _ (After.refl c _) .str
    · first | obtain ⟨rfl, rfl⟩ := some_pair ho | obtain rfl := some_one ho | cases ho
  · first | obtain ⟨rfl, rfl⟩ := some_pair ho | obtain rfl := some_one ho | cases ho
end
end Mine
end SLa21

/-! La22 -/
noncomputable section SLa22
namespace Mine
section
variable {c : Cx} {n : Nat} {sc : Scope} {b : Bool}
end
end Mine
end SLa22

/-! Re1 -/
noncomputable section SRe1
namespace Mine
theorem slot_sub : Slot "re.Pattern" "sub" "re.Pattern.sub" :=
  .of (owner := "re.Pattern") (n := "sub") (by rw [typeLookup_type, builtinLookup_eq_fast]; kernel_rfl) (by decide +kernel) (by decide +kernel) (by decide +kernel)
    (by first | exact .inl (by decide +kernel) | exact .inr (by decide +kernel)) (by rw [isSubtype_type]; kernel_rfl)
theorem plainAttrs_pat : PlainAttrs "re.Pattern" :=
  ⟨⟨"object.__getattribute__", by rw [typeLookup_type, builtinLookup_eq_fast]; kernel_rfl, by decide +kernel⟩, by rw [typeLookup_type, builtinLookup_eq_fast]; kernel_rfl⟩
theorem type_sub : typeOf (.builtin "re.Pattern.sub") = pure (.type "method_descriptor") := by show builtinType _ = _; rw [builtinType_eq_fast]; kernel_rfl
theorem entry_sub : entryFor table "re.Pattern.sub" = some Builtin.«re.Pattern.sub» := entryFor_of_tree (by kernel_rfl)
theorem entry_subloop : entryFor table "re.Pattern.sub.loop" = some Builtin.«re.Pattern.sub.loop» := entryFor_of_tree (by kernel_rfl)
theorem args_sub (a b c : Value) : argsOk "re.Pattern.sub" ⟨[a, b, c], []⟩ := by
  unfold argsOk
  kernel_rfl
theorem fn_call : ∃ f, typeLookup (.type "function") "__call__" = pure (some f) := ⟨.builtin "function.__call__", by rw [typeLookup_type, builtinLookup_eq_fast]; kernel_rfl⟩
section
variable {prog : Program} {w : World} {A : Around} {E : Value → Shared → Prop} {s : Shared}
/-- a pattern of texts: its code's items are ints -/
def IsPat (h : Heap) (p : Addr) (code : Array Nat) (g : Nat) : Prop :=
  ∃ (fs : Array Value) (T : Addr) (ws : Array Value) (n : Nat) (o oT : Obj), h.get? p = some o ∧ o.cls = .type "re.Pattern" ∧ o.dict = none ∧ o.data = .fields fs ∧ fs.getD 5 .none = .ref T ∧ Builtin.Re.reRawNat (fs.getD 6 .none) = 0 ∧ Builtin.Re.reRawNat (fs.getD 2 .none) = g ∧
    h.get? T = some oT ∧ oT.data = .seq ws n ∧ (ws.map Builtin.Re.reRawOf).map (·.toNat) = code
def tgt (p : Addr) (x : Str) (t : Tok) (code : Array Nat) (g : Nat) : Builtin.Re.ReTarget := { pattern := .ref p, string := .str x t, code := code, text := x.cps, kind := 0, groups := g, pos := 0, lim := x.cps.size }
theorem wp_target {M : Model} {p : Addr} {x : Str} {t : Tok} {code : Array Nat} {g : Nat} {Q : Builtin.Re.ReTarget → Shared → Prop} (hp : IsPat s.heap p code g) (h : Q (tgt p x t code g) s) : wpAny M A (Builtin.Re.reWholeTarget (.ref p) (.str x t)) Q E s := by
  obtain ⟨fs, T, ws, n, o, oT, h1, _, _, h2, h3, h4, h5, h6, h7, h8⟩ := hp
  unfold Builtin.Re.reWholeTarget
  refine wpAny_bind (wpAny_fieldsOf h1 h2 ?_)
  refine wpAny_bind (wpAny_of_eq (a := (x.cps, 0)) rfl ?_)
  dsimp only
  rw [h4, h3, h5]
  refine wpAny_bind (wpAny_pure ?_)
  unfold Builtin.Re.reRawItems
  refine wpAny_bind (wpAny_bind (wpAny_seqItems h6 h7 (wpAny_pure ?_)))
  refine wpAny_pure ?_
  dsimp only [Option.getD_some]
  rw [h8]
  exact h
theorem wp_rules {M : Model} {β : Type} (q : Nat → Bool) (nm : Nat → String) : ∀ (l : List Nat) (k : Sem β) {Q : β → Shared → Prop}, wpAny M A k Q E s →
    wpAny M A (do (forIn l PUnit.unit fun i _ => (do if q i = true then (do rule (nm i); pure (ForInStep.yield PUnit.unit)) else pure (ForInStep.yield PUnit.unit))); k) Q E s
  | [], k, Q, h => wpAny_bind (wpAny_pure h)
  | i :: l, k, Q, h => by
    rw [List.forIn_cons]
    cases hq : q i with
    | true =>
      simp only [if_true, bind_assoc]
      refine wpAny_bind (wpAny_rule ?_)
      rw [pure_bind]
      exact wp_rules q nm l k h
    | false =>
      simp only [Bool.false_eq_true, if_false, pure_bind]
      exact wp_rules q nm l k h
theorem wp_found {M : Model} {p : Addr} {x : Str} {t : Tok} {code : Array Nat} {g : Nat} {Q : Option Sre.M → Shared → Prop}
    (ho : ((Sre.forSearch code x.cps g 0 x.cps.size false).runFor Builtin.Re.reTurnSteps).outcome = some .failed) (h : Q none s) : wpAny M A (Builtin.Re.reNextFound (tgt p x t code g) 0 false) Q E s := by
  have e : ∀ k, Builtin.Re.reDrive (k + 1) (Sre.forSearch code x.cps g 0 x.cps.size false) = pure ((Sre.forSearch code x.cps g 0 x.cps.size false).runFor Builtin.Re.reTurnSteps) := fun k => by
    unfold Builtin.Re.reDrive
    dsimp only
    rw [ho]
    rfl
  unfold Builtin.Re.reNextFound Builtin.Re.reRunToEnd
  refine wpAny_bind (wpAny_of_eq (e 18446744073709551615) ?_)
  generalize (Sre.forSearch code x.cps g 0 x.cps.size false).runFor Builtin.Re.reTurnSteps = m at ho
  refine wp_rules (fun i => m.seen.has i) (fun i => Sre.names.getD i "") _ _ ?_
  rw [ho]
  exact wpAny_pure h
theorem sub_named (a b : Value) : Builtin.Re.reNamed "re.Pattern.sub" "sub" ["repl", "string", "count"] 2 [a, b] [] = pure [some a, some b, none] := by kernel_rfl
theorem sub_loop {p : Addr} {x : Str} {t : Tok} {f : Value} {l : Addr} {code : Array Nat} {g : Nat} {R : Result → Shared → Prop} (hp : IsPat s.heap p code g)
    (ho : ((Sre.forSearch code x.cps g 0 x.cps.size false).runFor Builtin.Re.reTurnSteps).outcome = some .failed) (hx : 0 < x.cps.size) (hx2 : x.cps.size ≤ 1000) (hl : s.heap.PlainList l #[])
    (h : ∀ h' t' k, (∀ b o, b ≠ l → s.heap.get? b = some o → h'.get? b = some o) → R (.ok (.ret (.str x t'))) { s with heap := h', toks := k }) :
    codeAny (model prog w) A (.builtin "re.Pattern.sub.loop" ⟨[.ref p, .str x t, f, rawInt 1, rawInt 0, rawInt 0, rawInt 0, rawInt 0, .bool false, .ref l, .bool false], []⟩) R s := by
  refine codeAny_builtin entry_subloop ?_
  unfold Builtin.«re.Pattern.sub.loop»
  dsimp only [rawInt]
  refine wpAny_bind (wp_target hp ?_)
  refine wpAny_bind ?_
  refine wp_found (g := g) (p := p) (x := x) (t := t) (code := code) ho ?_
  show wpAny _ _ (if 0 < x.cps.size then _ else _) _ _ _
  rw [if_pos hx]
  refine wpAny_bind (wpAny_mkStr ?_ ?_)
  · obtain ⟨n, el⟩ := hl
    have hfull : (tgt p x t code g).text.extract (Int.toNat 0) (tgt p x t code g).lim = x.cps := by
      show x.cps.extract 0 x.cps.size = x.cps
      simp
    rw [hfull]
    refine wpAny_bind (wpAny_updateSeq (s := { s with toks := s.toks + 1 }) el rfl ?_ (by decide) (by show 1 ≤ sizeLine + 1; decide))
    have el1 := Heap.get?_update_self (Obj.mapSeq fun v => v.push (Value.str { cps := x.cps } s.toks)) el rfl
    refine wpAny_bind (wpAny_mkStr ?_ (by show (x.cps.extract 0 0).size ≤ sizeLine; simp))
    refine wpAny_bind (wpAny_seqItems el1 rfl ?_)
    show wpAny _ _ (if false = true then _ else _) _ _ _
    rw [if_neg (by decide)]
    refine wpAny_bind (PyProof.Rows.join_list (D := l) (items := #[Value.str { cps := x.cps } s.toks]) (ys := [x]) ⟨_, el1, rfl, _, rfl⟩ (.cons x s.toks .nil) ?_ fun t' k => ?_)
    · show ([x].map (·.length)).sum + [x].length * (x.cps.extract 0 0).size ≤ 16777216
      have : x.length = x.cps.size := rfl
      simp
      lia
    · show wpAny _ _ (if false = true then _ else _) _ _ _
      rw [if_neg (by decide)]
      refine wpAny_pure ?_
      have ej : Txt.join { cps := (tgt p x t code g).text.extract 0 0 } [x] = x := rfl
      rw [ej]
      exact h _ t' k fun b o hb e => (Heap.get?_update_other _ _ (Ne.symm hb)).trans e
  · show (x.cps.extract 0 x.cps.size).size ≤ sizeLine
    rw [sizeLine_eq]
    simp
    lia
theorem IsPat.keep {h h' : Heap} {p : Addr} {code : Array Nat} {g : Nat} (x : IsPat h p code g) (hk : ∀ b o, h.get? b = some o → h'.get? b = some o) : IsPat h' p code g := by
  obtain ⟨fs, T, ws, n, o, oT, h1, h2, h3, h4, h5, h6, h7, h8, h9⟩ := x
  exact ⟨fs, T, ws, n, o, oT, hk _ _ h1, h2, h3, h4, h5, h6, h7, hk _ _ h8, h9⟩
theorem call_sub {p a : Addr} {x : Str} {t : Tok} {code : Array Nat} {g : Nat} {Q : Value → Shared → Prop} (hp : IsPat s.heap p code g) (hf : s.TypeIs (.ref a) "function")
    (ho : ((Sre.forSearch code x.cps g 0 x.cps.size false).runFor Builtin.Re.reTurnSteps).outcome = some .failed) (hx : 0 < x.cps.size) (hx2 : x.cps.size ≤ 1000)
    (h : ∀ h' t' k, (∀ b o, s.heap.get? b = some o → h'.get? b = some o) → Q (.str x t') { s with heap := h', toks := k }) :
    wpAny (model prog w) A (call (.builtin "re.Pattern.sub") [.ref p, .ref a, .str x t]) Q E s := by
  have hT : s.TypeIs (.ref p) "re.Pattern" := by
    obtain ⟨fs, T, ws, n, o, oT, h1, h2, _⟩ := hp
    exact ⟨o, h1, h2⟩
  refine wpAny_call (codeAny_call_builtin slot_sub.plain entry_sub (slot_sub.check _ _ _ _ _ _ _ _ hT (args_sub _ _ _) ?_))
  unfold Builtin.«re.Pattern.sub» Builtin.Re.reSubstitute
  dsimp only
  refine wpAny_bind (wpAny_of_eq (sub_named _ _) ?_)
  dsimp only
  refine wpAny_bind (wpAny_pure ?_)
  obtain ⟨fc, hfc⟩ := fn_call
  refine wpAny_bind (wpAny_specialOf hf hfc ?_)
  dsimp only [Option.isSome_some, if_true]
  refine wpAny_bind (wpAny_pure ?_)
  refine wpAny_bind (wpAny_pure ?_)
  dsimp only
  refine wpAny_bind (wpAny_holding (wp_target hp ?_))
  rw [if_pos (by decide)]
  have hnh : ∀ {Q' : Unit → Shared → Prop} {E' : Value → Shared → Prop}, Q' () s → wpAny (model prog w) A.in1 (Builtin.Re.reNotHeld "re.Pattern.sub" (.str x t)) Q' E' s := fun hq => by
    unfold Builtin.Re.reNotHeld
    refine wpAny_bind (wpAny_isInstance_val (T := "str") (b := false) rfl (by rw [isSubtype_type]; kernel_rfl) ?_)
    rw [if_neg (by decide)]
    exact wpAny_pure hq
  refine wpAny_bind (hnh ?_)
  refine wpAny_bind (wpAny_newList ?_ (by decide))
  refine wpAny_pure ⟨plainId_quiet (by decide +kernel) _, ?_⟩
  refine sub_loop (g := g) (code := code) (hp.keep fun b o e => Heap.get?_push_of_some _ e) ho hx hx2 ⟨_, Heap.get?_push_size _ rfl⟩ fun h' t' k hk => ?_
  exact h h' t' k fun b o e => hk b o (Nat.ne_of_lt (Heap.lt_size e)) (Heap.get?_push_of_some _ e)
end
end Mine
end SRe1

/-! Re2 -/
noncomputable section SRe2
namespace Mine
/-- the lambdas of the code at ca go to the table at z -/
structure LamOk (c : Cx) (ca z : Addr) : Prop where
  Z : c.Z = [z]
  hd : ∀ h, Glo c h → CodeHd h ca z
  bi : ∀ h, Glo c h → h.BuiltinsAt c.mg z
section
variable {c : Cx} {n : Nat} {sc : Scope} {b : Bool}
theorem wp_lambda {prog : Program} {w : World} {A : Around} {E : Value → Shared → Prop} {s : Shared} {env : Env} {ca z : Addr} {params : Arguments} {body : Expr} {scope : Scope} {pos : Pos} {Q : Value → Shared → Prop}
    (L : LamOk c ca z) (G : Glo c s.heap) (hg : env.globals = mainGlobals) (hcode : env.code = .ref ca) (hdef : defaultsOf params env = ([], [])) (hcl : closureFor scope env = pure [])
    (h : ∀ a h' tk, Ext c s.heap h' → (Shared.TypeIs { s with heap := h', toks := tk } (.ref a) "function") → Q (.ref a) { s with heap := h', toks := tk }) :
    wpAny (model prog w) A (eval (.Lambda params body scope pos) env) Q E s := by
  have hz : z ∈ c.Z := by rw [L.Z]; exact List.mem_cons_self
  obtain ⟨ps, hP, ht⟩ := G.zl z hz
  refine kla_eval hdef ?_
  cases hf : codeAmong pos ps.toList with
  | none =>
    refine kla_makeFunction hcl hg G.g hcode (L.hd _ G) hP ht hf (fun q => G.ok.zg (q ▸ hz)) (L.bi _ G) fun c' ctv h' tk hx _ _ _ htb => ?_
    have hk : ∀ bb o, bb ∉ c.Z → s.heap.get? bb = some o → h'.get? bb = some o := fun bb o hb e => hx bb o (fun q => hb (q ▸ hz)) e
    refine h _ _ _ ⟨fun bb o hb e => Heap.get?_push_of_some _ (hk bb o hb e), fun z' hz' _ => ?_, fun z' hz' _ => ?_⟩ ⟨_, Heap.get?_push_size _ rfl, rfl⟩
    · have e : z' = z := by rw [L.Z] at hz'; simpa using hz'
      subst e
      exact ⟨_, Heap.get?_push_of_some _ htb, by rw [Array.toList_append]; exact TriplesOk_snoc _ _ _ _ ht⟩
    · have e : z' = z := by rw [L.Z] at hz'; simpa using hz'
      subst e
      exact live.of (Heap.get?_push_of_some _ htb)
  | some cv =>
    refine kla_makeFunctionHit hcl hg G.g hcode (L.hd _ G) hP ht hf (L.bi _ G) fun ctv h' tk hk _ => ?_
    exact h _ _ _ (Ext.of fun bb o e => Heap.get?_push_of_some _ (hk bb o e)) ⟨_, Heap.get?_push_size _ rfl, rfl⟩
/-- x = PATTERN.sub(lambda .., y), where nothing of y is found -/
theorem trS_lamSub {ca z pa : Addr} {code : Array Nat} {g : Nat} {ts : List Str} {x y nm : Str} {params : Arguments} {lb : Expr} {lsc : Scope} {lp p1 p2 p3 p4 p5 p6 : Pos} {plsf : Env → Sem Bool}
    (L : LamOk c ca z) (hpat : ∀ h, Glo c h → IsPat h pa code g)
    (hfn0 : ∀ fa ob fd, c.FT fa = some ob → ob.data = .func fd → fd.scope = sc → fd.code = .ref ca)
    (hts : ∀ u ∈ ts, ((Sre.forSearch code u.cps g 0 u.cps.size false).runFor Builtin.Re.reTurnSteps).outcome = some .failed ∧ 0 < u.cps.size ∧ u.cps.size ≤ 1000)
    (tp : TrE c n sc (.Name nm p2) (fun _ => some (.adr pa))) (ty : TrE c n sc (.Name y p4) (fun r => match r.get y with | some (.sh d) => some d | _ => none))
    (hk : Sto sc x) (hdef : ∀ env, defaultsOf params env = ([], [])) (hcl : ∀ env : Env, env.scope = sc → closureFor lsc env = pure [])
    (hsw : ∀ env, swapsWith (.Call (.Attribute (.Name nm p2) "sub" p3) [.Lambda params lb lsc lp, .Name y p4] [] p5) (some (.Name x p1)) p6.line env = pure false)
    (pl : Plain [.Lambda params lb lsc lp, .Name y p4])
    (hs1 : ∀ env, starEach [.Lambda params lb lsc lp, .Name y p4] env = (false, eval (.Lambda params lb lsc lp) env) :: starEach [.Name y p4] env)
    (he : ∀ env, eval (.Call (.Attribute (.Name nm p2) "sub" p3) [.Lambda params lb lsc lp, .Name y p4] [] p5) env = (do
      let ov ← eval (.Name nm p2) env
      standAt p3.atName
      let (f, first) ← holding [ov] (getMethod ov "sub" (plsf env))
      callWith p5 f first (backTo p5 (starEach [.Lambda params lb lsc lp, .Name y p4] env)) [])) :
    TrS c n sc (.Assign [.Name x p1] (.Call (.Attribute (.Name nm p2) "sub" p3) [.Lambda params lb lsc lp, .Name y p4] [] p5) p6)
      (fun r => match r.get y with | some (.sh (.str u)) => if u ∈ ts then some ((r.kill x).put x (.sh (.str u)), .next) else none | _ => none) := fun {prog w A E X0 s0 env gd hid ow r r' fl s Q} hA hs hfn S hf h => by
  dsimp only at hf
  split at hf <;> try (cases hf; done)
  rename_i u hu
  split at hf <;> try (cases hf; done)
  rename_i hut
  first | obtain ⟨rfl, rfl⟩ := some_pair hf | obtain rfl := some_one hf | cases hf
  obtain ⟨ho, hx0, hx1⟩ := hts u hut
  obtain ⟨fa, ob, fd, _, hob, hd, hcd, hsc⟩ := hfn
  have hfn' : FnOk c env := ⟨fa, ob, fd, by assumption, hob, hd, hcd, hsc⟩
  have hcode : env.code = .ref ca := hcd.trans (hfn0 fa ob fd hob hd (hsc.symm.trans hs))
  refine wpAny_Assign_Name (MethodCall_ (tp hA hs S rfl fun v s1 a1 x1 => ?_) (he _)) (hsw _)
  have S1 := S.after a1
  obtain rfl := x1.adr_inv
  obtain ⟨fs, T, ws, nn, o, oT, q1, q2, q3, _⟩ := hpat _ S1.glo
  refine getMethod_builtin (T := "re.Pattern") ⟨o, q1, q2⟩ plainAttrs_pat slot_sub type_sub (fun a' e => by cases e; exact ⟨o, q1, q3⟩) ?_
  refine Calls.callWith_builtin (pl _ _).1 (evalArgs_pl pl ?_)
  refine spliced_more (wp_lambda L S1.glo S1.eg hcode (hdef _) (hcl _ hs) fun a h' tk ex ft => ?_) (hs1 _)
  have a2 : After c s1 { s1 with heap := h', toks := tk } := After.heap tk ex
  have S2 := S1.after a2
  refine spliced_more (ty hA hs S2 (d := .str u) (by dsimp only; rw [hu]) fun v2 s3 a3 x3 => ?_) rfl
  refine spliced_none ?_
  have S3 := S2.after a3
  obtain ⟨t, rfl⟩ := x3.str_inv
  have ft3 : Shared.TypeIs s3 (.ref a) "function" := by
    obtain ⟨of, e1, e2⟩ := ft
    refine ⟨of, a3.2.keep a of (fun q => ?_) e1, e2⟩
    obtain ⟨ps, e3, _⟩ := S2.glo.zl a q
    rw [e1] at e3
    cases e3
    cases e2
  refine call_sub (hpat _ S3.glo) ft3 ho hx0 hx1 fun h3 t3 k3 hk3 => ?_
  have a4 : After c s3 { s3 with heap := h3, toks := k3 } := After.heap k3 (Ext.of hk3)
  refine wp_storeName (S3.after a4) (hk.of hs hfn') fun h5 tk5 bb hw Ts => ?_
  have aa := ((a1.trans a2).trans a3).trans a4
  obtain ⟨⟨h1', tk1, e0⟩, e1⟩ := aa
  have := S.store_sh (tk := tk5) e1 hw Ts (d := .str u) .str
  obtain ⟨⟨h3', tk3', rfl⟩, _⟩ := (a1.trans a2).trans a3
  exact h _ _ _ this trivial
end
end Mine
end SRe2

/-! La23 -/
noncomputable section SLa23
namespace Mine
section
variable {c : Cx} {n : Nat} {sc : Scope} {b : Bool}
def oTup (x y : Str) : D → Option Bool
  | .str z => if PyData.canLay0 (.str x) = true ∧ PyData.canLay0 (.str y) = true ∧ PyData.canLay0 (.str z) = true then some (x == z || y == z) else none
  | _ => none
theorem trT_inTup {e : Expr} {x y : Str} {k k1 k2 : Nat} {p p1 p2 pos : Pos} {f : Rho → Option D} (t : TrM b c n sc e f)
    (hm : behindInMarks .In (.Tuple [.Constant (.str x) k1 p1, .Constant (.str y) k2 p2] k p) = false := by first | rfl | (intros; rfl)) :
    TrT c n sc (.Compare e [.In] [.Tuple [.Constant (.str x) k1 p1, .Constant (.str y) k2 p2] k p] pos) (fun r => (f r).bind (oTup x y)) := fun {prog w A E X0 s0 env gd hid ow r s Q d} hA hs S hf h => by
  obtain ⟨da, h1, hf⟩ := bind_some hf
  cases da <;> simp only [oTup, reduceCtorEq] at hf
  rename_i z
  split at hf <;> try (cases hf; done)
  rename_i hl
  first | obtain ⟨rfl, rfl⟩ := some_pair hf | obtain rfl := some_one hf | cases hf
  refine wpAny_isTrue_Compare1 (t hA hs S h1 fun a s1 a1 x1 => wpAny_Tuple ?_) hm
  obtain ⟨tz, rfl⟩ := x1.str_inv
  refine spliced_more (Calls.Constant_str ?_) rfl
  refine spliced_more (Calls.Constant_str ?_) rfl
  refine spliced_none ⟨by show 2 ≤ sizeLine; decide, ?_⟩
  refine SeqAt.in_tuple_reads (xs := [.str x, .str y]) (d := .str z) (.tuple (Heap.get?_push_size _ rfl) rfl rfl (.cons (.str _ _) (.cons (.str _ _) .nil))) (.str _ _) (by show (PyData.canLay0 (.str x) && (PyData.canLay0 (.str y) && true)) = true; rw [hl.1, hl.2.1]; rfl) hl.2.2 ?_ ?_
  · have := hA.un
    show A.units + 1 + min _ 0 < 9900
    lia
  · refine wpAny_truthy_bool ?_
    have e : ([PyData.str x, PyData.str y].any fun u => PyData.eqv u (.str z)) = (x == z || y == z) := by
      show ((x == z) || ((y == z) || false)) = _
      rw [Bool.or_false]
    rw [e]
    refine h _ (a1.trans ?_)
    exact After.push c s1 _ _
end
end Mine
end SLa23

/-! La24 -/
noncomputable section SLa24
namespace Mine
section
variable {c : Cx} {n : Nat} {sc : Scope} {b : Bool}
/-- the place of a text that is there -/
def oIndex : List D → Option D
  | [.str x, .str y] => match Builtin.Str.occurrences x y 0 x.length 1 with
    | i :: _ => some (.int i)
    | [] => none
  | _ => none
theorem act_index : ActL c n (fun vs => call (.builtin "str.index") vs) oIndex := fun {prog w A E s Q vs ds d X} hA G hz hX ra ho h => by
  unfold oIndex at ho
  split at ho
  · rename_i x y
    obtain ⟨v1, v2, rfl, r1, r2⟩ := ra.two_inv
    obtain ⟨t, rfl⟩ := r1.str_inv
    obtain ⟨u, rfl⟩ := r2.str_inv
    split at ho
    · rename_i i rest e
      first | obtain ⟨rfl, rfl⟩ := some_pair ho | obtain rfl := some_one ho | cases ho
      exact call_gives F.slot_str_index (typeIs_str _ _ _) F.entry_str_index (F.args_str_index_2 _ _) (gives_str_index x y t u i rest e) (h _ _ (After.tok c _ _) .int)
    · first | obtain ⟨rfl, rfl⟩ := some_pair ho | obtain rfl := some_one ho | cases ho
  · first | obtain ⟨rfl, rfl⟩ := some_pair ho | obtain rfl := some_one ho | cases ho
end
end Mine
end SLa24

/-! La25 -/
noncomputable section SLa25
namespace Mine
section
variable {c : Cx} {X0 : List Addr} {s0 : Shared} {env : Env} {gd : List (Addr × Obj)} {hid : List (Value × D)} {ow : List (Str × Addr)} {r : Rho} {s : Shared}
/-- one of the frame's lists is turned: what stays -/
theorem St.turn {h' : Heap} {tk : Nat} {y : Str} {a : Addr} {vs' : Array Value} (S : St c X0 s0 env gd hid ow r s) (ha : (y, a) ∈ ow)
    (hs : Heap.SameBut a s.heap h') (hp : h'.PlainList a vs') :
    St c X0 s0 env gd hid ow [] { s with heap := h', toks := tk } ∧ (∀ x v, Loads env s.heap x v → Loads env h' x v) ∧ (∀ a' vs, LP s.heap (XX ow X0) a' vs → LP h' (XX ow X0) a' vs) ∧
      (∀ m a', IsApp s.heap m a' → IsApp h' m a') := by
  have hax : a ∈ XX ow X0 := List.mem_append_left _ (List.mem_map_of_mem (f := (·.2)) ha)
  obtain ⟨⟨vs0, n0, e0⟩, f0, z0⟩ := S.owp _ ha
  have mon : ∀ a' vs, LP s.heap (XX ow X0) a' vs → LP h' (XX ow X0) a' vs := fun a' vs q =>
    ⟨IsList.at q.1 fun o e => (hs.2 a' fun w => q.2 (w ▸ hax)).trans e, q.2⟩
  have ne : ∀ b o, s.heap.get? b = some o → (∀ n, o.data ≠ .seq vs0 n) → b ≠ a := fun b o e q w => by
    rw [w] at e
    have e0' : s.heap.get? a = some { cls := .type "list", data := .seq vs0 n0 } := e0
    rw [e0'] at e
    cases e
    exact q n0 rfl
  refine ⟨⟨S.kf, S.eg, S.eb, let ⟨_, _, q⟩ := S.same; ⟨h', tk, by rw [q]⟩, S.glo0, ⟨fun b o hb e => ?_, fun z hz q => (S.keep.zl z hz q).keep fun o w => (hs.2 z fun w => z0 (w ▸ hz)).trans w, fun z hz q => ?_⟩, S.zx, S.xl, ?_, S.nz, S.nf, fun x b q => ?_, S.ci, S.cf, S.fnc, fun p hp' => ?_, fun p hp' => R.mono mon (S.hids p hp'), S.owk, S.owa, fun p hp' => ?_, fun x e q => (nomatch q)⟩, fun x v w => ?_, mon, fun m a' w => ?_⟩
  · exact (hs.2 b fun w => f0 (w ▸ live.of e)).trans (S.keep.keep b o hb e)
  · have := S.keep.zv z hz q
    unfold live at this ⊢
    rw [hs.2 z fun w => z0 (w ▸ hz)]; exact this
  · obtain ⟨m, n⟩ := S.ns
    refine ⟨m, n.at fun o e => (hs.2 _ (ne _ o e fun n' w => ?_)).trans e⟩
    obtain ⟨o1, es, ep, h1, h2, _⟩ := n
    rw [e] at h1; cases h1
    rw [w] at h2; cases h2
  · obtain ⟨⟨v, o, h1, h2⟩, hz⟩ := S.cl x b q
    exact ⟨⟨v, o, (hs.2 b (ne b o h1 fun n' w => by rw [w] at h2; cases h2)).trans h1, h2⟩, hz⟩
  · obtain ⟨a1, a2, a3, a4, a5⟩ := S.gds p hp'
    exact ⟨(hs.2 p.1 fun w => a5 (by rw [w]; exact List.mem_map_of_mem (f := (·.2)) ha)).trans a1, a2, a3, a4, a5⟩
  · obtain ⟨⟨vs, n, e⟩, a2, a3⟩ := S.owp p hp'
    by_cases w : p.2 = a
    · exact ⟨⟨vs', w ▸ hp⟩, a2, a3⟩
    · exact ⟨⟨vs, n, (hs.2 _ w).trans e⟩, a2, a3⟩
  · rcases w with ⟨k, m, n, q⟩ | ⟨k, b, q, o, ho, hd⟩
    · refine .inl ⟨k, m, n.at fun o e => (hs.2 _ (ne _ o e fun n' w => ?_)).trans e, q⟩
      obtain ⟨o1, es, ep, h1, h2, _⟩ := n
      rw [e] at h1; cases h1
      rw [w] at h2; cases h2
    · exact .inr ⟨k, b, q, o, (hs.2 b (ne b o ho fun n' w => by rw [w] at hd; cases hd)).trans ho, hd⟩
  · obtain ⟨o, h1, h2, h3⟩ := w
    exact ⟨o, (hs.2 m (ne m o h1 fun n' w => by rw [w] at h3; cases h3)).trans h1, h2, h3⟩
/-- a name leaves the list of owners -/
theorem St.disown {ow' : List (Str × Addr)} (S : St c X0 s0 env gd hid ow r s) (hsub : List.Sublist ow' ow) : St c X0 s0 env gd hid ow' [] s := by
  have hX : ∀ a, a ∈ XX ow' X0 → a ∈ XX ow X0 := fun a h => by
    rcases List.mem_append.mp h with q | q
    · exact List.mem_append_left _ ((hsub.map _).subset q)
    · exact List.mem_append_right _ q
  have mon : ∀ a vs, LP s.heap (XX ow X0) a vs → LP s.heap (XX ow' X0) a vs := fun a vs l => ⟨l.1, fun q => l.2 (hX a q)⟩
  refine ⟨S.kf, S.eg, S.eb, S.same, S.glo0, S.keep, S.zx, S.xl, S.ns, S.nz, S.nf, S.cl, S.ci, S.cf, S.fnc, fun p hp => ?_, fun p hp => R.mono mon (S.hids p hp), S.owk.sublist (hsub.map _), S.owa.sublist (hsub.map _), fun p hp => S.owp p (hsub.subset hp), fun y e q => nomatch q⟩
  obtain ⟨a1, a2, a3, a4, a5⟩ := S.gds p hp
  exact ⟨a1, a2, a3, a4, fun q => a5 ((hsub.map _).subset q)⟩
/-- a list just made gets an owner -/
theorem St.own1 {x : Str} {b : Addr} {vs : Array Value} (S : St c X0 s0 env gd hid ow r s) (hx : x ∉ ow.map (·.1)) (hb : b ∉ XX ow X0) (hbl : ¬ live s0.heap b) (hbz : b ∉ c.Z) (hp : s.heap.PlainList b vs)
    (hg : b ∉ gd.map (·.1)) (hh : ∀ p ∈ hid, R (LP s.heap (XX ((x, b) :: ow) X0)) p.1 p.2) : St c X0 s0 env gd hid ((x, b) :: ow) [] s := by
  refine ⟨S.kf, S.eg, S.eb, S.same, S.glo0, S.keep, S.zx, S.xl, S.ns, S.nz, S.nf, S.cl, S.ci, S.cf, S.fnc, fun p hp' => ?_, hh, ?_, ?_, fun p hp' => ?_, fun y e q => nomatch q⟩
  · obtain ⟨a1, a2, a3, a4, a5⟩ := S.gds p hp'
    refine ⟨a1, a2, a3, a4, fun q => ?_⟩
    rw [List.map_cons] at q
    rcases List.mem_cons.mp q with e | q
    · exact hg ((show p.1 = b from e) ▸ List.mem_map_of_mem (f := (·.1)) hp')
    · exact a5 q
  · rw [List.map_cons, List.nodup_cons]; exact ⟨hx, S.owk⟩
  · rw [List.map_cons, List.nodup_cons]; exact ⟨fun q => hb (List.mem_append_left _ q), S.owa⟩
  · rcases List.mem_cons.mp hp' with e | q
    · subst e; exact ⟨⟨vs, hp⟩, hbl, hbz⟩
    · exact S.owp p q
end
end Mine
end SLa25

/-! La26 -/
noncomputable section SLa26
namespace Mine
section
variable {c : Cx} {X0 : List Addr} {s0 : Shared} {env : Env} {gd : List (Addr × Obj)} {hid : List (Value × D)} {ow : List (Str × Addr)} {r : Rho} {s : Shared}
theorem no_last {sc : Scope} (S : St c X0 s0 env gd hid ow r s) (hs : env.scope = sc) (hk : sc.names.lookup (".last" : Str) = none) {e : Ent} : r.get ".last" ≠ some e := fun q => by
  obtain ⟨v, l, _⟩ := S.vars _ _ q
  have hk' : env.kindOf ".last" = none := by show env.scope.names.lookup _ = _; rw [hs]; exact hk
  rcases l with ⟨k, _⟩ | ⟨k | k, _⟩ <;> rw [hk'] at k <;> cases k
/-- what the other names hold, when the one list of lists is turned -/
theorem vars_keep {h' : Heap} {ow' : List (Str × Addr)} {y : Str} (S : St c X0 s0 env gd hid ow r s) (hn : ∀ e, r.get ".last" ≠ some e)
    (hL : ∀ x v, Loads env s.heap x v → Loads env h' x v) (mon : ∀ a vs, LP s.heap (XX ow X0) a vs → LP h' (XX ow' X0) a vs) (app : ∀ m a, IsApp s.heap m a → IsApp h' m a)
    (sub : ∀ p ∈ ow, p.1 ≠ ".last" → p ∈ ow') (pl : ∀ p ∈ ow, p.1 ≠ ".last" → p.1 ≠ y → ∀ vs, s.heap.PlainList p.2 vs → h'.PlainList p.2 vs)
    {z : Str} (hz : z ≠ y) {e : Ent} (q : (r.get z).map (Ent.kill ".last") = some e) : ∃ v, Loads env h' z v ∧ entOk h' (XX ow' X0) c.Z ow' z v e := by
  cases hg : r.get z with
  | none => rw [hg] at q; cases q
  | some e0 =>
    rw [hg] at q
    have hzl : z ≠ ".last" := fun w => hn e0 (w ▸ hg)
    obtain ⟨v, l, o⟩ := S.vars z e0 hg
    refine ⟨v, hL _ _ l, ?_⟩
    have q' : e0.kill ".last" = e := Option.some.inj q
    subst q'
    cases e0 with
    | sh d => exact R.mono mon o
    | own l' =>
      obtain ⟨a, vs, rfl, hm, hp, hr⟩ := o
      exact ⟨a, vs, rfl, sub _ hm hzl, pl _ hm hzl hz vs hp, Rs.mono mon hr⟩
    | app y' =>
      obtain ⟨m, a, rfl, hm, hap, hz'⟩ := o
      show entOk h' (XX ow' X0) c.Z ow' z (.ref m) (if y' = ".last" then .dead else .app y')
      by_cases hy : y' = ".last"
      · rw [if_pos hy]; exact trivial
      · rw [if_neg hy]
        exact ⟨m, a, rfl, sub _ hm hy, app _ _ hap, hz'⟩
    | nest init last =>
      show entOk h' (XX ow' X0) c.Z ow' z v (if (".last" : Str) = ".last" then .dead else .nest init last)
      rw [if_pos rfl]
      exact trivial
    | dead => exact trivial
theorem St.with_vars {r' : Rho} (S : St c X0 s0 env gd hid ow [] s) (h : ∀ x e, r'.get x = some e → ∃ v, Loads env s.heap x v ∧ entOk s.heap (XX ow X0) c.Z ow x v e) : St c X0 s0 env gd hid ow r' s := { S with vars := h }
def getNest (r : Rho) (y : Str) : Option (List D × List D) := match r.get y with
  | some (.nest i l) => some (i, l)
  | _ => none
theorem getNest_of {r : Rho} {y : Str} {i l : List D} (h : getNest r y = some (i, l)) : r.get y = some (.nest i l) := by
  unfold getNest at h
  split at h
  · rename_i e; cases h; exact e
  · cases h
theorem nestOf {i l : List D} {y : Str} (S : St c X0 s0 env gd hid ow r s) (h : r.get y = some (.nest i l))
    {prog : Program} {w : World} {A : Around} {E : Value → Shared → Prop} {Q : Value → Shared → Prop} {pos : Pos} (hd : (y == ("__debug__" : Str)) = false) (hn : (y == ("__classdict__" : Str)) = false)
    (hq : ∀ (a b : Addr) (vs ws : Array Value), Loads env s.heap y (.ref a) → (y, a) ∈ ow → ((".last" : Str), b) ∈ ow → s.heap.PlainList a (vs.push (.ref b)) → Rs (LP s.heap (XX ow X0)) vs.toList i → s.heap.PlainList b ws → Rs (LP s.heap (XX ow X0)) ws.toList l → Q (.ref a) s) : wpAny (model prog w) A (eval (.Name y pos) env) Q E s := by
  obtain ⟨v, lo, a, b, vs, ws, rfl, hm, hm2, hp, hr, hp2, hr2⟩ := S.vars y _ h
  have hq := hq a b vs ws lo hm hm2 hp hr hp2 hr2
  rcases lo with ⟨k, m, hm, q⟩ | ⟨k | k, a, ha, hc⟩
  · exact wpAny_Name (wpAny_loadName_local S.kf k hm q hq) hd
  · exact wpAny_Name (wpAny_loadName_cell S.kf k ha hc hq) hd
  · exact wpAny_Name (wpAny_loadName_free S.kf k ha hc hq hn) hd
end
section
variable {c : Cx} {n : Nat} {sc : Scope} {b : Bool}
/-- the list of lists, as data -/
theorem tr_nameN (y : Str) (pos : Pos) (hd : (y == ("__debug__" : Str)) = false := by rfl) (hn : (y == ("__classdict__" : Str)) = false := by rfl) :
    TrB c n sc (.Name y pos) (fun r => (getNest r y).map fun p => .list (p.1 ++ [.list p.2])) := fun {prog w A E X0 s0 env gd hid ow r s Q d} hA hs S hf h => by
  dsimp only at hf
  cases hg : getNest r y with
  | none => rw [hg] at hf; cases hf
  | some p =>
    obtain ⟨i, l⟩ := p
    rw [hg] at hf
    first | obtain ⟨rfl, rfl⟩ := some_pair hf | obtain rfl := some_one hf | cases hf
    refine nestOf S (getNest_of hg) hd hn fun a b vs ws _ hm hm2 hp hr hp2 hr2 => h _ _ (After.refl c _) (.list ⟨hp.isList, fun q => (S.owp _ hm).2.1 (S.xl _ q)⟩ ?_)
    rw [Array.toList_push]
    exact Rs.append (Rs.mono (LPz S) hr) (.cons (.list ⟨hp2.isList, fun q => (S.owp _ hm2).2.1 (S.xl _ q)⟩ (Rs.mono (LPz S) hr2)) .nil)
/-- y = [[]] -/
theorem trS_nest0 {y : Str} {p p1 p2 pos : Pos} (hk : Sto sc y) (hyl : y ≠ (".last" : Str) := by decide) (hkl : sc.names.lookup (".last" : Str) = none := by rfl)
    (hsw : ∀ env, swapsWith (.List [.List [] p2] p1) (some (.Name y p)) pos.line env = pure false := by intro _; rfl)
    (hst : ∀ env, starEach [.List [] p2] env = (false, eval (.List [] p2) env) :: starEach [] env := by intro _; rfl) :
    TrS c n sc (.Assign [.Name y p] (.List [.List [] p2] p1) pos) (fun r => some (((r.kill ".last").kill y).put y (.nest [] []), .next)) := fun {prog w A E X0 s0 env gd hid ow r r' fl s Q} hA hs hfn S hf h => by
  first | obtain ⟨rfl, rfl⟩ := some_pair hf | obtain rfl := some_one hf | cases hf
  refine wpAny_Assign_Name (List_ (spliced_more ((trF_list (c := c) (n := n) (sc := sc) (pos := p2) trEs_nil) hA hs S (ds := []) (by simp only [Option.bind_some, List.length_nil, Nat.zero_le, if_true]) fun bb ws s1 a1 hl hp hr => spliced_none ?_) (hst _))) (hsw _)
  have S1 := S.after a1
  refine wpAny_newObj_type ?_ (by show 1 ≤ sizeLine; rw [sizeLine_eq]; decide)
  have a2 : After c s1 { s1 with heap := s1.heap.push { cls := .type "list", data := .seq #[.ref bb] }, toks := s1.toks } := After.push c _ _ _
  refine wp_storeName (S1.after a2) (hk.of hs hfn) fun h' tk b hw T => ?_
  have hn := fun e => no_last (e := e) S hs hkl
  obtain ⟨⟨h2, tk2, e2⟩, x12⟩ := a1.trans a2
  have hfa : ¬ live s1.heap s1.heap.objs.size := not_live_size _
  have hbl : live s1.heap bb := live.of hp.choose_spec
  have sub := dropO_sub ow ".last"
  have sub2 := dropO_sub (dropO ow ".last") y
  have Sd0 := S.disown sub
  have hXd : ∀ a, a ∈ XX (dropO ow ".last") X0 → a ∈ XX ow X0 := fun a h => by
    rcases List.mem_append.mp h with q | q
    · exact List.mem_append_left _ ((sub.map _).subset q)
    · exact List.mem_append_right _ q
  have Sd : St c X0 s0 env gd hid (dropO ow ".last") (r.kill ".last") s := Sd0.with_vars fun x e q => by
    rw [Rho.get_kill] at q
    by_cases hx : x = ".last"
    · subst hx
      cases hg : r.get ".last" with
      | none => rw [hg] at q; cases q
      | some e0 => exact absurd hg (hn e0)
    · exact vars_keep (y := ".last") S hn (fun _ _ l => l) (fun a vs l => ⟨l.1, fun q => l.2 (hXd a q)⟩) (fun _ _ l => l) (fun p hp hne => mem_dropO.mpr ⟨hp, hne⟩) (fun _ _ _ _ _ l => l) hx q
  have hpa : (s1.heap.push { cls := .type "list", data := .seq #[.ref bb] }).PlainList s1.heap.objs.size ((#[] : Array Value).push (.ref bb)) := ⟨0, Heap.get?_push_size _ rfl⟩
  have hpb : (s1.heap.push { cls := .type "list", data := .seq #[.ref bb] }).PlainList bb ws := hp.at fun o e => Heap.get?_push_of_some _ e
  have hws : ws.toList = [] := by
    have := Rs.length hr
    exact List.length_eq_zero_iff.mp this
  have nlb : ¬ live s.heap bb := hl
  have nla : ¬ live s.heap s1.heap.objs.size := fun q => hfa (a1.2.live q)
  have hab : s1.heap.objs.size ≠ bb := fun q => hfa (q ▸ hbl)
  have nX : ∀ {a' : Addr}, ¬ live s.heap a' → a' ∉ XX ow X0 := fun h q => h (S.Xl _ q)
  have ex : s.heap = s.heap := rfl
  have hd2 : s1 = { s with heap := s1.heap, toks := s1.toks } := by
    obtain ⟨⟨h1', tk1', q1⟩, _⟩ := a1
    rw [q1]
  have key := Sd.store (x := y) (v := .ref s1.heap.objs.size) (en := .nest [] []) (tk := tk) (ow' := (y, s1.heap.objs.size) :: (".last", bb) :: dropO (dropO ow ".last") y)
    (h1 := s1.heap.push { cls := .type "list", data := .seq #[.ref bb] }) (h' := h') (b := b) x12 hw T
    (fun q hq hne => List.mem_cons_of_mem _ (List.mem_cons_of_mem _ (mem_dropO.mpr ⟨hq, hne⟩))) ?_ ?_ (fun q hq => ?_) (fun a vs l => ?_) (fun q hq w => ?_)
    ⟨_, bb, #[], ws, rfl, List.mem_cons_self, List.mem_cons_of_mem _ List.mem_cons_self, T.plain hpa, .nil, T.plain hpb, by rw [hws]; exact .nil⟩
  · have := h .next { s with heap := h', toks := tk } _ key trivial
    rw [hd2]
    exact this
  · rw [List.map_cons, List.map_cons, List.nodup_cons, List.nodup_cons]
    refine ⟨fun q => ?_, fun q => ?_, S.owk.sublist ((sub2.trans sub).map _)⟩
    · rcases List.mem_cons.mp q with q | q
      · exact hyl q
      · obtain ⟨p', hp', e⟩ := List.mem_map.mp q
        exact (mem_dropO.mp hp').2 e
    · obtain ⟨p', hp', e⟩ := List.mem_map.mp q
      exact (mem_dropO.mp (mem_dropO.mp hp').1).2 e
  · rw [List.map_cons, List.map_cons, List.nodup_cons, List.nodup_cons]
    refine ⟨fun q => ?_, fun q => ?_, S.owa.sublist ((sub2.trans sub).map _)⟩
    · rcases List.mem_cons.mp q with q | q
      · exact hab q
      · exact nX nla (List.mem_append_left _ (((sub2.trans sub).map _).subset q))
    · exact nX nlb (List.mem_append_left _ (((sub2.trans sub).map _).subset q))
  · have hzz : ∀ {a' : Addr}, ¬ live s.heap a' → a' ∉ c.Z := fun h z => h (S.Xl _ (S.zX _ z))
    rcases List.mem_cons.mp hq with e | hq
    · subst e
      exact ⟨⟨_, T.plain hpa⟩, fun q => nla (S.keep.live q), hzz nla⟩
    · rcases List.mem_cons.mp hq with e | hq
      · subst e
        exact ⟨⟨_, T.plain hpb⟩, fun q => nlb (S.keep.live q), hzz nlb⟩
      · obtain ⟨⟨vs, a1⟩, a2, a3⟩ := S.owp q ((sub2.trans sub).subset hq)
        exact ⟨⟨vs, T.plain (a1.at fun o z => x12.keep _ o a3 z)⟩, a2, a3⟩
  · have lv := IsList.live l.1
    refine ⟨T.isList (IsList.at l.1 fun o z => x12.keep _ o (fun q => l.2 (Sd.zX _ q)) z), fun q => ?_⟩
    rcases List.mem_append.mp q with q | q
    · rw [List.map_cons, List.map_cons] at q
      rcases List.mem_cons.mp q with q | q
      · exact nla ((show a = s1.heap.objs.size from q) ▸ lv)
      · rcases List.mem_cons.mp q with q | q
        · exact nlb ((show a = bb from q) ▸ lv)
        · exact l.2 (List.mem_append_left _ ((sub2.map _).subset q))
    · exact l.2 (List.mem_append_right _ q)
  · have lv := live.of (S.gds q hq).1
    rw [List.map_cons, List.map_cons] at w
    rcases List.mem_cons.mp w with w | w
    · exact nla ((show q.1 = s1.heap.objs.size from w) ▸ lv)
    · rcases List.mem_cons.mp w with w | w
      · exact nlb ((show q.1 = bb from w) ▸ lv)
      · exact (S.gds q hq).2.2.2.2 (((sub2.trans sub).map _).subset w)
end
end Mine
end SLa26

/-! La27 -/
noncomputable section SLa27
namespace Mine
section
variable {c : Cx} {n : Nat} {sc : Scope} {b : Bool}
theorem last_idxL (l : List D) (d : D) (hl : l.length < lim) : oIdx (.list (l ++ [d])) (.int (-1)) = some d := by
  have hlim := lim_eq
  unfold oIdx
  dsimp only
  rw [if_pos (by rw [List.length_append, List.length_singleton]; lia)]
  have : seqIndex? (-1) (l ++ [d]).length = some l.length := by
    rw [List.length_append, List.length_singleton]
    unfold seqIndex?
    have e : (-1 : Int) < 0 := by decide
    simp only [e, if_true]
    rw [if_pos (by simp; lia)]
    congr 1
    lia
  rw [this]
  simp
/-- y.append([]) -/
theorem trS_nestPush {y : Str} {p p2 apos pos spos : Pos} (pls : Env → Sem Bool) (pl : Plain [.List [] p2])
    (hc : ∀ env, eval (.Call (.Attribute (.Name y p) "append" apos) [.List [] p2] [] pos) env = (do
      let ov ← eval (.Name y p) env
      standAt apos.atName
      let (f, first) ← holding [ov] (getMethod ov "append" (pls env))
      callWith pos f first (backTo pos (starEach [.List [] p2] env)) []))
    (hi : ∀ env, env.scope = sc → interactive env = false) (hyl : y ≠ (".last" : Str) := by decide) (hkl : sc.names.lookup (".last" : Str) = none := by rfl)
    (hsw : ∀ env, swapsWith (.Call (.Attribute (.Name y p) "append" apos) [.List [] p2] [] pos) none spos.line env = pure false := by intro _; rfl)
    (hst : ∀ env, starEach [.List [] p2] env = (false, eval (.List [] p2) env) :: starEach [] env := by intro _; rfl)
    (hd : (y == ("__debug__" : Str)) = false := by decide) (hn : (y == ("__classdict__" : Str)) = false := by decide) :
    TrS c n sc (.Expr (.Call (.Attribute (.Name y p) "append" apos) [.List [] p2] [] pos) spos)
      (fun r => (getNest r y).bind fun q => if q.1.length < lim then some ((r.kill ".last").put y (.nest (q.1 ++ [.list q.2]) []), .next) else none) := fun {prog w A E X0 s0 env gd hid ow r r' fl s Q} hA hs hfn S hf h => by
  obtain ⟨⟨i, l⟩, h0, hf⟩ := bind_some hf
  split at hf <;> try (cases hf; done)
  rename_i hlt
  first | obtain ⟨rfl, rfl⟩ := some_pair hf | obtain rfl := some_one hf | cases hf
  have hy := getNest_of h0
  refine wpAny_Expr ?_ (hi _ hs) (hsw _)
  refine MethodCall_ (nestOf S hy hd hn fun a b vs ws lo hm hm2 hp hr hp2 hr2 => ?_) (hc _)
  obtain ⟨nn, e0⟩ := id hp
  refine Calls.getMethod_list_append e0 rfl rfl ?_
  refine Calls.callWith_builtin (pl _ _).1 (evalArgs_pl pl (spliced_more ((trF_list (c := c) (n := n) (sc := sc) (pos := p2) trEs_nil) hA hs S (ds := []) (by simp only [Option.bind_some, List.length_nil, Nat.zero_le, if_true]) fun b' ws' s1 a1 hl' hp' hr' => spliced_none ?_) (hst _)))
  have S1 := S.after a1
  have hnl := fun e => no_last (e := e) S hs hkl
  have hz := (S.owp _ hm).2.2
  have hz2 := (S.owp _ hm2).2.2
  have hp1 : s1.heap.PlainList a (vs.push (.ref b)) := hp.at fun o e => a1.2.keep a o hz e
  have hp21 : s1.heap.PlainList b ws := hp2.at fun o e => a1.2.keep b o hz2 e
  have hlen := Rs.length hr
  refine wpAny_list_append_plain hp1 (fun h' hq hs' => ?_) ?_
  · obtain ⟨T0, hL, mon, app⟩ := S1.turn (tk := s1.toks) hm hs' hq
    have sub := dropO_sub ow ".last"
    have T1 := T0.disown sub
    have lb : live s.heap b := live.of hp2.choose_spec
    have la : live s.heap a := live.of hp.choose_spec
    have nb'a : b' ≠ a := fun q => hl' (q ▸ la)
    have nb'b : b' ≠ b := fun q => hl' (q ▸ lb)
    have nab : a ≠ b := fun q => hyl (ow_inj S.owa hm (q ▸ hm2))
    have pb' : h'.PlainList b' ws' := by obtain ⟨k, e⟩ := hp'; exact ⟨k, (hs'.2 _ nb'a).trans e⟩
    have pb : h'.PlainList b ws := by obtain ⟨k, e⟩ := hp21; exact ⟨k, (hs'.2 _ fun q => nab q.symm).trans e⟩
    have nX : b' ∉ XX ow X0 := fun q => hl' (S.Xl _ q)
    have nX' : b' ∉ XX (dropO ow ".last") X0 := fun q => nX (by
      rcases List.mem_append.mp q with q | q
      · exact List.mem_append_left _ ((sub.map _).subset q)
      · exact List.mem_append_right _ q)
    have mon2 : ∀ a' vs, LP s.heap (XX ow X0) a' vs → LP h' (XX ((".last", b') :: dropO ow ".last") X0) a' vs := fun a' vs q => by
      have m1 := mon a' vs (LP.ext a1.2 S.zX (fun _ q => .inl q) a' vs q)
      refine ⟨m1.1, fun w => ?_⟩
      rcases List.mem_append.mp w with w | w
      · rw [List.map_cons] at w
        rcases List.mem_cons.mp w with w | w
        · exact hl' ((show a' = b' from w) ▸ IsList.live q.1)
        · exact q.2 (List.mem_append_left _ ((sub.map _).subset w))
      · exact q.2 (List.mem_append_right _ w)
    have T2 := T1.own1 (x := ".last") (b := b') (vs := ws') (fun q => by
        obtain ⟨p', hp', e⟩ := List.mem_map.mp q
        exact (mem_dropO.mp hp').2 e) nX' (fun q => hl' (S.keep.live q)) (fun q => nX (S.zX _ q)) pb' (fun q => by
        obtain ⟨p', hp', e⟩ := List.mem_map.mp q
        exact hl' (e ▸ live.of (S.gds p' hp').1)) (fun p' hp' => R.mono mon2 (S.hids p' hp'))
    have hb : b ∉ XX ((".last", b') :: dropO ow ".last") X0 := fun w => by
      rcases List.mem_append.mp w with w | w
      · rw [List.map_cons] at w
        rcases List.mem_cons.mp w with w | w
        · exact nb'b (show b = b' from w).symm
        · obtain ⟨p', hp', e⟩ := List.mem_map.mp w
          obtain ⟨q1, q2⟩ := mem_dropO.mp hp'
          exact q2 (ow_inj (x := p'.1) S.owa (by rw [← e]; exact q1) hm2)
      · exact (S.owp _ hm2).2.1 (S.xl _ w)
    refine h .next _ _ (T2.with_vars fun x e q => ?_) trivial
    rw [Rho.get_put] at q
    by_cases hx : x = y
    · subst hx
      rw [if_pos rfl] at q
      cases q
      refine ⟨.ref a, hL _ _ (Loads.ext S lo a1.2), a, b', vs.push (.ref b), ws', rfl, List.mem_cons_of_mem _ (mem_dropO.mpr ⟨hm, hyl⟩), List.mem_cons_self, hq, ?_, pb', ?_⟩
      · rw [Array.toList_push]
        exact Rs.append (Rs.mono mon2 hr) (.cons (.list ⟨pb.isList, hb⟩ (Rs.mono mon2 hr2)) .nil)
      · have hw : ws'.toList = [] := List.length_eq_zero_iff.mp (Rs.length hr')
        rw [hw]
        exact .nil
    · rw [if_neg hx, Rho.get_kill] at q
      refine vars_keep (y := y) S hnl (fun x v l => hL x v (Loads.ext S l a1.2)) mon2 (fun m a' ha' => app m a' ?_) (fun p' hp' hne => List.mem_cons_of_mem _ (mem_dropO.mpr ⟨hp', hne⟩)) (fun p' hp' hne hny vs' hpl => ?_) hx q
      · obtain ⟨o, g1, g2, g3⟩ := ha'
        refine ⟨o, a1.2.keep m o (fun z => ?_) g1, g2, g3⟩
        obtain ⟨ps, e3, _⟩ := S.glo.zl m z
        rw [g1] at e3
        cases e3
        cases g2
      · have hpz := (S.owp _ hp').2.2
        obtain ⟨k, e⟩ := hpl
        refine ⟨k, (hs'.2 _ fun w => hny (ow_inj (x := p'.1) S.owa (by rw [← w]; exact hp') hm)).trans (a1.2.keep _ _ hpz e)⟩
  · have hlim := lim_le
    rw [Array.size_push]
    have : vs.size = i.length := by rw [← Array.length_toList]; exact hlen
    rw [this]
    exact Nat.le_trans hlt hlim
/-- y[-1].append(e) -/
theorem trS_nestApp {y : Str} {p p1 p2 p3 apos pos spos : Pos} {k1 : Nat} {e : Expr} {f : Rho → Option (List D)} (pls : Env → Sem Bool) (t : TrEs true c n sc [e] f) (pl : Plain [e])
    (hc : ∀ env, eval (.Call (.Attribute (.Subscript (.Name y p) (.UnaryOp .USub (.Constant (.int 1) k1 p1) p2) p3) "append" apos) [e] [] pos) env = (do
      let ov ← eval (.Subscript (.Name y p) (.UnaryOp .USub (.Constant (.int 1) k1 p1) p2) p3) env
      standAt apos.atName
      let (f, first) ← holding [ov] (getMethod ov "append" (pls env))
      callWith pos f first (backTo pos (starEach [e] env)) []))
    (hi : ∀ env, env.scope = sc → interactive env = false) (hyl : y ≠ (".last" : Str) := by decide) (hkl : sc.names.lookup (".last" : Str) = none := by rfl)
    (hsw : ∀ env, swapsWith (.Call (.Attribute (.Subscript (.Name y p) (.UnaryOp .USub (.Constant (.int 1) k1 p1) p2) p3) "append" apos) [e] [] pos) none spos.line env = pure false := by intro _; rfl)
    (hd : (y == ("__debug__" : Str)) = false := by decide) (hn : (y == ("__classdict__" : Str)) = false := by decide) :
    TrS c n sc (.Expr (.Call (.Attribute (.Subscript (.Name y p) (.UnaryOp .USub (.Constant (.int 1) k1 p1) p2) p3) "append" apos) [e] [] pos) spos)
      (fun r => (getNest r y).bind fun q => (f r).bind fun ds => match ds with
        | [d] => if q.1.length < lim ∧ q.2.length < lim then some ((r.kill ".last").put y (.nest q.1 (q.2 ++ [d])), .next) else none
        | _ => none) := fun {prog w A E X0 s0 env gd hid ow r r' fl s Q} hA hs hfn S hf h => by
  obtain ⟨⟨i, l⟩, h0, hf⟩ := bind_some hf
  obtain ⟨ds, h1, hf⟩ := bind_some hf
  split at hf <;> try (cases hf; done)
  rename_i d
  split at hf <;> try (cases hf; done)
  rename_i hlt
  first | obtain ⟨rfl, rfl⟩ := some_pair hf | obtain rfl := some_one hf | cases hf
  have hy := getNest_of h0
  have hnl := fun e => no_last (e := e) S hs hkl
  obtain ⟨v, lo, a, b, vs, ws, rfl, hm, hm2, hp, hr, hp2, hr2⟩ := S.vars y _ hy
  have hz := (S.owp _ hm).2.2
  have hz2 := (S.owp _ hm2).2.2
  have hlen := Rs.length hr
  have hlen2 := Rs.length hr2
  have S' : St c X0 s0 env gd hid ow [(y, .own (i ++ [.adr b]))] s := by
    refine (S.weaken (r' := []) fun x e q => nomatch q).with_vars fun x e q => ?_
    unfold Rho.get at q
    rw [List.lookup_cons] at q
    cases hb : x == y with
    | true =>
      rw [hb] at q
      cases q
      rw [beq_iff_eq.mp hb]
      refine ⟨.ref a, lo, a, vs.push (.ref b), rfl, hm, hp, ?_⟩
      rw [Array.toList_push]
      exact Rs.append hr (.cons .adr .nil)
    | false => rw [hb] at q; cases q
  refine wpAny_Expr ?_ (hi _ hs) (hsw _)
  have hget : Rho.get [(y, Ent.own (i ++ [D.adr b]))] y = some (.own (i ++ [.adr b])) := by
    unfold Rho.get
    rw [List.lookup_cons]
    simp
  have ng : oNeg (.int 1) = some (.int (-1)) := rfl
  refine MethodCall_ ((tr_idx (c := c) (n := n) (sc := sc) (pos := p3) (tr_nameB y p hd hn) (tr_un (pos := p2) (TrE.b (tr_int 1 k1 p1)) act_neg)) hA hs S' (d := .adr b) (by simp only [hget, Option.bind_some, ng, last_idxL i _ hlt.1]) fun v s1 a1 x1 => ?_) (hc _)
  have ev : v = .ref b := x1.adr_inv
  subst ev
  have S1 := S.after a1
  have hp21 : s1.heap.PlainList b ws := hp2.at fun o e => a1.2.keep b o hz2 e
  obtain ⟨nn, e0⟩ := id hp21
  refine Calls.getMethod_list_append e0 rfl rfl ?_
  refine Calls.callWith_builtin (pl _ _).1 (evalArgs_pl pl (t hA hs S1 h1 fun us s2 a2 x2 => ?_))
  have S2 := S1.after a2
  have aa := a1.trans a2
  obtain ⟨u, rfl, x3⟩ := x2.one_inv
  have hp22 : s2.heap.PlainList b ws := hp21.at fun o e => a2.2.keep b o hz2 e
  have hp12 : s2.heap.PlainList a (vs.push (.ref b)) := hp.at fun o e => aa.2.keep a o hz e
  have nab : a ≠ b := fun q => hyl (ow_inj S.owa hm (q ▸ hm2))
  refine wpAny_list_append_plain hp22 (fun h' hq hs' => ?_) ?_
  · obtain ⟨T0, hL, mon, app⟩ := S2.turn (tk := s2.toks) hm2 hs' hq
    have mon2 : ∀ a' vs, LP s.heap (XX ow X0) a' vs → LP h' (XX ow X0) a' vs := fun a' vs q => mon a' vs (LP.ext aa.2 S.zX (fun _ q => .inl q) a' vs q)
    have eS : s2 = { s with heap := s2.heap, toks := s2.toks } := by
      obtain ⟨⟨h1', tk1', q1⟩, _⟩ := aa
      rw [q1]
    refine h .next _ _ (T0.with_vars fun x e q => ?_) trivial
    rw [Rho.get_put] at q
    by_cases hx : x = y
    · subst hx
      rw [if_pos rfl] at q
      cases q
      refine ⟨.ref a, hL _ _ (Loads.ext S lo aa.2), a, b, vs, ws.push u, rfl, hm, hm2, ?_, Rs.mono mon2 hr, hq, ?_⟩
      · obtain ⟨k, e⟩ := hp12
        exact ⟨k, (hs'.2 _ nab).trans e⟩
      · rw [Array.toList_push]
        exact Rs.append (Rs.mono mon2 hr2) (.cons (R.mono mon x3) .nil)
    · rw [if_neg hx, Rho.get_kill] at q
      refine vars_keep (y := y) S hnl (fun x v l => hL x v (Loads.ext S l aa.2)) mon2 (fun m a' ha' => app m a' ?_) (fun p' hp' hne => hp') (fun p' hp' hne hny vs' hpl => ?_) hx q
      · obtain ⟨o, g1, g2, g3⟩ := ha'
        refine ⟨o, aa.2.keep m o (fun z => ?_) g1, g2, g3⟩
        obtain ⟨ps, e3, _⟩ := S.glo.zl m z
        rw [g1] at e3
        cases e3
        cases g2
      · have hpz := (S.owp _ hp').2.2
        obtain ⟨k, e⟩ := hpl
        exact ⟨k, (hs'.2 _ fun w => hne (ow_inj (x := p'.1) S.owa (by rw [← w]; exact hp') hm2)).trans (aa.2.keep _ _ hpz e)⟩
  · have hlim := lim_le
    have : ws.size = l.length := by rw [← Array.length_toList]; exact hlen2
    rw [this]
    exact Nat.le_trans (Nat.le_of_lt hlt.2) hlim
end
end Mine
end SLa27

/-! La28 -/
noncomputable section SLa28
namespace Mine
theorem lookup_rev {x : Str} {v : Value} : ∀ {l : List (Str × Value)}, (l.map (·.1)).Nodup → (x, v) ∈ l → l.reverse.lookup x = some v := by
  intro l hn hm
  have key : ∀ {l : List (Str × Value)}, (l.map (·.1)).Nodup → (x, v) ∈ l → l.lookup x = some v := by
    intro l
    induction l with
    | nil => intro _ h; cases h
    | cons p l ih =>
      intro hn h
      obtain ⟨y, u⟩ := p
      rw [List.map_cons, List.nodup_cons] at hn
      rw [List.lookup_cons]
      rcases List.mem_cons.mp h with e | h
      · cases e
        simp
      · have : x ≠ y := fun e => hn.1 (by rw [← e]; exact List.mem_map_of_mem (f := (·.1)) h)
        rw [beq_eq_false_iff_ne.mpr this]
        exact ih hn.2 h
  refine key ?_ (List.mem_reverse.mpr hm)
  rw [List.map_reverse]
  exact (List.reverse_perm _).nodup_iff.mpr hn
section
variable {c : Cx} {n : Nat}
/-- a lambda with what it captured, once its body is known -/
theorem act_lam {fa : Addr} {ob : Obj} {nm qual : Str} {params : Arguments} {body : Expr} {scope : Scope} {cl : List (Str × Addr)} {pm cv ctv : Value} {names : List Str} {f : Rho → Option D} {caps : Rho} {F : List D → Option D}
    (hob : c.FT fa = some ob) (hd : ob.data = .func (kla_fn nm qual params body scope cl pm cv ctv)) (hcr : ∀ h, Glo c h → h.CodeRec cv qual) (hnd : names.Nodup)
    (hbind : ∀ vals, vals.length = names.length → bindArgs (kla_fn nm qual params body scope cl pm cv ctv) ⟨vals, []⟩ = pure (names.zip vals))
    (hloc : ∀ x ∈ names, scope.names.lookup x = some .local) (hcell : ∀ x ∈ scope.names, x.2 ≠ .cell)
    (hcl : ∀ x a, cl.lookup x = some a → ∃ oc v, c.FT a = some oc ∧ oc.data = .cell v)
    (hci : ∀ x y a, cl.lookup x = some a → cl.lookup y = some a → x = y)
    (hcap : ∀ x e, caps.get x = some e → scope.names.lookup x = some .free ∧ ∃ a oc v d, cl.lookup x = some a ∧ c.FT a = some oc ∧ oc.data = .cell (some v) ∧ e = .sh d ∧ ∀ h X, R (LP h X) v d)
    (t : TrE c n scope body f)
    (hF : ∀ ds d, F ds = some d → ds.length = names.length ∧ f (names.zip (ds.map Ent.sh) ++ caps) = some d)
    (hco : scope.isCoroutine = false := by rfl) (hgen : scope.isGenerator = false := by rfl) (hk : scope.kind = .function := by rfl) :
    ActL c (n + 1) (fun vs => call (.ref fa) vs) F := fun {prog w A E s Q vs ds d X} hA G hz hX ra ho h => by
  obtain ⟨hlen, hf⟩ := hF ds d ho
  have hvl : vs.length = names.length := (Rs.length ra).trans hlen
  have hmap : (names.zip vs).map (·.1) = names := by
    rw [List.map_fst_zip]; omega
  refine wpAny_call (kla_callFunE hA.room (G.obs fa ob hob) hd hco hgen rfl (hcr _ G) ?_)
  rw [hbind vs hvl]
  refine wpAny_pure (wpAny_newFunctionEnv hcell (fun x hx => hloc _ (by rw [← hmap]; exact List.mem_map_of_mem (f := (·.1)) hx)) (fun h₁ hns hsb => ⟨G.lim.fresh _ hsb, ?_⟩) hk)
  show codeAny _ _ (.expr body (envX qual scope s.heap.objs.size fa cv cl)) _ _
  have hk₁ : ∀ b o, s.heap.get? b = some o → h₁.get? b = some o := fun b o e => hsb.extBut b o (Nat.ne_of_lt (Heap.lt_size e)) (Heap.get?_push_of_some _ e)
  have hLs : ¬ live s.heap s.heap.objs.size := not_live_size _
  have hx : Ext c s.heap h₁ := Ext.of hk₁
  have S : St c X s (envX qual scope s.heap.objs.size fa cv cl) [] [] [] (names.zip (ds.map Ent.sh) ++ caps) { s with heap := h₁, toks := s.toks + (names.zip vs).length } := by
    refine ⟨hk, rfl, rfl, ⟨_, _, rfl⟩, G, hx, hz, hX, ⟨_, hns⟩, fun q => hLs (hX _ (hz _ q)), hLs, fun x a q => ?_, hci, fun _ x a q _ => ?_, fun _ x q => ?_, fun p hp => (nomatch hp), fun p hp => (nomatch hp), .nil, .nil, fun p hp => (nomatch hp), fun x e q => ?_⟩
    · obtain ⟨oc, v, e1, e2⟩ := hcl x a q
      exact ⟨⟨v, oc, hk₁ _ _ (G.obs a oc e1), e2⟩, G.ok.zf a oc e1⟩
    · exact absurd rfl (hcell (x, .cell) (mem_of_lookup q))
    · exact absurd rfl (hcell (x, .cell) (mem_of_lookup q))
    · have gapp : ∀ (l m : Rho) (x : Str), Rho.get (l ++ m) x = match l.get x with | some e => some e | none => m.get x := by
        intro l m x
        induction l with
        | nil => rfl
        | cons p l ih =>
          obtain ⟨y, e'⟩ := p
          show List.lookup x ((y, e') :: (l ++ m)) = match List.lookup x ((y, e') :: l) with | some e => some e | none => m.get x
          rw [List.lookup_cons, List.lookup_cons]
          cases (x == y) with
          | true => rfl
          | false => exact ih
      rw [gapp] at q
      cases hg : Rho.get (names.zip (ds.map Ent.sh)) x with
      | some e' =>
        rw [hg] at q
        cases q
        obtain ⟨v, d', rfl, r1, hm⟩ := zip_get ra hg
        have hmx : x ∈ names := by rw [← hmap]; exact List.mem_map_of_mem (f := (·.1)) hm
        exact ⟨v, .inl ⟨hloc x hmx, _, hns, lookup_rev (by rw [hmap]; exact hnd) hm⟩, R.mono (LP.ext hx hz fun _ q => .inl q) r1⟩
      | none =>
        rw [hg] at q
        obtain ⟨k, a, oc, v, d', q1, q2, q3, rfl, q4⟩ := hcap x e q
        exact ⟨v, .inr ⟨.inr k, a, q1, oc, hk₁ _ _ (G.obs a oc q2), q3⟩, q4 _ _⟩
  refine kla_codeExpr (t (hA.deeper _) rfl S hf fun v s' a x => h v s' ?_ x)
  exact (After.heap (s := s) (s.toks + (names.zip vs).length) hx).trans a
end
end Mine
end SLa28

/-! La29 -/
noncomputable section SLa29
namespace Mine
/-- the first lambda of a code: its table is empty yet -/
theorem wp_lambdaC {c : Cx} {prog : Program} {w : World} {A : Around} {E : Value → Shared → Prop} {s : Shared} {env : Env} {ca z : Addr} {params : Arguments} {body : Expr} {scope : Scope} {pos : Pos} {clos : List (Str × Addr)} {Q : Value → Shared → Prop}
    (G : Glo c s.heap) (hg : env.globals = mainGlobals) (hcode : env.code = .ref ca) (hdef : defaultsOf params env = ([], [])) (hcl : closureFor scope env = pure clos)
    (hd : CodeHd s.heap ca z) (hP : s.heap.get? z = some (tabObj #[])) (bi : s.heap.BuiltinsAt c.mg z) (hgz : mainGlobals ≠ z)
    (h : ∀ (a c' : Addr) (oc : Obj) (ctv pm : Value) (h' : Heap) (tk : Tok), (∀ b o, b ≠ z → s.heap.get? b = some o → h'.get? b = some o) →
      h'.get? a = some (kla_obj "<lambda>" (env.qual ++ "<lambda>") params body scope clos pm c' ctv) → ¬ live s.heap a → h'.get? c' = some oc →
      (∀ h2 : Heap, h2.get? c' = some oc → h2.CodeRec (.ref c') (env.qual ++ "<lambda>")) → ¬ live s.heap c' → (∃ ps, h'.get? z = some (tabObj ps) ∧ TriplesOk ps.toList) → Q (.ref a) { s with heap := h', toks := tk }) :
    wpAny (model prog w) A (eval (.Lambda params body scope pos) env) Q E s := by
  refine kla_eval hdef (kla_makeFunction hcl hg G.g hcode hd hP trivial rfl hgz bi fun c' ctv h' tk hx hge hlt hrec htb => ?_)
  obtain ⟨c2, oc, vs, t, e2, hoc, hdd, hv⟩ := hrec
  cases e2
  have hsz : s.heap.objs.size ≤ h'.objs.size := Nat.le_trans hge (Nat.le_of_lt hlt)
  refine h _ c' oc ctv _ _ tk (fun b o hb e => Heap.get?_push_of_some _ (hx b o hb e)) (Heap.get?_push_size _ rfl) (fun q => absurd q.lt (Nat.not_lt.mpr hsz)) (Heap.get?_push_of_some _ hoc)
    (fun h2 e => ⟨c', oc, vs, t, rfl, e, hdd, hv⟩) (fun q => absurd q.lt (Nat.not_lt.mpr hge)) ⟨_, Heap.get?_push_of_some _ htb, ?_⟩
  rw [Array.toList_append]
  exact TriplesOk_snoc _ _ _ _ trivial
/-- the context with a table set free and some objects told -/
def cx2 (c : Cx) (z : Addr) (ex : List (Addr × Obj)) : Cx := ⟨z :: c.Z, c.mg, c.mb, fun x => match ex.lookup x with
  | some o => some o
  | none => if x = z then none else c.FT x⟩
theorem glo2 {c : Cx} {h h' : Heap} {z : Addr} {ex : List (Addr × Obj)} (G : Glo c h) (hz : ∃ o, c.FT z = some o) (hk : ∀ b o, b ≠ z → h.get? b = some o → h'.get? b = some o)
    (ht : ∃ ps, h'.get? z = some (tabObj ps) ∧ TriplesOk ps.toList) (hex : ∀ x o, ex.lookup x = some o → h'.get? x = some o) (hexz : ∀ x o, ex.lookup x = some o → x ≠ z ∧ x ∉ c.Z)
    (n1 : mainGlobals ≠ z) (n2 : builtinsNs ≠ z) (n3 : cStatics ≠ z) : Glo (cx2 c z ex) h' := by
  obtain ⟨oz, ez⟩ := hz
  have hzc : z ∉ c.Z := G.ok.zf z oz ez
  refine ⟨G.g.at fun o e => hk _ o n1 e, G.b.at fun o e => hk _ o n2 e, ?_, fun a o e => ?_, fun z' hz' => ?_, ⟨?_, ?_, ?_, fun a o e q => ?_⟩⟩
  · obtain ⟨mc, n, e⟩ := G.lim
    exact ⟨mc, n.at fun o e => hk _ o n3 e, e⟩
  · have e' : (match ex.lookup a with | some o => some o | none => if a = z then none else c.FT a) = some o := e
    cases hl : ex.lookup a with
    | some o' => rw [hl] at e'; cases e'; exact hex a _ hl
    | none =>
      rw [hl] at e'
      dsimp only at e'
      split at e'
      · cases e'
      · rename_i hne
        exact hk a o hne (G.obs a o e')
  · rcases List.mem_cons.mp hz' with rfl | q
    · exact ht
    · exact (G.zl z' q).keep fun o e => hk z' o (fun w => hzc (w ▸ q)) e
  · intro q; rcases List.mem_cons.mp q with q | q
    · exact n1 q
    · exact G.ok.zg q
  · intro q; rcases List.mem_cons.mp q with q | q
    · exact n2 q
    · exact G.ok.zb q
  · intro q; rcases List.mem_cons.mp q with q | q
    · exact n3 q
    · exact G.ok.zs q
  · have e' : (match ex.lookup a with | some o => some o | none => if a = z then none else c.FT a) = some o := e
    cases hl : ex.lookup a with
    | some o' =>
      obtain ⟨q1, q2⟩ := hexz a o' hl
      rcases List.mem_cons.mp q with q | q
      · exact q1 q
      · exact q2 q
    | none =>
      rw [hl] at e'
      dsimp only at e'
      split at e'
      · cases e'
      · rename_i hne
        rcases List.mem_cons.mp q with q | q
        · exact hne q
        · exact G.ok.zf a o e' q
theorem ft2 {c : Cx} {h' : Heap} {z : Addr} {ex : List (Addr × Obj)} (G : Glo (cx2 c z ex) h') {a : Addr} {o : Obj} (e : c.FT a = some o) (hne : a ≠ z) (hh : h'.get? a = some o) : (cx2 c z ex).FT a = some o := by
  show (match ex.lookup a with | some o => some o | none => if a = z then none else c.FT a) = some o
  cases hl : ex.lookup a with
  | some o' =>
    have : h'.get? a = some o' := G.obs a o' (by show (match ex.lookup a with | some o => some o | none => if a = z then none else c.FT a) = some o'; rw [hl])
    rw [hh] at this
    exact this.symm
  | none => dsimp only; rw [if_neg hne]; exact e
/-- a name, read raw -/
theorem eval_loads {prog : Program} {w : World} {A : Around} {E : Value → Shared → Prop} {s : Shared} {env : Env} {x : Str} {pos : Pos} {v : Value} {Q : Value → Shared → Prop} (kf : env.scope.kind = .function) (l : Loads env s.heap x v)
    (hd : (x == ("__debug__" : Str)) = false) (hn : (x == ("__classdict__" : Str)) = false) (hq : Q v s) : wpAny (model prog w) A (eval (.Name x pos) env) Q E s := by
  rcases l with ⟨k, m, hm, q⟩ | ⟨k | k, a, ha, hc⟩
  · exact wpAny_Name (wpAny_loadName_local kf k hm q hq) hd
  · exact wpAny_Name (wpAny_loadName_cell kf k ha hc hq) hd
  · exact wpAny_Name (wpAny_loadName_free kf k ha hc hq hn) hd
/-- statements, one behind the other, with any end -/
theorem execs_pre {c : Cx} {n : Nat} {sc : Scope} {st : Stmt} {es : List Stmt} {f : Rho → Option (Rho × Fl)} (t : TrS c n sc st f)
    {prog : Program} {w : World} {A : Around} {E : Value → Shared → Prop} {X0 : List Addr} {s0 : Shared} {env : Env} {gd : List (Addr × Obj)} {hid : List (Value × D)} {ow : List (Str × Addr)} {r r' : Rho} {s : Shared} {Q : Flow → Shared → Prop}
    (hA : AOk n A) (hs : env.scope = sc) (hfn : FnOk c env) (S : St c X0 s0 env gd hid ow r s) (hf : f r = some (r', .next))
    (h : ∀ s' ow', St c X0 s0 env gd hid ow' r' s' → wpAny (model prog w) A (execs es env) Q E s') : wpAny (model prog w) A (execs (st :: es) env) Q E s :=
  wpAny_execs_cons (t hA hs hfn S hf fun f' s' ow' S' hr => by
    obtain rfl := hr.next_of
    exact h s' ow' S')
end Mine
end SLa29

/-! La30 -/
noncomputable section SLa30
namespace Mine
section
variable {c : Cx} {n : Nat} {sc : Scope}
theorem trS_assignC2 {elt : Expr} {csc : Scope} {pos pz spos : Pos} {x y z : Str} {px py : Pos} {iter iter2 : Expr} {ifs ifs2 : List Expr} {fi fi2 : Rho → Option (List D)} {ft ft2 : Rho → Option Bool} {fe : Rho → Option D} (cap : List Str)
    (ti : TrI true c n sc iter fi) (tt : TrTs c n (relabelS csc sc) ifs ft) (ti2 : TrI true c n (relabelS csc sc) iter2 fi2) (tt2 : TrTs c n (relabelS csc sc) ifs2 ft2) (te : TrE c n (relabelS csc sc) elt fe)
    (hok : cOK csc sc cap x = true := by rfl) (hfx : XK csc sc x := by first | exact .inl rfl | exact .inr ⟨rfl, rfl⟩) (hfy : (relabelS csc sc).names.lookup y = some .local := by rfl) (hxa : x ≠ ".acc" := by decide) (hya : y ≠ ".acc" := by decide) (hck : csc.kind = .function := by rfl)
    (hfold : ∀ env v, foldedSetIterable iter env v = pure v := by intro _ _; rfl) (hfold2 : ∀ env v, foldedSetIterable iter2 env v = pure v := by intro _ _; rfl)
    (hsk : sc.kind = .function := by rfl) (hz : sc.names.lookup z = some .local := by rfl) (hb : (pz.line == pos.line && !(csc.names.any fun (n, k) => n == z && (k == .local || k == .cell))) = true := by rfl) :
    TrS c n sc (.Assign [.Name z pz] (.ListComp elt [⟨.Name x px, iter, ifs, 0⟩, ⟨.Name y py, iter2, ifs2, 0⟩] csc pos) spos) (fun r => (compO cap x fi ft (forA y ft2 (fun r => (fe r).map fun d => [d]) fi2) r).bind fun ds => some ((r.kill z).put z (.sh (.list ds)), .next)) :=
  trS_assignCG cap hok hfx hxa hck (turn_two _ _ _ _ _ _ _ _ _ _ _) ti tt (trA_for (elt := elt) (g0 := ⟨.Name x px, iter, ifs, 0⟩) (csc := csc) (pos := pos) (py := py) ti2 tt2 (trA_elt te) hfy hya (fun _ _ _ => rfl) hfold2) hfold hsk hz hb

/-- a name that is a cell is given a list just made by a comprehension -/
theorem trS_assignK {elt : Expr} {gs : List Comprehension} {csc : Scope} {x : Str} {p lp pos : Pos} {f : Rho → Option D} (t : TrE c n sc (.ListComp elt gs csc lp) f) (hk : sc.names.lookup x = some .cell) :
    TrS c n sc (.Assign [.Name x p] (.ListComp elt gs csc lp) pos) (fun r => (f r).bind fun d => some ((r.kill x).put x (.sh d), .next)) := fun {prog w A E X0 s0 env gd hid ow r r' fl s Q} hA hs hfn S hf h => by
  obtain ⟨d, h1, hf⟩ := bind_some hf
  first | obtain ⟨rfl, rfl⟩ := some_pair hf | obtain rfl := some_one hf | cases hf
  have hkx : env.kindOf x = some .cell := by show env.scope.names.lookup x = _; rw [hs]; exact hk
  have hsw : swapsWith (.ListComp elt gs csc lp) (some (.Name x p)) pos.line env = pure false := by
    show (pure _ : Sem Bool) = _
    congr 1
    rw [hkx]
    have e : (some NameKind.cell == some NameKind.local) = false := by decide
    rw [e, Bool.and_false, Bool.false_and, Bool.false_and]
  refine wpAny_Assign_Name (t hA hs S h1 fun v s1 a1 x1 => ?_) hsw
  refine wp_storeName (S.after a1) (.inr ⟨hkx, hfn.ne⟩) fun h' tk b hw T => ?_
  obtain ⟨⟨h1', tk1, rfl⟩, e1⟩ := a1
  exact h _ _ _ (S.store_sh e1 hw T x1) trivial
def oMin3 : List D → Option D
  | [.int a, .int b, .int x] => some (.int (if b < a then (if x < b then x else b) else (if x < a then x else a)))
  | _ => none
theorem act_min3 : ActL c n (fun vs => call (.builtin "min") vs) oMin3 := fun {prog w A E s Q vs ds d X} hA G hz hX ra ho h => by
  unfold oMin3 at ho
  split at ho
  · rename_i a b x
    first | obtain ⟨rfl, rfl⟩ := some_pair ho | obtain rfl := some_one ho | cases ho
    obtain ⟨v, w, u, rfl, r1, r2, r3⟩ := ra.three_inv
    obtain ⟨t1, rfl⟩ := r1.int_inv
    obtain ⟨t2, rfl⟩ := r2.int_inv
    obtain ⟨t3, rfl⟩ := r3.int_inv
    refine min_three_ints hA.hd fun h' tk hk => h _ _ (After.heap tk (Ext.of hk)) ?_
    split <;> split <;> exact .int
  · first | obtain ⟨rfl, rfl⟩ := some_pair ho | obtain rfl := some_one ho | cases ho

theorem bnd4 {fd : FuncData} {x y z u : Str} (vals : List Value) (hl : vals.length = [x, y, z, u].length) (h : ∀ a b c d, bindArgs fd ⟨[a, b, c, d], []⟩ = pure ([x, y, z, u].zip [a, b, c, d])) : bindArgs fd ⟨vals, []⟩ = pure ([x, y, z, u].zip vals) := by
  obtain ⟨a, l1, rfl, q1⟩ := len_cons hl
  obtain ⟨b, l2, rfl, q2⟩ := len_cons q1
  obtain ⟨c, l3, rfl, q3⟩ := len_cons q2
  obtain ⟨d, l4, rfl, q4⟩ := len_cons q3
  obtain rfl := List.length_eq_zero_iff.mp q4
  exact h a b c d
/-- statements, with any end behind them -/
def TrPre (c : Cx) (n : Nat) (sc : Scope) (body : List Stmt) (f : Rho → Option Rho) (es : List Stmt) : Prop :=
  ∀ ⦃prog : Program⦄ ⦃w : World⦄ ⦃A : Around⦄ ⦃E : Value → Shared → Prop⦄ ⦃X0 : List Addr⦄ ⦃s0 : Shared⦄ ⦃env : Env⦄ ⦃gd : List (Addr × Obj)⦄ ⦃hid : List (Value × D)⦄ ⦃ow : List (Str × Addr)⦄ ⦃r r' : Rho⦄ ⦃s : Shared⦄ ⦃Q : Flow → Shared → Prop⦄,
    AOk n A → env.scope = sc → FnOk c env → St c X0 s0 env gd hid ow r s → f r = some r' →
    (∀ s' ow', St c X0 s0 env gd hid ow' r' s' → wpAny (model prog w) A (execs es env) Q E s') → wpAny (model prog w) A (execs body env) Q E s
def preF (f : Rho → Option (Rho × Fl)) (g : Rho → Option Rho) (r : Rho) : Option Rho := (f r).bind fun p => match p.2 with
  | .next => g p.1
  | _ => none
theorem pre_nil {es : List Stmt} : TrPre c n sc es (fun r => some r) es := fun _ _ _ _ _ _ _ _ _ _ _ _ _ _ hA hs hfn S hf h => by
  first | obtain ⟨rfl, rfl⟩ := some_pair hf | obtain rfl := some_one hf | cases hf
  exact h _ _ S
theorem pre_cons {st : Stmt} {body es : List Stmt} {f : Rho → Option (Rho × Fl)} {g : Rho → Option Rho} (t : TrS c n sc st f) (u : TrPre c n sc body g es) : TrPre c n sc (st :: body) (preF f g) es := fun {prog w A E X0 s0 env gd hid ow r r' s Q} hA hs hfn S hf h => by
  obtain ⟨⟨r1, fl⟩, h1, hf⟩ := bind_some hf
  cases fl with
  | next => exact execs_pre t hA hs hfn S h1 fun s' ow' S' => u hA hs hfn S' hf h
  | brk => cases hf
  | cont => cases hf
  | ret d => cases hf
end
end Mine
end SLa30

/-! La31 -/
noncomputable section SLa31
namespace Mine
/-- what a lambda captured stands in the table -/
structure ClOk (c : Cx) (scope : Scope) (cl : List (Str × Addr)) (caps : List (Str × D)) : Prop where
  hcl : ∀ x a, cl.lookup x = some a → ∃ oc v, c.FT a = some oc ∧ oc.data = .cell v
  hci : ∀ x y a, cl.lookup x = some a → cl.lookup y = some a → x = y
  hcap : ∀ x d, caps.lookup x = some d → scope.names.lookup x = some .free ∧ ∃ a oc v, cl.lookup x = some a ∧ c.FT a = some oc ∧ oc.data = .cell (some v) ∧ ∀ h X, R (LP h X) v d
def cellObs (h : Heap) (cl : List (Str × Addr)) : List (Addr × Obj) := cl.filterMap fun p => (h.get? p.2).map fun o => (p.2, o)
theorem cellObs_get {h : Heap} {a : Addr} {o : Obj} : ∀ {cl : List (Str × Addr)}, (cellObs h cl).lookup a = some o → (∃ x, (x, a) ∈ cl) ∧ h.get? a = some o
  | [], e => nomatch e
  | (x, b) :: cl, e => by
    unfold cellObs at e
    rw [List.filterMap_cons] at e
    dsimp only at e
    cases hb : h.get? b with
    | none =>
      rw [hb] at e
      obtain ⟨⟨y, q1⟩, q2⟩ := cellObs_get (cl := cl) e
      exact ⟨⟨y, List.mem_cons_of_mem _ q1⟩, q2⟩
    | some o' =>
      rw [hb] at e
      dsimp only [Option.map_some] at e
      rw [List.lookup_cons] at e
      cases hq : a == b with
      | true =>
        rw [hq] at e
        cases e
        rw [beq_iff_eq.mp hq]
        exact ⟨⟨x, List.mem_cons_self⟩, hb⟩
      | false =>
        rw [hq] at e
        obtain ⟨⟨y, q1⟩, q2⟩ := cellObs_get (cl := cl) e
        exact ⟨⟨y, List.mem_cons_of_mem _ q1⟩, q2⟩
theorem cellObs_has {h : Heap} {a : Addr} {o : Obj} (ho : h.get? a = some o) : ∀ {cl : List (Str × Addr)}, (∃ x, (x, a) ∈ cl) → (cellObs h cl).lookup a = some o
  | [], e => nomatch e
  | (x, b) :: cl, e => by
    unfold cellObs
    rw [List.filterMap_cons]
    dsimp only
    by_cases hab : a = b
    · subst hab
      rw [ho]
      dsimp only [Option.map_some]
      rw [List.lookup_cons, beq_self_eq_true]
    · obtain ⟨y, hy⟩ := e
      have hy' : ∃ y, (y, a) ∈ cl := by
        rcases List.mem_cons.mp hy with q | q
        · cases q; exact absurd rfl hab
        · exact ⟨y, q⟩
      cases hb : h.get? b with
      | none => exact cellObs_has ho (cl := cl) hy'
      | some o' =>
        dsimp only [Option.map_some]
        rw [List.lookup_cons, beq_eq_false_iff_ne.mpr hab]
        exact cellObs_has ho (cl := cl) hy'
theorem clFold_mem {env : Env} : ∀ (names : List (Str × NameKind)) (cs : List (Str × Addr)), (∀ p ∈ names, p.2 = .free → ∃ a, env.cells.lookup p.1 = some a) → (∀ p ∈ cs, env.cells.lookup p.1 = some p.2) →
    (∀ p ∈ names.foldl (clStep env) cs, env.cells.lookup p.1 = some p.2)
  | [], _, _, h => h
  | q :: names, cs, h, hc => by
    refine clFold_mem names _ (fun q hq => h q (List.mem_cons_of_mem _ hq)) fun p hp => ?_
    unfold clStep at hp
    split at hp
    · rename_i hk
      rcases List.mem_cons.mp hp with rfl | hp
      · obtain ⟨a', ha'⟩ := h q List.mem_cons_self (beq_iff_eq.mp hk)
        rw [ha']
        rfl
      · exact hc p hp
    · exact hc p hp
section
variable {c : Cx} {n : Nat} {sc : Scope}
/-- return l == reduce(lambda .., xa, xb), at the end of a code that made no lambda yet -/
theorem last_reduce {z ca fr : Addr} {obr : Obj} {fdr : FuncData} {l : Expr} {xr xa xb : Str} {ps : Arguments} {lb : Expr} {lsc : Scope} {p1 p2 p3 p4 p5 p6 p7 : Pos} {f : Rho → Option D} {caps : List (Str × D)} {da db dl dr : D}
    (tl : TrE c n sc l f) (tn : TrE c n sc (.Name xr p1) (fun _ => some (.adr fr))) (hfr : c.FT fr = some obr) (hfrd : obr.data = .func fdr) (hfz : fr ≠ z)
    (hz : c.FT z = some (tabObj #[])) (hcd : ∀ h, Glo c h → CodeHd h ca z) (hbi : ∀ h, Glo c h → h.BuiltinsAt c.mg z) (n1 : mainGlobals ≠ z) (n2 : builtinsNs ≠ z) (n3 : cStatics ≠ z)
    (hdef : ∀ env, defaultsOf ps env = ([], [])) (hfree : ∀ p ∈ lsc.names, p.2 = .free → sc.names.lookup p.1 = some .cell)
    (hm : behindInMarks .Eq (.Call (.Name xr p1) [.Lambda ps lb lsc p2, .Name xa p3, .Name xb p4] [] p5) = false := by rfl)
    (pl : Plain [.Lambda ps lb lsc p2, .Name xa p3, .Name xb p4])
    (hs1 : ∀ env, starEach [.Lambda ps lb lsc p2, .Name xa p3, .Name xb p4] env = (false, eval (.Lambda ps lb lsc p2) env) :: starEach [.Name xa p3, .Name xb p4] env := by intro _; rfl)
    (ha : (xa == ("__debug__" : Str)) = false ∧ (xa == ("__classdict__" : Str)) = false := by decide) (hb : (xb == ("__debug__" : Str)) = false ∧ (xb == ("__classdict__" : Str)) = false := by decide)
    {prog : Program} {w : World} {A : Around} {E : Value → Shared → Prop} {X0 : List Addr} {s0 : Shared} {env : Env} {gd : List (Addr × Obj)} {hid : List (Value × D)} {ow : List (Str × Addr)} {r : Rho} {s : Shared} {Q : Flow → Shared → Prop}
    (hA : AOk n A) (hs : env.scope = sc) (hcode : env.code = .ref ca) (hfn : env.func ≠ none) (S : St c X0 s0 env gd hid ow r s) (hzX : z ∈ X0)
    (hf : f r = some dl) (h1 : r.get xa = some (.sh da)) (h2 : r.get xb = some (.sh db))
    (hcap : ∀ x d, caps.lookup x = some d → r.get x = some (.sh d) ∧ Flat d ∧ lsc.names.lookup x = some .free ∧ sc.names.lookup x = some .cell)
    (hcall : ∀ (ex : List (Addr × Obj)) (a : Addr) (ob : Obj) (cl : List (Str × Addr)) (pm cv ctv : Value) (qual : Str), (∀ b o, c.FT b = some o → b ≠ z → (cx2 c z ex).FT b = some o) → (cx2 c z ex).FT a = some ob →
      ob.data = .func (kla_fn "<lambda>" qual ps lb lsc cl pm cv ctv) → (∀ h, Glo (cx2 c z ex) h → h.CodeRec cv qual) → ClOk (cx2 c z ex) lsc cl caps →
      ∃ F, ActL (cx2 c z ex) n (fun vs => call (.ref fr) vs) F ∧ F [.adr a, da, db] = some dr)
    (heq : oEq dl dr = some (.bool true))
    (h : ∀ s', (∃ hh tk, s' = { s0 with heap := hh, toks := tk }) → (∀ b o, b ≠ z → b ∉ c.Z → s0.heap.get? b = some o → s'.heap.get? b = some o) → (∀ y, y = z ∨ y ∈ c.Z → tabOk s'.heap y) → Q (.ret (.bool true)) s') :
    wpAny (model prog w) A (execs [.Return (some (.Compare l [.Eq] [.Call (.Name xr p1) [.Lambda ps lb lsc p2, .Name xa p3, .Name xb p4] [] p5] p6)) p7] env) Q E s := by
  have hzZ : z ∉ c.Z := S.glo0.ok.zf z _ hz
  refine wpAny_execs_cons (wpAny_Return_some (wpAny_Compare1 (tl hA hs S hf fun vl s1 a1 xl => wpAny_Call_NameR (tn hA hs (S.after a1) rfl fun v s2 a2 xn => ?_)) hm))
  have hv := xn.adr_inv
  subst hv
  have S2 := (S.after a1).after a2
  have xl' : R (LP s2.heap (XX ow X0)) vl dl := R.mono (LP.ext a2.2 S.zX fun _ q => .inl q) xl
  refine Calls.callWith_function (o := obr) (fd := fdr) (evalArgs_pl pl ?_)
  have G2 := S2.glo
  have hzg := G2.obs z _ hz
  have hfr' : ∀ p ∈ lsc.names, p.2 = .free → ∃ a, env.cells.lookup p.1 = some a := fun p hp e => by
    have hk := hfree p hp e
    rw [← hs] at hk
    exact S2.fnc hfn p.1 hk
  have hcl := closure_eq hfr'
  have hsub := clFold_sub lsc.names [] hfr' (fun x a q => by cases q)
  have hhas := clFold_has (env := env) lsc.names []
  have hmem := clFold_mem lsc.names [] hfr' (fun p hp => nomatch hp)
  generalize lsc.names.foldl (clStep env) [] = cl at hcl hsub hhas hmem
  refine spliced_more (wp_lambdaC G2 S2.eg hcode (hdef env) hcl (hcd _ G2) hzg (hbi _ G2) n1 fun a c' oc ctv pm h' tk hk hfo hfl hco hcr hcl' htb => ?_) (hs1 env)
  generalize hex : (a, kla_obj "<lambda>" (env.qual ++ "<lambda>") ps lb lsc cl pm c' ctv) :: (c', oc) :: cellObs s2.heap cl = ex
  have hzl : live s2.heap z := live.of hzg
  have hcellz : ∀ b, (∃ x, (x, b) ∈ cl) → b ≠ z ∧ b ∉ c.Z ∧ ∃ o v, s2.heap.get? b = some o ∧ o.data = .cell v := fun b ⟨x, hx⟩ => by
    obtain ⟨⟨v, o, e1, e2⟩, q⟩ := S2.cl x b (hmem _ hx)
    refine ⟨fun e => ?_, q, o, v, e1, e2⟩
    rw [e, hzg] at e1
    cases e1
    cases e2
  have hexg : ∀ x o, ex.lookup x = some o → h'.get? x = some o ∧ x ≠ z ∧ x ∉ c.Z := fun x o e => by
    rw [← hex, List.lookup_cons] at e
    cases hb1 : x == a with
    | true =>
      rw [hb1] at e
      cases e
      rw [beq_iff_eq.mp hb1]
      exact ⟨hfo, fun e => hfl (e ▸ hzl), fun q => hfl (G2.zl a q).live⟩
    | false =>
      rw [hb1] at e
      dsimp only at e
      rw [List.lookup_cons] at e
      cases hb2 : x == c' with
      | true =>
        rw [hb2] at e
        cases e
        rw [beq_iff_eq.mp hb2]
        exact ⟨hco, fun e => hcl' (e ▸ hzl), fun q => hcl' (G2.zl c' q).live⟩
      | false =>
        rw [hb2] at e
        obtain ⟨q1, q2⟩ := cellObs_get e
        obtain ⟨q3, q4, _⟩ := hcellz x q1
        exact ⟨hk x o q3 q2, q3, q4⟩
  have e2 : Ext (cx2 c z ex) s2.heap h' := by
    refine ⟨fun b o hb e => hk b o (fun q => hb (q ▸ List.mem_cons_self)) e, fun y hy t => ?_, fun y hy t => ?_⟩
    · rcases List.mem_cons.mp hy with rfl | q
      · exact htb
      · exact t.keep fun o e => hk y o (fun w => hzZ (w ▸ q)) e
    · rcases List.mem_cons.mp hy with rfl | q
      · exact tabOk.live htb
      · unfold live at t ⊢
        cases ho : s2.heap.get? y with
        | none => rw [ho] at t; cases t
        | some o => rw [hk y o (fun w => hzZ (w ▸ q)) ho]; rfl
  have G3 : Glo (cx2 c z ex) h' := glo2 G2 ⟨_, hz⟩ hk htb (fun x o e => (hexg x o e).1) (fun x o e => (hexg x o e).2) n1 n2 n3
  have hft : ∀ b o, c.FT b = some o → b ≠ z → (cx2 c z ex).FT b = some o := fun b o e hb => ft2 G3 e hb (hk b o hb (G2.obs b o e))
  have hexF : ∀ x o, ex.lookup x = some o → (cx2 c z ex).FT x = some o := fun x o e => by
    show (match ex.lookup x with | some o => some o | none => if x = z then none else c.FT x) = some o
    rw [e]
  have hla : ex.lookup a = some (kla_obj "<lambda>" (env.qual ++ "<lambda>") ps lb lsc cl pm c' ctv) := by rw [← hex, List.lookup_cons, beq_self_eq_true]
  have hlc : ex.lookup c' = some oc ∨ c' = a := by
    by_cases e : c' = a
    · exact .inr e
    · refine .inl ?_
      rw [← hex, List.lookup_cons, beq_eq_false_iff_ne.mpr e, List.lookup_cons, beq_self_eq_true]
  have hoca : c' = a → oc = kla_obj "<lambda>" (env.qual ++ "<lambda>") ps lb lsc cl pm c' ctv := fun e => by
    rw [e, hfo] at hco
    exact e ▸ (Option.some.inj hco).symm
  have hlc' : (cx2 c z ex).FT c' = some oc := by
    rcases hlc with q | q
    · exact hexF _ _ q
    · rw [hoca q, q]
      rw [q] at hla
      exact hexF _ _ hla
  have hcell : ∀ b o, (∃ x, (x, b) ∈ cl) → s2.heap.get? b = some o → (cx2 c z ex).FT b = some o := fun b o hx ho => by
    refine hexF b o ?_
    have hbl : live s2.heap b := live.of ho
    have n1 : b ≠ a := fun e => hfl (by rw [← e]; exact hbl)
    have n2 : b ≠ c' := fun e => hcl' (by rw [← e]; exact hbl)
    rw [← hex, List.lookup_cons, beq_eq_false_iff_ne.mpr n1]
    dsimp only
    rw [List.lookup_cons, beq_eq_false_iff_ne.mpr n2]
    exact cellObs_has ho hx
  have CL : ClOk (cx2 c z ex) lsc cl caps := by
    refine ⟨fun x b q => ?_, fun x y b q1 q2 => S2.ci x y b (hsub _ _ q1) (hsub _ _ q2), fun x d q => ?_⟩
    · obtain ⟨_, _, o, v, e1, e2⟩ := hcellz b ⟨x, mem_of_lookup q⟩
      exact ⟨o, v, hcell b o ⟨x, mem_of_lookup q⟩ e1, e2⟩
    · obtain ⟨q1, q2, q3, q4⟩ := hcap x d q
      refine ⟨q3, ?_⟩
      obtain ⟨b, hb⟩ := hhas x q3
      obtain ⟨v, lo, o⟩ := S2.vars x _ q1
      rw [← hs] at q4
      rcases lo with ⟨k, _⟩ | ⟨_, b', hb', oo, e1, e2⟩
      · have : Env.kindOf env x = some .cell := q4
        rw [this] at k; cases k
      · have eb : b' = b := by have := hsub _ _ hb; rw [hb'] at this; exact Option.some.inj this
        subst eb
        exact ⟨b', oo, v, hb, hcell b' oo ⟨x, mem_of_lookup hb⟩ e1, e2, fun h X => R.flat o q2⟩
  obtain ⟨F, hF, hFd⟩ := hcall ex a _ cl pm (.ref c') ctv _ hft (hexF _ _ hla) rfl (fun h2 Gh => hcr h2 (Gh.obs c' oc hlc')) CL
  have hnl : env.locals ≠ z := fun e => S.nf (e ▸ live.of (S.glo0.obs z _ hz))
  have ld : ∀ {x : Str} {d : D}, r.get x = some (.sh d) → ∃ v, Loads env h' x v ∧ R (LP s2.heap (XX ow X0)) v d := fun {x d} q => by
    obtain ⟨v, lo, o⟩ := S2.vars x _ q
    refine ⟨v, ?_, o⟩
    rcases lo with ⟨k, m, n', q⟩ | ⟨k, b, q, oo, e1, e2⟩
    · exact .inl ⟨k, m, n'.at fun o e => hk _ o hnl e, q⟩
    · refine .inr ⟨k, b, q, oo, hk b oo (fun w => ?_) e1, e2⟩
      rw [w, hzg] at e1
      cases e1
      cases e2
  obtain ⟨va, la, ra⟩ := ld h1
  obtain ⟨vb, lb', rb⟩ := ld h2
  have hzXX : ∀ y ∈ (cx2 c z ex).Z, y ∈ XX ow X0 := fun y hy => by
    rcases List.mem_cons.mp hy with rfl | q
    · exact List.mem_append_right _ hzX
    · exact S.zX y q
  have mon : ∀ b vs, LP s2.heap (XX ow X0) b vs → LP h' (XX ow X0) b vs := LP.ext e2 hzXX fun _ q => .inl q
  refine spliced_more (eval_loads S.kf la ha.1 ha.2 ?_) rfl
  refine spliced_more (eval_loads S.kf lb' hb.1 hb.2 ?_) rfl
  refine spliced_none ⟨⟨G3.obs fr obr (hft fr obr hfr hfz), hfrd⟩, ?_⟩
  have hXl : ∀ x ∈ XX ow X0, live h' x := fun x hx => e2.live (S2.Xl x hx)
  refine hF hA G3 hzXX hXl (.cons .adr (.cons (R.mono mon ra) (.cons (R.mono mon rb) .nil))) hFd fun v s4 a4 x4 => ?_
  have G4 := G3.ext a4.2
  refine (act_eq (c := cx2 c z ex) (n := n)) hA G4 hzXX (fun x hx => a4.2.live (hXl x hx)) (R.mono (LP.ext a4.2 hzXX fun _ q => .inl q) (R.mono mon xl')) x4 heq fun v5 s5 a5 x5 => ?_
  have ev := x5.bool_inv
  subst ev
  refine h s5 ?_ (fun b o hb hbz e => ?_) fun y hy => ?_
  · obtain ⟨⟨hh5, tk5, q5⟩, _⟩ := a5
    obtain ⟨⟨hh4, tk4, q4⟩, _⟩ := a4
    obtain ⟨hh2, tk2, q2⟩ := S2.same
    rw [q4] at q5
    rw [q2] at q5
    exact ⟨hh5, tk5, q5⟩
  · have hb2 : b ∉ (cx2 c z ex).Z := fun q => by
      rcases List.mem_cons.mp q with q | q
      · exact hb q
      · exact hbz q
    exact a5.2.keep b o hb2 (a4.2.keep b o hb2 (e2.keep b o hb2 (S2.keep.keep b o hbz e)))
  · have hy' : y ∈ (cx2 c z ex).Z := by
      rcases hy with rfl | q
      · exact List.mem_cons_self
      · exact List.mem_cons_of_mem _ q
    exact (G4.ext a5.2).zl y hy'
end
end Mine
end SLa31

/-! Kd2 -/
noncomputable section SKd2
namespace Mine
@[reducible] def sv (x : String) (n : Nat) : Value := Value.str (Str.ofString x) n
@[reducible] def en (P : Params) (k : String) (n : Nat) (v : Value) : DictEntry := ⟨PyData.keyHash P (Str.ofString k), Value.str (Str.ofString k) n, v⟩
noncomputable def fob (i : Nat) (md dv : Value) (cd : Addr) : Obj := match PySem.Challenge.pw_in0219_02.main.body[i]? with
  | some (.FunctionDef n ps b _ _ _ sc _ _ _) => ⟨.type "function", none, .func ⟨n, n, ps, .stmts b, sc, 3, [], dv, .none, .none, md, none, .ref cd, .none, 0⟩, #[]⟩
  | _ => default
noncomputable def KK (P : Params) : Frag :=
  (nat_lit 3, { cls := Value.type "dict", data := Data.dict #[en P "__name__" 165 (sv "law_in0219_02" 571), en P "__doc__" 166 (Value.none), en P "__package__" 167 (Value.none), en P "__loader__" 168 (Value.builtin "__main__.__loader__#opaque"), en P "__spec__" 169 (Value.none), en P "__annotations__" 170 (Value.ref 6), en P "__builtins__" 171 (Value.ref 4), en P "__file__" 173 (sv "/claim/cut.py" 172), en P "__cached__" 174 (Value.none), en P "_sre" 275 (Value.ref 12), en P "_MAX_STRING_SIZE" 285 (Value.int 40 284), en P "_MOVE_COST" 287 (Value.int 2 286), en P "_CASE_COST" 289 (Value.int 1 288), en P "_substitution_cost" 297 (Value.ref 38), en P "_levenshtein_distance" 317 (Value.ref 45), en P "_twin_re_1" 357 (Value.ref 50), en P "translate" 366 (Value.ref 57), en P "_special_chars_map" 514 (Value.ref 59), en P "escape" 521 (Value.ref 69), en P "_translate" 542 (Value.ref 76), en P "_join_translated_parts" 555 (Value.ref 83), en P "_initial_missing" 558 (Value.ref 84), en P "reduce" 570 (Value.ref 92), en P "_law_pattern" 584 (Value.ref 99), en P "_law_words" 590 (Value.ref 104), en P "_law_fits" 598 (Value.ref 111), en P "_law_pieces" 608 (Value.ref 118), en P "_law_fit_all" 614 (Value.ref 123), en P "_law_takes" 625 (Value.ref 130), en P "_law_next" 638 (Value.ref 137), en P "law" 644 (Value.ref 142)] 31 }) ::
  (nat_lit 4, { cls := Value.type "module", dict := some 0 }) ::
  (nat_lit 37, { cls := Value.type "code", data := Data.fields #[sv "_substitution_cost" 290, sv "_substitution_cost" 291, sv "/claim/cut.py" 292, Value.int 6 0, Value.int 2 0, Value.int 0 0, Value.int 0 0, Value.int 3 0, Value.ref 32, Value.bool true, Value.int 276 0, Value.ref 33, Value.none, Value.ref 34, Value.ref 35, Value.ref 36, Value.int 295 0, Value.int 6 0, sv "/claim/cut.py" 296] }) ::
  (nat_lit 38, fob 5 (sv "cpy313.traceback" 282) (Value.none) 37) ::
  (nat_lit 44, { cls := Value.type "code", data := Data.fields #[sv "_levenshtein_distance" 298, sv "_levenshtein_distance" 299, sv "/claim/cut.py" 300, Value.int 12 0, Value.int 3 0, Value.int 0 0, Value.int 0 0, Value.int 3 0, Value.ref 39, Value.bool true, Value.int 276 0, Value.ref 40, Value.none, Value.ref 41, Value.ref 42, Value.ref 43, Value.int 315 0, Value.int 12 0, sv "/claim/cut.py" 316] }) ::
  (nat_lit 45, fob 6 (sv "cpy313.traceback" 282) (Value.none) 44) ::
  (nat_lit 49, { cls := Value.type "tuple", data := Data.seq #[Value.int 14 0, Value.int 14 0, Value.int 4 0, Value.int 1 0, Value.int 1 0, Value.int 9 0, Value.int 0 0, Value.int 64 0, Value.int 0 0, Value.int 1342177280 0, Value.int 0 0, Value.int 0 0, Value.int 0 0, Value.int 0 0, Value.int 0 0, Value.int 17 0, Value.int 0 0, Value.int 13 0, Value.int 11 0, Value.int 9 0, Value.int 0 0, Value.int 64 0, Value.int 0 0, Value.int 1342177280 0, Value.int 0 0, Value.int 0 0, Value.int 0 0, Value.int 0 0, Value.int 0 0, Value.int 17 0, Value.int 1 0, Value.int 1 0] }) ::
  (nat_lit 50, { cls := Value.type "re.Pattern", data := Data.fields #[sv "([&~|])" 321, Value.int 32 356, Value.int 1 0, Value.none, Value.none, Value.ref 49, Value.int 0 0] }) ::
  (nat_lit 56, { cls := Value.type "code", data := Data.fields #[sv "translate" 358, sv "translate" 359, sv "/claim/cut.py" 360, Value.int 52 0, Value.int 1 0, Value.int 0 0, Value.int 0 0, Value.int 3 0, Value.ref 51, Value.bool true, Value.int 276 0, Value.ref 52, Value.none, Value.ref 53, Value.ref 54, Value.ref 55, Value.int 364 0, Value.int 52 0, sv "/claim/cut.py" 365] }) ::
  (nat_lit 57, fob 9 (sv "cpy313.fnmatch" 318) (Value.none) 56) ::
  (nat_lit 59, { cls := Value.type "dict", data := Data.dict #[⟨40, Value.int 40 370, sv "\\(" 374⟩, ⟨41, Value.int 41 376, sv "\\)" 380⟩, ⟨91, Value.int 91 382, sv "\\[" 386⟩, ⟨93, Value.int 93 388, sv "\\]" 392⟩, ⟨123, Value.int 123 394, sv "\\{" 398⟩, ⟨125, Value.int 125 400, sv "\\}" 404⟩, ⟨63, Value.int 63 406, sv "\\?" 410⟩, ⟨42, Value.int 42 412, sv "\\*" 416⟩, ⟨43, Value.int 43 418, sv "\\+" 422⟩, ⟨45, Value.int 45 424, sv "\\-" 428⟩, ⟨124, Value.int 124 430, sv "\\|" 434⟩, ⟨94, Value.int 94 436, sv "\\^" 440⟩, ⟨36, Value.int 36 442, sv "\\$" 446⟩, ⟨92, Value.int 92 448, sv "\\\\" 452⟩, ⟨46, Value.int 46 454, sv "\\." 458⟩, ⟨38, Value.int 38 460, sv "\\&" 464⟩, ⟨126, Value.int 126 466, sv "\\~" 470⟩, ⟨35, Value.int 35 472, sv "\\#" 476⟩, ⟨32, Value.int 32 478, sv "\\ " 482⟩, ⟨9, Value.int 9 484, sv "\\\t" 488⟩, ⟨10, Value.int 10 490, sv "\\\n" 494⟩, ⟨13, Value.int 13 496, sv "\\\x0d" 500⟩, ⟨11, Value.int 11 502, sv "\\\x0b" 506⟩, ⟨12, Value.int 12 508, sv "\\\x0c" 512⟩] 24 }) ::
  (nat_lit 68, { cls := Value.type "code", data := Data.fields #[sv "escape" 515, sv "escape" 516, sv "/claim/cut.py" 517, Value.int 58 0, Value.int 1 0, Value.int 0 0, Value.int 0 0, Value.int 3 0, Value.ref 63, Value.bool true, Value.int 276 0, Value.ref 64, Value.none, Value.ref 65, Value.ref 66, Value.ref 67, Value.int 519 0, Value.int 58 0, sv "/claim/cut.py" 520] }) ::
  (nat_lit 69, fob 12 (sv "re" 367) (Value.none) 68) ::
  (nat_lit 75, { cls := Value.type "code", data := Data.fields #[sv "_translate" 524, sv "_translate" 525, sv "/claim/cut.py" 526, Value.int 65 0, Value.int 3 0, Value.int 0 0, Value.int 0 0, Value.int 3 0, Value.ref 70, Value.bool true, Value.int 276 0, Value.ref 71, Value.none, Value.ref 72, Value.ref 73, Value.ref 74, Value.int 540 0, Value.int 65 0, sv "/claim/cut.py" 541] }) ::
  (nat_lit 76, fob 14 (sv "cpy313.fnmatch" 522) (Value.none) 75) ::
  (nat_lit 82, { cls := Value.type "code", data := Data.fields #[sv "_join_translated_parts" 543, sv "_join_translated_parts" 544, sv "/claim/cut.py" 545, Value.int 127 0, Value.int 2 0, Value.int 0 0, Value.int 0 0, Value.int 3 0, Value.ref 77, Value.bool true, Value.int 276 0, Value.ref 78, Value.none, Value.ref 79, Value.ref 80, Value.ref 81, Value.int 553 0, Value.int 127 0, sv "/claim/cut.py" 554] }) ::
  (nat_lit 83, fob 15 (sv "cpy313.fnmatch" 522) (Value.none) 82) ::
  (nat_lit 84, { cls := Value.type "object" }) ::
  (nat_lit 85, { cls := Value.type "tuple", data := Data.seq #[Value.ref 84] }) ::
  (nat_lit 91, { cls := Value.type "code", data := Data.fields #[sv "reduce" 559, sv "reduce" 560, sv "/claim/cut.py" 561, Value.int 156 0, Value.int 3 0, Value.int 0 0, Value.int 0 0, Value.int 3 0, Value.ref 86, Value.bool true, Value.int 276 0, Value.ref 87, Value.none, Value.ref 88, Value.ref 89, Value.ref 90, Value.int 568 0, Value.int 156 0, sv "/claim/cut.py" 569] }) ::
  (nat_lit 92, fob 18 (sv "cpy313.functools" 556) (Value.ref 85) 91) ::
  (nat_lit 98, { cls := Value.type "code", data := Data.fields #[sv "_law_pattern" 573, sv "_law_pattern" 574, sv "/claim/cut.py" 575, Value.int 169 0, Value.int 2 0, Value.int 0 0, Value.int 0 0, Value.int 3 0, Value.ref 93, Value.bool true, Value.int 276 0, Value.ref 94, Value.none, Value.ref 95, Value.ref 96, Value.ref 97, Value.int 582 0, Value.int 169 0, sv "/claim/cut.py" 583] }) ::
  (nat_lit 99, fob 20 (sv "law_in0219_02" 571) (Value.none) 98) ::
  (nat_lit 103, { cls := Value.type "code", data := Data.fields #[sv "_law_words" 585, sv "_law_words" 586, sv "/claim/cut.py" 587, Value.int 180 0, Value.int 2 0, Value.int 0 0, Value.int 0 0, Value.int 3 0, Value.ref 100, Value.bool true, Value.int 276 0, Value.ref 101, Value.none, Value.none, Value.none, Value.ref 102, Value.int 588 0, Value.int 180 0, sv "/claim/cut.py" 589] }) ::
  (nat_lit 104, fob 21 (sv "law_in0219_02" 571) (Value.none) 103) ::
  (nat_lit 110, { cls := Value.type "code", data := Data.fields #[sv "_law_fits" 591, sv "_law_fits" 592, sv "/claim/cut.py" 593, Value.int 187 0, Value.int 2 0, Value.int 0 0, Value.int 0 0, Value.int 3 0, Value.ref 105, Value.bool true, Value.int 276 0, Value.ref 106, Value.none, Value.ref 107, Value.ref 108, Value.ref 109, Value.int 596 0, Value.int 187 0, sv "/claim/cut.py" 597] }) ::
  (nat_lit 111, fob 22 (sv "law_in0219_02" 571) (Value.none) 110) ::
  (nat_lit 117, { cls := Value.type "code", data := Data.fields #[sv "_law_pieces" 599, sv "_law_pieces" 600, sv "/claim/cut.py" 601, Value.int 191 0, Value.int 1 0, Value.int 0 0, Value.int 0 0, Value.int 3 0, Value.ref 112, Value.bool true, Value.int 276 0, Value.ref 113, Value.none, Value.ref 114, Value.ref 115, Value.ref 116, Value.int 606 0, Value.int 191 0, sv "/claim/cut.py" 607] }) ::
  (nat_lit 118, fob 23 (sv "law_in0219_02" 571) (Value.none) 117) ::
  (nat_lit 122, { cls := Value.type "code", data := Data.fields #[sv "_law_fit_all" 609, sv "_law_fit_all" 610, sv "/claim/cut.py" 611, Value.int 208 0, Value.int 2 0, Value.int 0 0, Value.int 0 0, Value.int 3 0, Value.ref 119, Value.bool true, Value.int 276 0, Value.ref 120, Value.none, Value.none, Value.none, Value.ref 121, Value.int 612 0, Value.int 208 0, sv "/claim/cut.py" 613] }) ::
  (nat_lit 123, fob 24 (sv "law_in0219_02" 571) (Value.none) 122) ::
  (nat_lit 129, { cls := Value.type "code", data := Data.fields #[sv "_law_takes" 615, sv "_law_takes" 616, sv "/claim/cut.py" 617, Value.int 210 0, Value.int 2 0, Value.int 0 0, Value.int 0 0, Value.int 3 0, Value.ref 124, Value.bool true, Value.int 276 0, Value.ref 125, Value.none, Value.ref 126, Value.ref 127, Value.ref 128, Value.int 623 0, Value.int 210 0, sv "/claim/cut.py" 624] }) ::
  (nat_lit 130, fob 25 (sv "law_in0219_02" 571) (Value.none) 129) ::
  (nat_lit 136, { cls := Value.type "code", data := Data.fields #[sv "_law_next" 626, sv "_law_next" 627, sv "/claim/cut.py" 628, Value.int 222 0, Value.int 4 0, Value.int 0 0, Value.int 0 0, Value.int 3 0, Value.ref 131, Value.bool true, Value.int 276 0, Value.ref 132, Value.none, Value.ref 133, Value.ref 134, Value.ref 135, Value.int 636 0, Value.int 222 0, sv "/claim/cut.py" 637] }) ::
  (nat_lit 137, fob 26 (sv "law_in0219_02" 571) (Value.none) 136) ::
  (nat_lit 141, { cls := Value.type "code", data := Data.fields #[sv "law" 639, sv "law" 640, sv "/claim/cut.py" 641, Value.int 231 0, Value.int 1 0, Value.int 0 0, Value.int 0 0, Value.int 3 0, Value.ref 138, Value.bool true, Value.int 276 0, Value.ref 139, Value.none, Value.none, Value.none, Value.ref 140, Value.int 642 0, Value.int 231 0, sv "/claim/cut.py" 643] }) ::
  (nat_lit 142, fob 27 (sv "law_in0219_02" 571) (Value.none) 141) :: []
noncomputable def ats : List Addr := [3, 4, 37, 38, 44, 45, 49, 50, 56, 57, 59, 68, 69, 75, 76, 82, 83, 84, 85, 91, 92, 98, 99, 103, 104, 110, 111, 117, 118, 122, 123, 129, 130, 136, 137, 141, 142]
theorem ats_ok : ∀ P, ats = (KK P).map (·.1) := fun _ => by kernel_rfl
noncomputable def qv : Program := view PySem.Challenge.pw_in0219_02 [0, 27]
noncomputable def loose : List PySem.Str := [Str.ofString "_MAX_STRING_SIZE", Str.ofString "_MOVE_COST", Str.ofString "_CASE_COST", Str.ofString "_substitution_cost", Str.ofString "_levenshtein_distance", Str.ofString "_twin_re_1", Str.ofString "translate", Str.ofString "_special_chars_map", Str.ofString "escape", Str.ofString "_translate", Str.ofString "_join_translated_parts", Str.ofString "_initial_missing", Str.ofString "reduce", Str.ofString "_law_pattern", Str.ofString "_law_words", Str.ofString "_law_fits", Str.ofString "_law_pieces", Str.ofString "_law_fit_all", Str.ofString "_law_takes", Str.ofString "_law_next"]
noncomputable abbrev HH : Hook := kmHook KK ats ats_ok [71, 139]
noncomputable abbrev xt (s : Shared) : Bool := xlAt qv [] s && recOk (RowW.records PySem.Challenge.rw_in0219_02.row.toRowW) s
end Mine
end SKd2

/-! Hd2 -/
set_option maxHeartbeats 0
namespace Mine
theorem wellsaid : PySem.Challenge.rw_in0219_02.wellSaid = true := by
  rw [PySem.W.Fast.te9446332074065402090]
  kernel_rfl
abbrev L0 (w : World) : Prop := (openEnds treeTable PySem.Challenge.pw_in0219_02 w 4100).map (fun s => (openSeen qv loose (importedModules PySem.Challenge.pw_in0219_02.main.body) xt true s, HH.obs s)) = some (openGood qv loose, HH.val w)
theorem lff (w : World) : L0 ((w.withFollow "special-get-raises" false).withFollow "comprehension-iter-twice" false) := by
  unfold L0 openEnds fencedOpening topFrom
  rw [PySem.W.Fast.te14364793385576792824, PySem.W.Fast.te4187177175401517315, PySem.W.Fast.te14082659384304107361, PySem.W.Fast.te10274390034422433532, PySem.W.Fast.te14289696077712309145, PySem.W.Fast.te1435165496053646825, PySem.W.Fast.te8920871248978507458]
  kernel_rfl
theorem lft (w : World) : L0 ((w.withFollow "special-get-raises" false).withFollow "comprehension-iter-twice" true) := by
  unfold L0 openEnds fencedOpening topFrom
  rw [PySem.W.Fast.te14364793385576792824, PySem.W.Fast.te4187177175401517315, PySem.W.Fast.te14082659384304107361, PySem.W.Fast.te10274390034422433532, PySem.W.Fast.te14289696077712309145, PySem.W.Fast.te1435165496053646825, PySem.W.Fast.te8920871248978507458]
  kernel_rfl
theorem ltf (w : World) : L0 ((w.withFollow "special-get-raises" true).withFollow "comprehension-iter-twice" false) := by
  unfold L0 openEnds fencedOpening topFrom
  rw [PySem.W.Fast.te14364793385576792824, PySem.W.Fast.te4187177175401517315, PySem.W.Fast.te14082659384304107361, PySem.W.Fast.te10274390034422433532, PySem.W.Fast.te14289696077712309145, PySem.W.Fast.te1435165496053646825, PySem.W.Fast.te8920871248978507458]
  kernel_rfl
theorem ltt (w : World) : L0 ((w.withFollow "special-get-raises" true).withFollow "comprehension-iter-twice" true) := by
  unfold L0 openEnds fencedOpening topFrom
  rw [PySem.W.Fast.te14364793385576792824, PySem.W.Fast.te4187177175401517315, PySem.W.Fast.te14082659384304107361, PySem.W.Fast.te10274390034422433532, PySem.W.Fast.te14289696077712309145, PySem.W.Fast.te1435165496053646825, PySem.W.Fast.te8920871248978507458]
  kernel_rfl
theorem leftT : LeftO PySem.Challenge.pw_in0219_02 qv loose xt HH.obs HH.val 4100 :=
  byRow2 "comprehension-iter-twice" (P := L0) (byRow2 "special-get-raises" (P := fun w => L0 (w.withFollow "comprehension-iter-twice" false)) lff ltf) (byRow2 "special-get-raises" (P := fun w => L0 (w.withFollow "comprehension-iter-twice" true)) lft ltt)
end Mine

/-! F2 -/
set_option maxHeartbeats 4000000
noncomputable section SF2
namespace Mine

def patCode : Array Nat := #[14, 14, 4, 1, 1, 9, 0, 64, 0, 1342177280, 0, 0, 0, 0, 0, 17, 0, 13, 11, 9, 0, 64, 0, 1342177280, 0, 0, 0, 0, 0, 17, 1, 1]
def subTs : List Str := [⟨#[97, 98]⟩, ⟨#[97, 65]⟩, ⟨#[33, 97]⟩, ⟨#[33, 98]⟩, ⟨#[33, 65]⟩]
theorem subTs_ok : ∀ u ∈ subTs, ((Sre.forSearch patCode u.cps 1 0 u.cps.size false).runFor Builtin.Re.reTurnSteps).outcome = some .failed ∧ 0 < u.cps.size ∧ u.cps.size ≤ 1000 := by
  intro u hu
  simp only [subTs, List.mem_cons, List.not_mem_nil, or_false] at hu
  rcases hu with rfl | rfl | rfl | rfl | rfl <;> exact ⟨by kernel_rfl, by decide, by decide⟩
def scT : Scope := match PySem.Challenge.pw_in0219_02.main.body[(14 : Nat)]? with
  | some (.FunctionDef _ _ _ _ _ _ sc _ _ _) => sc
  | _ => default
section
variable {P : Params} {c : Cx}

def T_substitution_cost (h : CF (KK P) c)   :=
  packT (n := 0) (c := c) (fa := 38) h ["ch_a", "ch_b"] rfl rfl rfl rfl rfl rfl rfl (by decide) (fun vals hl => bnd2 vals hl (fun _ _ => rfl)) rfl
    (trSs_cons (trS_if (trT_cmp (tr_name _ _ rfl rfl) (tr_name _ _ rfl rfl) act_eq) (trSs_cons (trS_ret (TrE.b (tr_int _ _ _))) trSs_nil) trSs_nil) (trSs_cons (trS_if (trT_cmp (tr_meth (tr_name _ _ rfl rfl) trEs_nil GM.lower act_lower plain_nil (fun _ => rfl)) (tr_meth (tr_name _ _ rfl rfl) trEs_nil GM.lower act_lower plain_nil (fun _ => rfl)) act_eq) (trSs_cons (trS_ret (TrE.b (tr_glob _ _ _ _ rfl (h.g _ _ rfl) rfl rfl))) trSs_nil) trSs_nil) (trSs_cons (trS_ret (TrE.b (tr_glob _ _ _ _ rfl (h.g _ _ rfl) rfl rfl))) trSs_nil)))

def T_levenshtein_distance (h : CF (KK P) c) {F_substitution_cost : List D → Option D} (h_substitution_cost : ActL c 1 (fun vs => call (.ref 38) vs) F_substitution_cost)  :=
  packT (n := 1) (c := c) (fa := 45) h ["a", "b", "max_cost"] rfl rfl rfl rfl rfl rfl rfl (by decide) (fun vals hl => bnd3 vals hl (fun _ _ _ => rfl)) rfl
    (trSs_cons (trS_if (trT_cmp (tr_name _ _ rfl rfl) (tr_name _ _ rfl rfl) act_eq) (trSs_cons (trS_ret (TrE.b (tr_int _ _ _))) trSs_nil) trSs_nil) (trSs_cons (trS_assign (tr_int _ _ _) (by first | exact .inl rfl | exact .inr rfl)) (trSs_cons (trS_while lim (trT_and (trT_of (tr_cut (tr_name _ _ rfl rfl) (trP_some (tr_name _ _ rfl rfl)) (trP_none (b := true)))) (trT_and (trT_of (tr_cut (tr_name _ _ rfl rfl) (trP_some (tr_name _ _ rfl rfl)) (trP_none (b := true)))) (trT_and (trT_cmp (tr_idx (tr_name _ _ rfl rfl) (tr_name _ _ rfl rfl)) (tr_idx (tr_name _ _ rfl rfl) (tr_name _ _ rfl rfl)) act_eq) trT_and0))) (trSs_cons (trS_aug (tr_int _ _ _) act_iadd (by first | exact .inl rfl | exact .inr rfl)) trSs_nil)) (trSs_cons (trS_assign (tr_cut (tr_name _ _ rfl rfl) (trP_some (tr_name _ _ rfl rfl)) (trP_none (b := true))) (by first | exact .inl rfl | exact .inr rfl)) (trSs_cons (trS_assign (tr_cut (tr_name _ _ rfl rfl) (trP_some (tr_name _ _ rfl rfl)) (trP_none (b := true))) (by first | exact .inl rfl | exact .inr rfl)) (trSs_cons (trS_assign (tr_int _ _ _) (by first | exact .inl rfl | exact .inr rfl)) (trSs_cons (trS_while lim (trT_and (trT_of (tr_cut (tr_name _ _ rfl rfl) (trP_none (b := true)) (trP_some (tr_or (tr_name _ _ rfl rfl) (tr_bool1 (tr_none _ _)))))) (trT_and (trT_of (tr_cut (tr_name _ _ rfl rfl) (trP_none (b := true)) (trP_some (tr_or (tr_name _ _ rfl rfl) (tr_bool1 (tr_none _ _)))))) (trT_and (trT_cmp (tr_idx (tr_name _ _ rfl rfl) (tr_bin (tr_name _ _ rfl rfl) (tr_int _ _ _) act_sub)) (tr_idx (tr_name _ _ rfl rfl) (tr_bin (tr_name _ _ rfl rfl) (tr_int _ _ _) act_sub)) act_eq) trT_and0))) (trSs_cons (trS_aug (tr_int _ _ _) act_isub (by first | exact .inl rfl | exact .inr rfl)) trSs_nil)) (trSs_cons (trS_assign (tr_cut (tr_name _ _ rfl rfl) (trP_none (b := true)) (trP_some (tr_or (tr_name _ _ rfl rfl) (tr_bool1 (tr_none _ _))))) (by first | exact .inl rfl | exact .inr rfl)) (trSs_cons (trS_assign (tr_cut (tr_name _ _ rfl rfl) (trP_none (b := true)) (trP_some (tr_or (tr_name _ _ rfl rfl) (tr_bool1 (tr_none _ _))))) (by first | exact .inl rfl | exact .inr rfl)) (trSs_cons (trS_if (trT_or (trT_not (trT_of (tr_name _ _ rfl rfl))) (trT_or (trT_not (trT_of (tr_name _ _ rfl rfl))) trT_or0)) (trSs_cons (trS_ret (tr_bin (TrE.b (tr_glob _ _ _ _ rfl (h.g _ _ rfl) rfl rfl)) (tr_bin (tr_callB (tr_built _ _ _ _ rfl (h.gn _ rfl) (h.b _ _ rfl (by decide)) rfl rfl) (trEs_cons (tr_nameB _ _ rfl rfl) trEs_nil) act_len (plain_cons plain_nil)) (tr_callB (tr_built _ _ _ _ rfl (h.gn _ rfl) (h.b _ _ rfl (by decide)) rfl rfl) (trEs_cons (tr_nameB _ _ rfl rfl) trEs_nil) act_len (plain_cons plain_nil)) act_add) act_mul)) trSs_nil) trSs_nil) (trSs_cons (trS_if (trT_or (trT_cmp (tr_callB (tr_built _ _ _ _ rfl (h.gn _ rfl) (h.b _ _ rfl (by decide)) rfl rfl) (trEs_cons (tr_name _ _ rfl rfl) trEs_nil) act_len (plain_cons plain_nil)) (tr_glob _ _ _ _ rfl (h.g _ _ rfl) rfl rfl) act_gt) (trT_or (trT_cmp (tr_callB (tr_built _ _ _ _ rfl (h.gn _ rfl) (h.b _ _ rfl (by decide)) rfl rfl) (trEs_cons (tr_name _ _ rfl rfl) trEs_nil) act_len (plain_cons plain_nil)) (tr_glob _ _ _ _ rfl (h.g _ _ rfl) rfl rfl) act_gt) trT_or0)) (trSs_cons (trS_ret (tr_bin (tr_nameB _ _ rfl rfl) (TrE.b (tr_int _ _ _)) act_add)) trSs_nil) trSs_nil) (trSs_cons (trS_if (trT_cmp (tr_callB (tr_built _ _ _ _ rfl (h.gn _ rfl) (h.b _ _ rfl (by decide)) rfl rfl) (trEs_cons (tr_name _ _ rfl rfl) trEs_nil) act_len (plain_cons plain_nil)) (tr_callB (tr_built _ _ _ _ rfl (h.gn _ rfl) (h.b _ _ rfl (by decide)) rfl rfl) (trEs_cons (tr_name _ _ rfl rfl) trEs_nil) act_len (plain_cons plain_nil)) act_lt) (trSs_cons (trS_tup2 (trEs_cons (tr_name _ _ rfl rfl) (trEs_cons (tr_name _ _ rfl rfl) trEs_nil)) (by first | exact .inl rfl | exact .inr rfl) (by first | exact .inl rfl | exact .inr rfl) (by intro _; rfl) (swp_of rfl rfl rfl rfl (by decide) rfl rfl rfl)) trSs_nil) trSs_nil) (trSs_cons (trS_if (trT_cmp (tr_bin (tr_bin (tr_callB (tr_built _ _ _ _ rfl (h.gn _ rfl) (h.b _ _ rfl (by decide)) rfl rfl) (trEs_cons (tr_name _ _ rfl rfl) trEs_nil) act_len (plain_cons plain_nil)) (tr_callB (tr_built _ _ _ _ rfl (h.gn _ rfl) (h.b _ _ rfl (by decide)) rfl rfl) (trEs_cons (tr_name _ _ rfl rfl) trEs_nil) act_len (plain_cons plain_nil)) act_sub) (tr_glob _ _ _ _ rfl (h.g _ _ rfl) rfl rfl) act_mul) (tr_name _ _ rfl rfl) act_gt) (trSs_cons (trS_ret (tr_bin (tr_nameB _ _ rfl rfl) (TrE.b (tr_int _ _ _)) act_add)) trSs_nil) trSs_nil) (trSs_cons (trS_assignO (trF_range3 (tr_built _ _ _ _ rfl (h.gn _ rfl) (h.b _ _ rfl (by decide)) rfl rfl) (tr_built _ _ _ _ rfl (h.gn _ rfl) (h.b _ _ rfl (by decide)) rfl rfl) (trEs_cons (tr_glob _ _ _ _ rfl (h.g _ _ rfl) rfl rfl) (trEs_cons (tr_bin (tr_glob _ _ _ _ rfl (h.g _ _ rfl) rfl rfl) (tr_bin (tr_callB (tr_built _ _ _ _ rfl (h.gn _ rfl) (h.b _ _ rfl (by decide)) rfl rfl) (trEs_cons (tr_name _ _ rfl rfl) trEs_nil) act_len (plain_cons plain_nil)) (tr_int _ _ _) act_add) act_mul) (trEs_cons (tr_glob _ _ _ _ rfl (h.g _ _ rfl) rfl rfl) trEs_nil))) (plain_cons (plain_cons (plain_cons plain_nil))) (plain_cons plain_nil)) (by first | exact .inl rfl | exact .inr rfl)) (trSs_cons (trS_assign (tr_int _ _ _) (by first | exact .inl rfl | exact .inr rfl)) (trSs_cons (trS_for (trI_range (tr_built _ _ _ _ rfl (h.gn _ rfl) (h.b _ _ rfl (by decide)) rfl rfl) (trEs_cons (tr_callB (tr_built _ _ _ _ rfl (h.gn _ rfl) (h.b _ _ rfl (by decide)) rfl rfl) (trEs_cons (tr_name _ _ rfl rfl) trEs_nil) act_len (plain_cons plain_nil)) trEs_nil) (plain_cons plain_nil)) (trSs_cons (trS_assign (tr_idx (tr_name _ _ rfl rfl) (tr_name _ _ rfl rfl)) (by first | exact .inl rfl | exact .inr rfl)) (trSs_cons (trS_assign2 (tr_bin (tr_name _ _ rfl rfl) (tr_glob _ _ _ _ rfl (h.g _ _ rfl) rfl rfl) act_mul) (by first | exact .inl rfl | exact .inr rfl) (by first | exact .inl rfl | exact .inr rfl)) (trSs_cons (trS_assign (tr_int _ _ _) (by first | exact .inl rfl | exact .inr rfl)) (trSs_cons (trS_for (trI_range (tr_built _ _ _ _ rfl (h.gn _ rfl) (h.b _ _ rfl (by decide)) rfl rfl) (trEs_cons (tr_callB (tr_built _ _ _ _ rfl (h.gn _ rfl) (h.b _ _ rfl (by decide)) rfl rfl) (trEs_cons (tr_name _ _ rfl rfl) trEs_nil) act_len (plain_cons plain_nil)) trEs_nil) (plain_cons plain_nil)) (trSs_cons (trS_assign (tr_bin (tr_name _ _ rfl rfl) (tr_callF (tr_glob _ _ _ _ rfl (h.g _ _ rfl) rfl rfl) (trEs_cons (tr_name _ _ rfl rfl) (trEs_cons (tr_idx (tr_name _ _ rfl rfl) (tr_name _ _ rfl rfl)) trEs_nil)) (h.ft _ _ rfl) rfl h_substitution_cost (plain_cons (plain_cons plain_nil))) act_add) (by first | exact .inl rfl | exact .inr rfl)) (trSs_cons (trS_assign (TrB.flat (tr_idx (tr_nameB _ _ rfl rfl) (tr_nameB _ _ rfl rfl))) (by first | exact .inl rfl | exact .inr rfl)) (trSs_cons (trS_assign (tr_bin (tr_callB (tr_built _ _ _ _ rfl (h.gn _ rfl) (h.b _ _ rfl (by decide)) rfl rfl) (trEs_cons (tr_name _ _ rfl rfl) (trEs_cons (tr_name _ _ rfl rfl) trEs_nil)) act_min (plain_cons (plain_cons plain_nil))) (tr_glob _ _ _ _ rfl (h.g _ _ rfl) rfl rfl) act_add) (by first | exact .inl rfl | exact .inr rfl)) (trSs_cons (trS_assign (tr_callB (tr_built _ _ _ _ rfl (h.gn _ rfl) (h.b _ _ rfl (by decide)) rfl rfl) (trEs_cons (tr_name _ _ rfl rfl) (trEs_cons (tr_name _ _ rfl rfl) trEs_nil)) act_min (plain_cons (plain_cons plain_nil))) (by first | exact .inl rfl | exact .inr rfl)) (trSs_cons (trS_setItem (tr_name _ _ rfl rfl) (tr_name _ _ rfl rfl)) (trSs_cons (trS_if (trT_cmp (tr_name _ _ rfl rfl) (tr_name _ _ rfl rfl) act_lt) (trSs_cons (trS_assign (tr_name _ _ rfl rfl) (by first | exact .inl rfl | exact .inr rfl)) trSs_nil) trSs_nil) trSs_nil)))))) (by first | exact .inl rfl | exact .inr rfl)) (trSs_cons (trS_if (trT_cmp (tr_name _ _ rfl rfl) (tr_name _ _ rfl rfl) act_gt) (trSs_cons (trS_ret (tr_bin (tr_nameB _ _ rfl rfl) (TrE.b (tr_int _ _ _)) act_add)) trSs_nil) trSs_nil) trSs_nil))))) (by first | exact .inl rfl | exact .inr rfl)) (trSs_cons (trS_ret (tr_nameB _ _ rfl rfl)) trSs_nil)))))))))))))))))

def Tescape (h : CF (KK P) c)  {oT : List D → Option D} (htrans : ActL c 0 (fun vs => call (.builtin "str.translate") vs) oT) :=
  packT (n := 0) (c := c) (fa := 69) h ["pattern"] rfl rfl rfl rfl rfl rfl rfl (by decide) (fun vals hl => bnd1 vals hl (fun _ => rfl)) rfl
    (trSs_cons (trS_if (trT_of (tr_callB (tr_built _ _ _ _ rfl (h.gn _ rfl) (h.b _ _ rfl (by decide)) rfl rfl) (trEs_cons (tr_name _ _ rfl rfl) (trEs_cons (tr_built _ _ _ _ rfl (h.gn _ rfl) (h.b _ _ rfl (by decide)) rfl rfl) trEs_nil)) act_isStr (plain_cons (plain_cons plain_nil)))) (trSs_cons (trS_ret (tr_meth (tr_nameB _ _ rfl rfl) (trEs_cons (TrE.b (tr_glob _ _ _ _ rfl (h.g _ _ rfl) rfl rfl)) trEs_nil) gm_translate htrans (plain_cons plain_nil) (fun _ => rfl))) trSs_nil) (trSs_no _)) trSs_nil)

def T_translate (h : CF (KK P) c) {Fescape : List D → Option D} (hescape : ActL c 1 (fun vs => call (.ref 69) vs) Fescape) (hL : LamOk c 75 71) (hpat : ∀ h, Glo c h → IsPat h 50 patCode 1) (hfn0 : ∀ fa ob fd, c.FT fa = some ob → ob.data = .func fd → fd.scope = scT → fd.code = .ref 75) :=
  packT (n := 1) (c := c) (fa := 76) h ["pat", "STAR", "QUESTION_MARK"] rfl rfl rfl rfl rfl rfl rfl (by decide) (fun vals hl => bnd3 vals hl (fun _ _ _ => rfl)) rfl
    (trSs_cons (trS_assignO (trF_list trEs_nil) (by first | exact .inl rfl | exact .inr rfl)) (trSs_cons (trS_app (by first | exact .inl rfl | exact .inr rfl)) (trSs_cons (trS_tup2 (trEs_cons (tr_int _ _ _) (trEs_cons (tr_callB (tr_built _ _ _ _ rfl (h.gn _ rfl) (h.b _ _ rfl (by decide)) rfl rfl) (trEs_cons (tr_name _ _ rfl rfl) trEs_nil) act_len (plain_cons plain_nil)) trEs_nil)) (by first | exact .inl rfl | exact .inr rfl) (by first | exact .inl rfl | exact .inr rfl) (by intro _; rfl) (swp_of rfl rfl rfl rfl (by decide) rfl rfl rfl)) (trSs_cons (trS_while lim (trT_cmp (tr_name _ _ rfl rfl) (tr_name _ _ rfl rfl) act_lt) (trSs_cons (trS_assign (tr_idx (tr_name _ _ rfl rfl) (tr_name _ _ rfl rfl)) (by first | exact .inl rfl | exact .inr rfl)) (trSs_cons (trS_assign (tr_bin (tr_name _ _ rfl rfl) (tr_int _ _ _) act_add) (by first | exact .inl rfl | exact .inr rfl)) (trSs_cons (trS_if (trT_cmp (tr_name _ _ rfl rfl) (tr_str _ _ _) act_eq) (trSs_cons (trS_if (trT_or (trT_not (trT_of (tr_nameB _ _ rfl rfl))) (trT_or (trT_cmp (tr_idx (tr_nameB _ _ rfl rfl) (tr_un (TrE.b (tr_int _ _ _)) act_neg)) (tr_nameB _ _ rfl rfl) act_isNot) trT_or0)) (trSs_cons (trS_appCall (trEs_cons (tr_name _ _ rfl rfl) trEs_nil) (plain_cons plain_nil) (itr_of rfl)) trSs_nil) trSs_nil) trSs_nil) (trSs_cons (trS_if (trT_cmp (tr_name _ _ rfl rfl) (tr_str _ _ _) act_eq) (trSs_cons (trS_appCall (trEs_cons (tr_name _ _ rfl rfl) trEs_nil) (plain_cons plain_nil) (itr_of rfl)) trSs_nil) (trSs_cons (trS_if (trT_cmp (tr_name _ _ rfl rfl) (tr_str _ _ _) act_eq) (trSs_cons (trS_assign (tr_name _ _ rfl rfl) (by first | exact .inl rfl | exact .inr rfl)) (trSs_cons (trS_if (trT_and (trT_cmp (tr_name _ _ rfl rfl) (tr_name _ _ rfl rfl) act_lt) (trT_and (trT_cmp (tr_idx (tr_name _ _ rfl rfl) (tr_name _ _ rfl rfl)) (tr_str _ _ _) act_eq) trT_and0)) (trSs_cons (trS_assign (tr_bin (tr_name _ _ rfl rfl) (tr_int _ _ _) act_add) (by first | exact .inl rfl | exact .inr rfl)) trSs_nil) trSs_nil) (trSs_cons (trS_if (trT_and (trT_cmp (tr_name _ _ rfl rfl) (tr_name _ _ rfl rfl) act_lt) (trT_and (trT_cmp (tr_idx (tr_name _ _ rfl rfl) (tr_name _ _ rfl rfl)) (tr_str _ _ _) act_eq) trT_and0)) (trSs_cons (trS_assign (tr_bin (tr_name _ _ rfl rfl) (tr_int _ _ _) act_add) (by first | exact .inl rfl | exact .inr rfl)) trSs_nil) trSs_nil) (trSs_cons (trS_while lim (trT_and (trT_cmp (tr_name _ _ rfl rfl) (tr_name _ _ rfl rfl) act_lt) (trT_and (trT_cmp (tr_idx (tr_name _ _ rfl rfl) (tr_name _ _ rfl rfl)) (tr_str _ _ _) act_ne) trT_and0)) (trSs_cons (trS_assign (tr_bin (tr_name _ _ rfl rfl) (tr_int _ _ _) act_add) (by first | exact .inl rfl | exact .inr rfl)) trSs_nil)) (trSs_cons (trS_if (trT_cmp (tr_name _ _ rfl rfl) (tr_name _ _ rfl rfl) act_ge) (trSs_no _) (trSs_cons (trS_assign (tr_cut (tr_name _ _ rfl rfl) (trP_some (tr_name _ _ rfl rfl)) (trP_some (tr_name _ _ rfl rfl))) (by first | exact .inl rfl | exact .inr rfl)) (trSs_cons (trS_if (trT_cmp (tr_str _ _ _) (tr_name _ _ rfl rfl) act_notIn) (trSs_cons (trS_assign (tr_meth (tr_name _ _ rfl rfl) (trEs_cons (tr_str _ _ _) (trEs_cons (tr_str _ _ _) trEs_nil)) GM.replace act_repl (plain_cons (plain_cons plain_nil)) (fun _ => rfl)) (by first | exact .inl rfl | exact .inr rfl)) trSs_nil) (trSs_no _)) (trSs_cons (trS_lamSub (code := patCode) (g := 1) (ts := subTs) hL hpat hfn0 subTs_ok (tr_glob _ _ _ _ rfl (h.g _ _ rfl) rfl rfl) (tr_name _ _ rfl rfl) (by first | exact .inl rfl | exact .inr rfl) (fun _ => rfl) (fun _ _ => rfl) (fun _ => rfl) (plain_cons (plain_cons plain_nil)) (fun _ => rfl) (fun _ => rfl)) (trSs_cons (trS_assign (tr_bin (tr_name _ _ rfl rfl) (tr_int _ _ _) act_add) (by first | exact .inl rfl | exact .inr rfl)) (trSs_cons (trS_if (trT_not (trT_of (tr_name _ _ rfl rfl))) (trSs_no _) (trSs_cons (trS_if (trT_cmp (tr_name _ _ rfl rfl) (tr_str _ _ _) act_eq) (trSs_no _) (trSs_cons (trS_if (trT_cmp (tr_idx (tr_name _ _ rfl rfl) (tr_int _ _ _)) (tr_str _ _ _) act_eq) (trSs_cons (trS_assign (tr_bin (tr_str _ _ _) (tr_cut (tr_name _ _ rfl rfl) (trP_some (tr_int _ _ _)) (trP_none (b := true))) act_add) (by first | exact .inl rfl | exact .inr rfl)) trSs_nil) (trSs_cons (trS_if (trT_inTup (tr_idx (tr_name _ _ rfl rfl) (tr_int _ _ _))) (trSs_cons (trS_assign (tr_bin (tr_str _ _ _) (tr_name _ _ rfl rfl) act_add) (by first | exact .inl rfl | exact .inr rfl)) trSs_nil) trSs_nil) trSs_nil)) (trSs_cons (trS_appCall (trEs_cons (tr_fstr (trJ_cons (tr_str _ _ _) (trJ_cons (tr_fval (tr_name _ _ rfl rfl)) (trJ_cons (tr_str _ _ _) trJ_nil)))) trEs_nil) (plain_cons plain_nil) (itr_of rfl)) trSs_nil))) trSs_nil)) trSs_nil)))))) trSs_nil))))) (trSs_cons (trS_appCall (trEs_cons (tr_callF (tr_glob _ _ _ _ rfl (h.g _ _ rfl) rfl rfl) (trEs_cons (tr_name _ _ rfl rfl) trEs_nil) (h.ft _ _ rfl) rfl hescape (plain_cons plain_nil)) trEs_nil) (plain_cons plain_nil) (itr_of rfl)) trSs_nil)) trSs_nil)) trSs_nil)) trSs_nil)))) (trSs_cons (trS_assert (trT_cmp (tr_name _ _ rfl rfl) (tr_name _ _ rfl rfl) act_eq)) (trSs_cons (trS_ret (tr_nameB _ _ rfl rfl)) trSs_nil))))))

def T_join_translated_parts (h : CF (KK P) c)   :=
  packT (n := 0) (c := c) (fa := 83) h ["inp", "STAR"] rfl rfl rfl rfl rfl rfl rfl (by decide) (fun vals hl => bnd2 vals hl (fun _ _ => rfl)) rfl
    (trSs_cons (trS_assignO (trF_list trEs_nil) (by first | exact .inl rfl | exact .inr rfl)) (trSs_cons (trS_app (by first | exact .inl rfl | exact .inr rfl)) (trSs_cons (trS_tup2 (trEs_cons (tr_int _ _ _) (trEs_cons (tr_callB (tr_built _ _ _ _ rfl (h.gn _ rfl) (h.b _ _ rfl (by decide)) rfl rfl) (trEs_cons (tr_name _ _ rfl rfl) trEs_nil) act_len (plain_cons plain_nil)) trEs_nil)) (by first | exact .inl rfl | exact .inr rfl) (by first | exact .inl rfl | exact .inr rfl) (by intro _; rfl) (swp_of rfl rfl rfl rfl (by decide) rfl rfl rfl)) (trSs_cons (trS_while lim (trT_and (trT_cmp (tr_name _ _ rfl rfl) (tr_name _ _ rfl rfl) act_lt) (trT_and (trT_cmp (tr_idx (tr_name _ _ rfl rfl) (tr_name _ _ rfl rfl)) (tr_name _ _ rfl rfl) act_isNot) trT_and0)) (trSs_cons (trS_appCall (trEs_cons (tr_idx (tr_name _ _ rfl rfl) (tr_name _ _ rfl rfl)) trEs_nil) (plain_cons plain_nil) (itr_of rfl)) (trSs_cons (trS_aug (tr_int _ _ _) act_iadd (by first | exact .inl rfl | exact .inr rfl)) trSs_nil))) (trSs_cons (trS_while lim (trT_cmp (tr_name _ _ rfl rfl) (tr_name _ _ rfl rfl) act_lt) (trSs_cons (trS_assert (trT_cmp (tr_idx (tr_name _ _ rfl rfl) (tr_name _ _ rfl rfl)) (tr_name _ _ rfl rfl) act_is)) (trSs_cons (trS_aug (tr_int _ _ _) act_iadd (by first | exact .inl rfl | exact .inr rfl)) (trSs_cons (trS_if (trT_cmp (tr_name _ _ rfl rfl) (tr_name _ _ rfl rfl) act_eq) (trSs_cons (trS_appCall (trEs_cons (tr_str _ _ _) trEs_nil) (plain_cons plain_nil) (itr_of rfl)) (trSs_cons trS_brk trSs_nil)) trSs_nil) (trSs_cons (trS_assert (trT_cmp (tr_idx (tr_name _ _ rfl rfl) (tr_name _ _ rfl rfl)) (tr_name _ _ rfl rfl) act_isNot)) (trSs_cons (trS_assignO (trF_list trEs_nil) (by first | exact .inl rfl | exact .inr rfl)) (trSs_cons (trS_while lim (trT_and (trT_cmp (tr_name _ _ rfl rfl) (tr_name _ _ rfl rfl) act_lt) (trT_and (trT_cmp (tr_idx (tr_name _ _ rfl rfl) (tr_name _ _ rfl rfl)) (tr_name _ _ rfl rfl) act_isNot) trT_and0)) (trSs_cons (trS_append _ (trEs_cons (tr_idx (tr_name _ _ rfl rfl) (tr_name _ _ rfl rfl)) trEs_nil) (plain_cons plain_nil) (fun _ => rfl) (itr_of rfl)) (trSs_cons (trS_aug (tr_int _ _ _) act_iadd (by first | exact .inl rfl | exact .inr rfl)) trSs_nil))) (trSs_cons (trS_assign (TrB.flat (tr_meth (TrE.b (tr_str _ _ _)) (trEs_cons (tr_nameB _ _ rfl rfl) trEs_nil) GM.join act_join (plain_cons plain_nil) (fun _ => rfl))) (by first | exact .inl rfl | exact .inr rfl)) (trSs_cons (trS_if (trT_cmp (tr_name _ _ rfl rfl) (tr_name _ _ rfl rfl) act_eq) (trSs_cons (trS_appCall (trEs_cons (tr_str _ _ _) trEs_nil) (plain_cons plain_nil) (itr_of rfl)) (trSs_cons (trS_appCall (trEs_cons (tr_name _ _ rfl rfl) trEs_nil) (plain_cons plain_nil) (itr_of rfl)) trSs_nil)) (trSs_cons (trS_appCall (trEs_cons (TrB.flat (tr_fstr (trJ_cons (TrE.b (tr_str _ _ _)) (trJ_cons (tr_fval (tr_nameB _ _ rfl rfl)) (trJ_cons (TrE.b (tr_str _ _ _)) trJ_nil))))) trEs_nil) (plain_cons plain_nil) (itr_of rfl)) trSs_nil)) trSs_nil))))))))) (trSs_cons (trS_assert (trT_cmp (tr_name _ _ rfl rfl) (tr_name _ _ rfl rfl) act_eq)) (trSs_cons (trS_assign (TrB.flat (tr_meth (TrE.b (tr_str _ _ _)) (trEs_cons (tr_nameB _ _ rfl rfl) trEs_nil) GM.join act_join (plain_cons plain_nil) (fun _ => rfl))) (by first | exact .inl rfl | exact .inr rfl)) (trSs_cons (trS_ret (tr_fstr (trJ_cons (TrE.b (tr_str _ _ _)) (trJ_cons (tr_fval (tr_nameB _ _ rfl rfl)) (trJ_cons (TrE.b (tr_str _ _ _)) trJ_nil))))) trSs_nil))))))))

def Ttranslate (h : CF (KK P) c) {F_translate : List D → Option D} (h_translate : ActL c 2 (fun vs => call (.ref 76) vs) F_translate) {F_join_translated_parts : List D → Option D} (h_join_translated_parts : ActL c 2 (fun vs => call (.ref 83) vs) F_join_translated_parts)  :=
  packT (n := 2) (c := c) (fa := 57) h ["pat"] rfl rfl rfl rfl rfl rfl rfl (by decide) (fun vals hl => bnd1 vals hl (fun _ => rfl)) rfl
    (trSs_obj (tr_built _ _ _ _ rfl (h.gn _ rfl) (h.b _ _ rfl (by decide)) rfl rfl) (trSs_cons (trS_assign (tr_callF (tr_glob _ _ _ _ rfl (h.g _ _ rfl) rfl rfl) (trEs_cons (tr_name _ _ rfl rfl) (trEs_cons (tr_name _ _ rfl rfl) (trEs_cons (tr_str _ _ _) trEs_nil))) (h.ft _ _ rfl) rfl h_translate (plain_cons (plain_cons (plain_cons plain_nil)))) (by first | exact .inl rfl | exact .inr rfl)) (trSs_cons (trS_ret (tr_callF (tr_glob _ _ _ _ rfl (h.g _ _ rfl) rfl rfl) (trEs_cons (tr_nameB _ _ rfl rfl) (trEs_cons (tr_nameB _ _ rfl rfl) trEs_nil)) (h.ft _ _ rfl) rfl h_join_translated_parts (plain_cons (plain_cons plain_nil)))) trSs_nil)) (by first | exact .inl rfl | exact .inr rfl))

def Treduce {P : Params} {c : Cx} {n : Nat} {fa : Addr} {ob : Obj} {fd : FuncData} {F : List D → Option D} (h : CF (KK P) c) (hob : c.FT fa = some ob) (hfd : ob.data = .func fd) (hF : ActL c n (fun vs => call (.ref fa) vs) F) :=
  packTD (n := n) (c := c) (fa := 92) h ["function", "sequence", "initial"] rfl rfl rfl rfl rfl rfl rfl (by decide) (fun s vals G hl => bndD3 vals G hl (h.ft 85 _ rfl) rfl rfl (fun _ _ _ => rfl) (fun _ _ _ => rfl)) rfl
    (trSs_reduce (ia := 84) hob hfd hF (tr_built _ _ _ _ rfl (h.gn _ rfl) (h.b _ _ rfl (by decide)) rfl rfl) (tr_glob _ _ _ _ rfl (h.g _ _ rfl) rfl rfl) (h.ft 84 _ rfl) rfl (by first | exact .inl rfl | exact .inr rfl) (by first | exact .inl rfl | exact .inr rfl) (by first | exact .inl rfl | exact .inr rfl))

def T_law_pattern (h : CF (KK P) c)   :=
  packT (n := 0) (c := c) (fa := 99) h ["numbers", "pair"] rfl rfl rfl rfl rfl rfl rfl (by decide) (fun vals hl => bnd2 vals hl (fun _ _ => rfl)) rfl
    (trSs_cons (trS_assign (tr_list (trEs_cons (tr_str _ _ _) (trEs_cons (tr_str _ _ _) (trEs_cons (tr_idx (tr_name _ _ rfl rfl) (tr_int _ _ _)) (trEs_cons (tr_idx (tr_name _ _ rfl rfl) (tr_int _ _ _)) (trEs_cons (tr_bin (tr_bin (tr_str _ _ _) (tr_name _ _ rfl rfl) act_add) (tr_str _ _ _) act_add) (trEs_cons (tr_bin (tr_bin (tr_str _ _ _) (tr_idx (tr_name _ _ rfl rfl) (tr_int _ _ _)) act_add) (tr_str _ _ _) act_add) (trEs_cons (tr_bin (tr_bin (tr_str _ _ _) (tr_idx (tr_name _ _ rfl rfl) (tr_int _ _ _)) act_add) (tr_str _ _ _) act_add) (trEs_cons (tr_str _ _ _) trEs_nil))))))))) (by first | exact .inl rfl | exact .inr rfl)) (trSs_cons (trS_assign (tr_str _ _ _) (by first | exact .inl rfl | exact .inr rfl)) (trSs_cons (trS_assign (tr_int _ _ _) (by first | exact .inl rfl | exact .inr rfl)) (trSs_cons (trS_for (trI_of (tr_name _ _ rfl rfl)) (trSs_cons (trS_if (trT_cmp (tr_bin (tr_name _ _ rfl rfl) (tr_int _ _ _) act_mod) (tr_int _ _ _) act_eq) (trSs_cons (trS_aug (tr_str _ _ _) act_iadd (by first | exact .inl rfl | exact .inr rfl)) trSs_nil) (trSs_cons (trS_if (trT_cmp (tr_name _ _ rfl rfl) (tr_int _ _ _) act_gt) (trSs_cons (trS_aug (tr_idx (tr_name _ _ rfl rfl) (tr_bin (tr_name _ _ rfl rfl) (tr_int _ _ _) act_mod)) act_iadd (by first | exact .inl rfl | exact .inr rfl)) (trSs_cons (trS_aug (tr_int _ _ _) act_isub (by first | exact .inl rfl | exact .inr rfl)) trSs_nil)) trSs_nil) trSs_nil)) trSs_nil) (by first | exact .inl rfl | exact .inr rfl)) (trSs_cons (trS_ret (tr_nameB _ _ rfl rfl)) trSs_nil)))))

def T_law_words (h : CF (KK P) c)   :=
  packT (n := 0) (c := c) (fa := 104) h ["pair", "size"] rfl rfl rfl rfl rfl rfl rfl (by decide) (fun vals hl => bnd2 vals hl (fun _ _ => rfl)) rfl
    (trSs_cons (trS_assign (tr_list (trEs_cons (tr_str _ _ _) trEs_nil)) (by first | exact .inl rfl | exact .inr rfl)) (trSs_cons (trS_assign (tr_list (trEs_cons (tr_str _ _ _) trEs_nil)) (by first | exact .inl rfl | exact .inr rfl)) (trSs_cons (trS_for (trI_range (tr_built _ _ _ _ rfl (h.gn _ rfl) (h.b _ _ rfl (by decide)) rfl rfl) (trEs_cons (tr_name _ _ rfl rfl) trEs_nil) (plain_cons plain_nil)) (trSs_cons (trS_assignC2 ["pair"] (trI_of (tr_name _ _ rfl rfl)) trTs_nil (trI_of (tr_name _ _ rfl rfl)) trTs_nil (tr_bin (tr_name _ _ rfl rfl) (tr_name _ _ rfl rfl) act_add)) (trSs_cons (trS_assign (tr_bin (tr_name _ _ rfl rfl) (tr_name _ _ rfl rfl) act_add) (by first | exact .inl rfl | exact .inr rfl)) trSs_nil)) (by first | exact .inl rfl | exact .inr rfl)) (trSs_cons (trS_ret (tr_nameB _ _ rfl rfl)) trSs_nil))))

def T_law_fits (h : CF (KK P) c)   :=
  packT (n := 0) (c := c) (fa := 111) h ["part", "sign"] rfl rfl rfl rfl rfl rfl rfl (by decide) (fun vals hl => bnd2 vals hl (fun _ _ => rfl)) rfl
    (trSs_cons (trS_if (trT_cmp (tr_cut (tr_name _ _ rfl rfl) (trP_none (b := true)) (trP_some (tr_int _ _ _))) (tr_str _ _ _) act_eq) (trSs_cons (trS_ret (tr_cmp (tr_nameB _ _ rfl rfl) (tr_cut (tr_nameB _ _ rfl rfl) (trP_some (TrE.b (tr_int _ _ _))) (trP_some (tr_un (TrE.b (tr_int _ _ _)) act_neg))) act_notIn)) trSs_nil) trSs_nil) (trSs_cons (trS_ret (tr_or (tr_cmp (tr_nameB _ _ rfl rfl) (TrE.b (tr_str _ _ _)) act_eq) (tr_or (tr_cmp (tr_nameB _ _ rfl rfl) (tr_nameB _ _ rfl rfl) act_eq) (tr_bool1 (tr_and (tr_cmp (tr_cut (tr_nameB _ _ rfl rfl) (trP_none (b := false)) (trP_some (TrE.b (tr_int _ _ _)))) (TrE.b (tr_str _ _ _)) act_eq) (tr_bool1 (tr_cmp (tr_nameB _ _ rfl rfl) (tr_cut (tr_nameB _ _ rfl rfl) (trP_some (TrE.b (tr_int _ _ _))) (trP_some (tr_un (TrE.b (tr_int _ _ _)) act_neg))) act_in))))))) trSs_nil))

def T_law_pieces (h : CF (KK P) c)   :=
  packT (n := 0) (c := c) (fa := 118) h ["text"] rfl rfl rfl rfl rfl rfl rfl (by decide) (fun vals hl => bnd1 vals hl (fun _ => rfl)) rfl
    (trSs_cons (trS_nest0 (by first | exact .inl rfl | exact .inr rfl)) (trSs_cons (trS_assign (tr_cut (tr_name _ _ rfl rfl) (trP_some (tr_int _ _ _)) (trP_some (tr_un (tr_int _ _ _) act_neg))) (by first | exact .inl rfl | exact .inr rfl)) (trSs_cons (trS_while lim (trT_cmp (tr_name _ _ rfl rfl) (tr_str _ _ _) act_ne) (trSs_cons (trS_if (trT_cmp (tr_cut (tr_name _ _ rfl rfl) (trP_none (b := true)) (trP_some (tr_int _ _ _))) (tr_str _ _ _) act_eq) (trSs_cons (trS_nestPush _ (plain_cons plain_nil) (fun _ => rfl) (itr_of rfl)) (trSs_cons (trS_assign (tr_cut (tr_name _ _ rfl rfl) (trP_some (tr_int _ _ _)) (trP_none (b := true))) (by first | exact .inl rfl | exact .inr rfl)) trSs_nil)) (trSs_cons (trS_if (trT_cmp (tr_cut (tr_name _ _ rfl rfl) (trP_none (b := true)) (trP_some (tr_int _ _ _))) (tr_str _ _ _) act_eq) (trSs_cons (trS_nestPush _ (plain_cons plain_nil) (fun _ => rfl) (itr_of rfl)) (trSs_cons (trS_assign (tr_cut (tr_name _ _ rfl rfl) (trP_some (tr_int _ _ _)) (trP_none (b := true))) (by first | exact .inl rfl | exact .inr rfl)) trSs_nil)) (trSs_cons (trS_if (trT_cmp (tr_cut (tr_name _ _ rfl rfl) (trP_none (b := true)) (trP_some (tr_int _ _ _))) (tr_str _ _ _) act_eq) (trSs_cons (trS_assign (tr_cut (tr_name _ _ rfl rfl) (trP_some (tr_int _ _ _)) (trP_none (b := true))) (by first | exact .inl rfl | exact .inr rfl)) trSs_nil) (trSs_cons (trS_assign (tr_if (trT_cmp (tr_cut (tr_name _ _ rfl rfl) (trP_none (b := true)) (trP_some (tr_int _ _ _))) (tr_str _ _ _) act_eq) (tr_bin (tr_meth (tr_name _ _ rfl rfl) (trEs_cons (tr_str _ _ _) trEs_nil) GM.index act_index (plain_cons plain_nil) (fun _ => rfl)) (tr_int _ _ _) act_add) (tr_int _ _ _)) (by first | exact .inl rfl | exact .inr rfl)) (trSs_cons (trS_nestApp _ (trEs_cons (tr_cut (tr_name _ _ rfl rfl) (trP_none (b := true)) (trP_some (tr_name _ _ rfl rfl))) trEs_nil) (plain_cons plain_nil) (fun _ => rfl) (itr_of rfl)) (trSs_cons (trS_assign (tr_cut (tr_name _ _ rfl rfl) (trP_some (tr_name _ _ rfl rfl)) (trP_none (b := true))) (by first | exact .inl rfl | exact .inr rfl)) trSs_nil)))) trSs_nil)) trSs_nil)) trSs_nil)) (trSs_cons (trS_ret (tr_nameN _ _)) trSs_nil))))

def T_law_fit_all (h : CF (KK P) c) {F_law_fits : List D → Option D} (h_law_fits : ActL c 1 (fun vs => call (.ref 111) vs) F_law_fits)  :=
  packT (n := 1) (c := c) (fa := 123) h ["tests", "signs"] rfl rfl rfl rfl rfl rfl rfl (by decide) (fun vals hl => bnd2 vals hl (fun _ _ => rfl)) rfl
    (trSs_cons (trS_ret (tr_and (tr_cmp (tr_callB (tr_built _ _ _ _ rfl (h.gn _ rfl) (h.b _ _ rfl (by decide)) rfl rfl) (trEs_cons (tr_nameB _ _ rfl rfl) trEs_nil) act_len (plain_cons plain_nil)) (tr_callB (tr_built _ _ _ _ rfl (h.gn _ rfl) (h.b _ _ rfl (by decide)) rfl rfl) (trEs_cons (tr_nameB _ _ rfl rfl) trEs_nil) act_len (plain_cons plain_nil)) act_eq) (tr_bool1 (tr_cmp (TrE.b (tr_bool _ _ _)) (trF_m (trF_comp ["signs", "tests"] (trI_range (tr_built _ _ _ _ rfl (h.gn _ rfl) (h.b _ _ rfl (by decide)) rfl rfl) (trEs_cons (tr_callB (tr_built _ _ _ _ rfl (h.gn _ rfl) (h.b _ _ rfl (by decide)) rfl rfl) (trEs_cons (tr_name _ _ rfl rfl) trEs_nil) act_len (plain_cons plain_nil)) trEs_nil) (plain_cons plain_nil)) trTs_nil (tr_callF (tr_glob _ _ _ _ rfl (h.g _ _ rfl) rfl rfl) (trEs_cons (tr_idx (tr_name _ _ rfl rfl) (tr_name _ _ rfl rfl)) (trEs_cons (tr_idx (tr_name _ _ rfl rfl) (tr_name _ _ rfl rfl)) trEs_nil)) (h.ft _ _ rfl) rfl h_law_fits (plain_cons (plain_cons plain_nil))))) act_notIn)))) trSs_nil)

def T_law_takes (h : CF (KK P) c) {F_law_fit_all : List D → Option D} (h_law_fit_all : ActL c 2 (fun vs => call (.ref 123) vs) F_law_fit_all)  :=
  packT (n := 2) (c := c) (fa := 130) h ["pieces", "word"] rfl rfl rfl rfl rfl rfl rfl (by decide) (fun vals hl => bnd2 vals hl (fun _ _ => rfl)) rfl
    (trSs_cons (trS_if (trT_cmp (tr_callB (tr_built _ _ _ _ rfl (h.gn _ rfl) (h.b _ _ rfl (by decide)) rfl rfl) (trEs_cons (tr_name _ _ rfl rfl) trEs_nil) act_len (plain_cons plain_nil)) (tr_int _ _ _) act_eq) (trSs_cons (trS_ret (tr_callF (tr_glob _ _ _ _ rfl (h.g _ _ rfl) rfl rfl) (trEs_cons (tr_idx (tr_nameB _ _ rfl rfl) (TrE.b (tr_int _ _ _))) (trEs_cons (tr_nameB _ _ rfl rfl) trEs_nil)) (h.ft _ _ rfl) rfl h_law_fit_all (plain_cons (plain_cons plain_nil)))) trSs_nil) trSs_nil) (trSs_cons (trS_assign (tr_callB (tr_built _ _ _ _ rfl (h.gn _ rfl) (h.b _ _ rfl (by decide)) rfl rfl) (trEs_cons (tr_idx (tr_name _ _ rfl rfl) (tr_int _ _ _)) trEs_nil) act_len (plain_cons plain_nil)) (by first | exact .inl rfl | exact .inr rfl)) (trSs_cons (trS_if (trT_not (trT_of (tr_callF (tr_glob _ _ _ _ rfl (h.g _ _ rfl) rfl rfl) (trEs_cons (tr_idx (tr_name _ _ rfl rfl) (tr_int _ _ _)) (trEs_cons (tr_cut (tr_name _ _ rfl rfl) (trP_none (b := true)) (trP_some (tr_name _ _ rfl rfl))) trEs_nil)) (h.ft _ _ rfl) rfl h_law_fit_all (plain_cons (plain_cons plain_nil))))) (trSs_cons (trS_ret (TrE.b (tr_bool _ _ _))) trSs_nil) trSs_nil) (trSs_cons (trS_for (trI_of (tr_cut (tr_name _ _ rfl rfl) (trP_some (tr_int _ _ _)) (trP_some (tr_un (tr_int _ _ _) act_neg)))) (trSs_cons (trS_while lim (trT_and (trT_cmp (tr_name _ _ rfl rfl) (tr_callB (tr_built _ _ _ _ rfl (h.gn _ rfl) (h.b _ _ rfl (by decide)) rfl rfl) (trEs_cons (tr_name _ _ rfl rfl) trEs_nil) act_len (plain_cons plain_nil)) act_lt) (trT_and (trT_not (trT_of (tr_callF (tr_glob _ _ _ _ rfl (h.g _ _ rfl) rfl rfl) (trEs_cons (tr_name _ _ rfl rfl) (trEs_cons (tr_cut (tr_name _ _ rfl rfl) (trP_some (tr_name _ _ rfl rfl)) (trP_some (tr_bin (tr_name _ _ rfl rfl) (tr_callB (tr_built _ _ _ _ rfl (h.gn _ rfl) (h.b _ _ rfl (by decide)) rfl rfl) (trEs_cons (tr_name _ _ rfl rfl) trEs_nil) act_len (plain_cons plain_nil)) act_add))) trEs_nil)) (h.ft _ _ rfl) rfl h_law_fit_all (plain_cons (plain_cons plain_nil))))) trT_and0)) (trSs_cons (trS_aug (tr_int _ _ _) act_iadd (by first | exact .inl rfl | exact .inr rfl)) trSs_nil)) (trSs_cons (trS_aug (tr_callB (tr_built _ _ _ _ rfl (h.gn _ rfl) (h.b _ _ rfl (by decide)) rfl rfl) (trEs_cons (tr_name _ _ rfl rfl) trEs_nil) act_len (plain_cons plain_nil)) act_iadd (by first | exact .inl rfl | exact .inr rfl)) trSs_nil)) (by first | exact .inl rfl | exact .inr rfl)) (trSs_cons (trS_assign (tr_bin (tr_callB (tr_built _ _ _ _ rfl (h.gn _ rfl) (h.b _ _ rfl (by decide)) rfl rfl) (trEs_cons (tr_name _ _ rfl rfl) trEs_nil) act_len (plain_cons plain_nil)) (tr_callB (tr_built _ _ _ _ rfl (h.gn _ rfl) (h.b _ _ rfl (by decide)) rfl rfl) (trEs_cons (tr_idx (tr_name _ _ rfl rfl) (tr_un (tr_int _ _ _) act_neg)) trEs_nil) act_len (plain_cons plain_nil)) act_sub) (by first | exact .inl rfl | exact .inr rfl)) (trSs_cons (trS_ret (tr_and (tr_cmp (tr_nameB _ _ rfl rfl) (tr_nameB _ _ rfl rfl) act_le) (tr_bool1 (tr_callF (tr_glob _ _ _ _ rfl (h.g _ _ rfl) rfl rfl) (trEs_cons (tr_idx (tr_nameB _ _ rfl rfl) (tr_un (TrE.b (tr_int _ _ _)) act_neg)) (trEs_cons (tr_cut (tr_nameB _ _ rfl rfl) (trP_some (tr_nameB _ _ rfl rfl)) (trP_none (b := false))) trEs_nil)) (h.ft _ _ rfl) rfl h_law_fit_all (plain_cons (plain_cons plain_nil)))))) trSs_nil))))))

def T_law_next (h : CF (KK P) c) {F_law_fits : List D → Option D} (h_law_fits : ActL c 1 (fun vs => call (.ref 111) vs) F_law_fits)  :=
  packT (n := 1) (c := c) (fa := 137) h ["row", "part", "name", "turn"] rfl rfl rfl rfl rfl rfl rfl (by decide) (fun vals hl => bnd4 vals hl (fun _ _ _ _ => rfl)) rfl
    (trSs_cons (trS_assignO (trF_list (trEs_cons (tr_if (trT_cmp (tr_name _ _ rfl rfl) (tr_none _ _) act_is) (tr_idx (tr_name _ _ rfl rfl) (tr_int _ _ _)) (tr_bin (tr_idx (tr_name _ _ rfl rfl) (tr_int _ _ _)) (tr_int _ _ _) act_add)) trEs_nil)) (by first | exact .inl rfl | exact .inr rfl)) (trSs_cons (trS_for (trI_range (tr_built _ _ _ _ rfl (h.gn _ rfl) (h.b _ _ rfl (by decide)) rfl rfl) (trEs_cons (tr_callB (tr_built _ _ _ _ rfl (h.gn _ rfl) (h.b _ _ rfl (by decide)) rfl rfl) (trEs_cons (tr_name _ _ rfl rfl) trEs_nil) act_len (plain_cons plain_nil)) trEs_nil) (plain_cons plain_nil)) (trSs_cons (trS_if (trT_cmp (tr_name _ _ rfl rfl) (tr_none _ _) act_is) (trSs_cons (trS_append _ (trEs_cons (TrB.flat (tr_callB (tr_built _ _ _ _ rfl (h.gn _ rfl) (h.b _ _ rfl (by decide)) rfl rfl) (trEs_cons (tr_idx (tr_nameB _ _ rfl rfl) (tr_bin (tr_nameB _ _ rfl rfl) (TrE.b (tr_int _ _ _)) act_add)) (trEs_cons (tr_idx (tr_nameB _ _ rfl rfl) (tr_nameB _ _ rfl rfl)) trEs_nil)) act_min (plain_cons (plain_cons plain_nil)))) trEs_nil) (plain_cons plain_nil) (fun _ => rfl) (itr_of rfl)) trSs_nil) (trSs_cons (trS_assign (tr_if (trT_of (tr_callF (tr_glob _ _ _ _ rfl (h.g _ _ rfl) rfl rfl) (trEs_cons (tr_name _ _ rfl rfl) (trEs_cons (tr_idx (tr_name _ _ rfl rfl) (tr_name _ _ rfl rfl)) trEs_nil)) (h.ft _ _ rfl) rfl h_law_fits (plain_cons (plain_cons plain_nil)))) (tr_int _ _ _) (tr_name _ _ rfl rfl)) (by first | exact .inl rfl | exact .inr rfl)) (trSs_cons (trS_append _ (trEs_cons (TrB.flat (tr_callB (tr_built _ _ _ _ rfl (h.gn _ rfl) (h.b _ _ rfl (by decide)) rfl rfl) (trEs_cons (tr_bin (tr_idx (tr_nameB _ _ rfl rfl) (tr_bin (tr_nameB _ _ rfl rfl) (TrE.b (tr_int _ _ _)) act_add)) (TrE.b (tr_int _ _ _)) act_add) (trEs_cons (tr_bin (tr_idx (tr_nameB _ _ rfl rfl) (tr_nameB _ _ rfl rfl)) (TrE.b (tr_int _ _ _)) act_add) (trEs_cons (tr_bin (tr_idx (tr_nameB _ _ rfl rfl) (tr_nameB _ _ rfl rfl)) (tr_nameB _ _ rfl rfl) act_add) trEs_nil))) act_min3 (plain_cons (plain_cons (plain_cons plain_nil))))) trEs_nil) (plain_cons plain_nil) (fun _ => rfl) (itr_of rfl)) trSs_nil))) trSs_nil) (by first | exact .inl rfl | exact .inr rfl)) (trSs_cons (trS_ret (tr_nameB _ _ rfl rfl)) trSs_nil)))

end
end Mine
end SF2

/-! M1 -/
noncomputable section SM1
namespace Mine
/-! ### loops by what stays true -/
theorem while_inv {α : Type} {ft : Rho → Option Bool} {fb : Rho → Option (Rho × Fl)} (Inv : α → Rho → Prop) (cond : α → Bool) (step res : α → α) (m : α → Nat)
    (hft : ∀ x r, Inv x r → ft r = some (cond x)) (hfb : ∀ x r, Inv x r → cond x = true → ∃ r', fb r = some (r', .next) ∧ Inv (step x) r')
    (hm : ∀ x, cond x = true → m (step x) < m x) (h1 : ∀ x, cond x = true → res x = res (step x)) (h0 : ∀ x, cond x = false → res x = x) :
    ∀ (N : Nat) (x : α) (r : Rho), m x < N → Inv x r → ∃ r', whileF ft fb N r = some (r', .next) ∧ Inv (res x) r'
  | 0, _, _, h, _ => absurd h (Nat.not_lt_zero _)
  | N + 1, x, r, h, I => by
    unfold whileF
    rw [hft x r I]
    cases hc : cond x with
    | false =>
      rw [h0 x hc]
      exact ⟨r, rfl, I⟩
    | true =>
      obtain ⟨r', e, I'⟩ := hfb x r I hc
      obtain ⟨r2, e2, I2⟩ := while_inv Inv cond step res m hft hfb hm h1 h0 N (step x) r' (by have := hm x hc; lia) I'
      refine ⟨r2, ?_, (h1 x hc) ▸ I2⟩
      simp only [Option.bind_some, e]
      exact e2
def foldE {α β : Type} (step : α → β → α ⊕ D) : α → List β → α ⊕ D
  | x, [] => .inl x
  | x, d :: ds => match step x d with
    | .inl y => foldE step y ds
    | .inr v => .inr v
def Ends {α : Type} (Inv : α → Rho → Prop) (o : Option (Rho × Fl)) : α ⊕ D → Prop
  | .inl y => ∃ r', o = some (r', .next) ∧ Inv y r'
  | .inr v => ∃ r', o = some (r', .ret v)
theorem for_inv {α β : Type} {v : Str} {fb : Rho → Option (Rho × Fl)} (Inv : α → Rho → Prop) (enc : β → D) (ok : β → Prop) (step : α → β → α ⊕ D)
    (hfb : ∀ x d r, Inv x r → ok d → Ends Inv (fb ((r.kill v).put v (.sh (enc d)))) (step x d)) :
    ∀ (ds : List β) (x : α) (r : Rho), (∀ d ∈ ds, ok d) → Inv x r → Ends Inv (forF v fb (ds.map enc) r) (foldE step x ds)
  | [], x, r, _, I => ⟨r, rfl, I⟩
  | d :: ds, x, r, ho, I => by
    have := hfb x d r I (ho d List.mem_cons_self)
    rw [List.map_cons]
    unfold forF foldE
    cases hs : step x d with
    | inl y =>
      rw [hs] at this
      obtain ⟨r', e, I'⟩ := this
      rw [e]
      exact for_inv Inv enc ok step hfb ds y r' (fun d hd => ho d (List.mem_cons_of_mem _ hd)) I'
    | inr u =>
      rw [hs] at this
      obtain ⟨r', e⟩ := this
      rw [e]
      exact ⟨r', rfl⟩
theorem seqF_next {f g : Rho → Option (Rho × Fl)} {r r1 : Rho} (h : f r = some (r1, .next)) : seqF f g r = g r1 := by
  unfold seqF
  rw [h]
  rfl
theorem seqF_ret {f g : Rho → Option (Rho × Fl)} {r r1 : Rho} {d : D} (h : f r = some (r1, .ret d)) : seqF f g r = some (r1, .ret d) := by
  unfold seqF
  rw [h]
  rfl
theorem get_here (x : Str) (e : Ent) (r : Rho) : Rho.get ((x, e) :: r) x = some e := by
  unfold Rho.get
  rw [List.lookup_cons]
  simp
theorem get_there {x y : Str} (e : Ent) (r : Rho) (h : y ≠ x) : Rho.get ((x, e) :: r) y = Rho.get r y := by
  unfold Rho.get
  rw [List.lookup_cons, beq_eq_false_iff_ne.mpr h]

theorem kp_self (r : Rho) (x : Str) (e : Ent) : ((r.kill x).put x e).get x = some e := by rw [get_kp, if_pos rfl]
theorem kp_any {r : Rho} {x y : Str} {e en : Ent} (h : r.get y = some en) (hk : en.kill x = en) (hne : y ≠ x) : ((r.kill x).put x e).get y = some en := by rw [get_kp, if_neg hne, h, Option.map_some, hk]
theorem pt_self (r : Rho) (x : Str) (e : Ent) : (r.put x e).get x = some e := by rw [Rho.get_put, if_pos rfl]
theorem pt_any {r : Rho} {x y : Str} {e en : Ent} (h : r.get y = some en) (hne : y ≠ x) : (r.put x e).get y = some en := by rw [Rho.get_put, if_neg hne, h]
theorem oEq_str (x y : Str) : oEq (.str x) (.str y) = some (.bool (x == y)) := rfl
theorem oEq_int (x y : Int) : oEq (.int x) (.int y) = some (.bool (x == y)) := rfl
/-! ### the cost of a change -/
def cost (x y : Str) : Int := if x = y then 0 else if Txt.lower x = Txt.lower y then 1 else 2
def F38 : List D → Option D
  | [.str x, .str y] => if x.length ≤ lim ∧ y.length ≤ lim then some (.int (cost x y)) else none
  | _ => none
theorem sub_ok {P : Params} {c : Cx} (h : CF (KK P) c) : ActL c 1 (fun vs => call (.ref 38) vs) F38 := (T_substitution_cost h).2 F38 fun ds d hF => by
  unfold F38 at hF
  split at hF <;> try (cases hF; done)
  rename_i x y
  split at hF <;> try (cases hF; done)
  rename_i hl
  cases hF
  refine ⟨rfl, ?_⟩
  unfold T_substitution_cost packT cost
  dsimp only
  by_cases h1 : x = y
  · simp [seqF, get_here, get_there (x := "ch_a") (y := "ch_b") _ _ (by decide), oEq_str, asB, h1]
  · by_cases h2 : Txt.lower x = Txt.lower y
    · simp [seqF, get_here, get_there (x := "ch_a") (y := "ch_b") _ _ (by decide), oEq_str, asB, oLower, hl.1, hl.2, h1, h2]
    · simp [seqF, get_here, get_there (x := "ch_a") (y := "ch_b") _ _ (by decide), oEq_str, asB, oLower, hl.1, hl.2, h1, h2]
end Mine
end SM1

/-! M2 -/
noncomputable section SM2
namespace Mine
/-! ### texts by their lists -/
def T (l : List Nat) : Str := ⟨l.toArray⟩
theorem T_cps (x : Str) : T x.cps.toList = x := by cases x; simp [T]
theorem T_len (l : List Nat) : (T l).length = l.length := by
  show (l.toArray).size = _
  simp
theorem T_inj {l m : List Nat} : T l = T m ↔ l = m := by
  unfold T
  constructor
  · intro h
    injection h with h
    exact List.toArray_inj h
  · intro h; rw [h]
theorem clip_nat (n k : Nat) : (max 0 (min (k : Int) (n : Int))).toNat = min k n := by
  rcases Nat.le_total k n with h | h
  · rw [Int.min_eq_left (Int.ofNat_le.mpr h), Int.max_eq_right (Int.natCast_nonneg _), Int.toNat_natCast, Nat.min_eq_left h]
  · rw [Int.min_eq_right (Int.ofNat_le.mpr h), Int.max_eq_right (Int.natCast_nonneg _), Int.toNat_natCast, Nat.min_eq_right h]
theorem clip_pos (n : Nat) (i : Nat) : clipAt n (i : Int) = min i n := by
  unfold clipAt
  rw [if_neg (Int.not_lt.mpr (Int.natCast_nonneg i))]
  exact clip_nat n i
theorem clip_neg (n : Nat) (i : Nat) (h : 0 < i) : clipAt n (-(i : Int)) = n - i := by
  unfold clipAt
  rw [if_pos (Int.neg_neg_of_pos (Int.natCast_pos.mpr h))]
  by_cases hi : i ≤ n
  · have e : -(i : Int) + n = ((n - i : Nat) : Int) := by rw [Int.natCast_sub hi, Int.add_comm]; rfl
    rw [e, clip_nat, Nat.min_eq_left (Nat.sub_le n i)]
  · have hlt : (n : Int) < i := Int.ofNat_lt.mpr (Nat.lt_of_not_le hi)
    have e : -(i : Int) + n ≤ 0 := by rw [Int.add_comm]; exact Int.sub_nonpos_of_le (Int.le_of_lt hlt)
    rw [Nat.sub_eq_zero_of_le (Nat.le_of_not_le hi), Int.max_eq_left (Int.le_trans (Int.min_le_left _ _) e)]
    rfl
theorem cut_from (l : List Nat) (i : Nat) : cutS (T l) (some (i : Int)) none = T (l.drop i) := by
  unfold cutS cutL T
  simp only [Option.elim, clip_pos]
  rw [List.take_of_length_le (by rw [List.length_drop]; exact Nat.le_refl _)]
  simp only [Str.mk.injEq]
  by_cases h : i ≤ l.length
  · rw [Nat.min_eq_left h]
  · rw [Nat.min_eq_right (by lia), List.drop_of_length_le (Nat.le_refl _), List.drop_of_length_le (by lia)]
theorem cut_all (l : List Nat) : cutS (T l) none none = T l := by
  unfold cutS cutL T
  simp only [Option.elim, List.drop_zero, Nat.sub_zero]
  rw [List.take_of_length_le (by simp)]
theorem cut_to_neg (l : List Nat) (i : Nat) (h : 0 < i) : cutS (T l) none (some (-(i : Int))) = T (l.take (l.length - i)) := by
  unfold cutS cutL T
  simp only [Option.elim, List.drop_zero, Nat.sub_zero, clip_neg _ _ h]
theorem cut_to (l : List Nat) (i : Nat) : cutS (T l) none (some (i : Int)) = T (l.take i) := by
  unfold cutS cutL T
  simp only [Option.elim, List.drop_zero, Nat.sub_zero, clip_pos, Str.mk.injEq]
  by_cases h : i ≤ l.length
  · rw [Nat.min_eq_left h]
  · rw [Nat.min_eq_right (by lia), List.take_of_length_le (Nat.le_refl _), List.take_of_length_le (by lia)]
theorem idx_pos (l : List Nat) (i : Nat) (x : Nat) (h : l[i]? = some x) (hl : l.length ≤ lim) : oIdx (.str (T l)) (.int (i : Int)) = some (.str (T [x])) := by
  have hlim : lim = 1000000 := lim_eq
  have hbig : big = 2 ^ 60 := big_eq
  have hi : i < l.length := (List.getElem?_eq_some_iff.mp h).1
  unfold oIdx
  dsimp only
  rw [if_pos (by lia), T_len]
  have : seqIndex? (i : Int) l.length = some i := by
    have e : ¬ ((i : Int) < 0) := by lia
    unfold seqIndex?
    simp only [e, if_false]
    rw [if_pos (by simp; lia)]
    simp
  rw [this]
  show Option.map _ ((T l).cps[i]?) = _
  unfold T
  simp [h]
theorem idx_neg (l : List Nat) (i : Nat) (x : Nat) (h : l.reverse[i]? = some x) (hl : l.length ≤ lim) : oIdx (.str (T l)) (.int (-(i : Int) - 1)) = some (.str (T [x])) := by
  have hlim : lim = 1000000 := lim_eq
  have hbig : big = 2 ^ 60 := big_eq
  have hi : i < l.length := by simpa using (List.getElem?_eq_some_iff.mp h).1
  unfold oIdx
  dsimp only
  rw [if_pos (by lia), T_len]
  have : seqIndex? (-(i : Int) - 1) l.length = some (l.length - 1 - i) := by
    have e : -(i : Int) - 1 < 0 := by lia
    unfold seqIndex?
    simp only [e, if_true]
    rw [if_pos (by simp; lia)]
    congr 1
    lia
  rw [this]
  show Option.map _ ((T l).cps[l.length - 1 - i]?) = _
  unfold T
  rw [List.getElem?_reverse hi] at h
  simp [h]
theorem truth_T (l : List Nat) (hl : l.length ≤ lim) : oTruth (.str (T l)) = some (!l.isEmpty) := by
  unfold oTruth
  dsimp only
  rw [T_len, if_pos hl]
  cases l <;> simp
  lia
theorem cut_ok (l : List Nat) (lo hi : Option Int) (hl : l.length ≤ lim) : oCut (.str (T l)) lo hi = some (.str (cutS (T l) lo hi)) := by
  unfold oCut
  dsimp only
  rw [T_len, if_pos hl]

/-- how far two lists agree -/
def lcp : List Nat → List Nat → Nat
  | x :: xs, y :: ys => if x = y then lcp xs ys + 1 else 0
  | _, _ => 0
def agree (a b : List Nat) (i : Nat) : Bool := match a[i]?, b[i]? with
  | some x, some y => x == y
  | _, _ => false
theorem lcp_step (a b : List Nat) (i : Nat) : lcp (a.drop i) (b.drop i) = if agree a b i then lcp (a.drop (i + 1)) (b.drop (i + 1)) + 1 else 0 := by
  unfold agree
  by_cases ha : i < a.length
  · by_cases hb : i < b.length
    · rw [List.drop_eq_getElem_cons ha, List.drop_eq_getElem_cons hb, List.getElem?_eq_getElem ha, List.getElem?_eq_getElem hb]
      conv => lhs; unfold lcp
      by_cases h : a[i] = b[i]
      · simp [h]
      · simp [h]
    · rw [List.drop_of_length_le (l := b) (by lia), List.getElem?_eq_none (l := b) (by lia)]
      cases a[i]? <;> simp [lcp]
  · rw [List.drop_of_length_le (l := a) (by lia), List.getElem?_eq_none (l := a) (by lia)]
    simp [lcp]
/-- what a while over a common start keeps -/
structure PreI (a b : List Nat) (k : Int) (i : Nat) (r : Rho) : Prop where
  ga : r.get "a" = some (.sh (.str (T a)))
  gb : r.get "b" = some (.sh (.str (T b)))
  gk : r.get "max_cost" = some (.sh (.int k))
  gp : r.get "pre" = some (.sh (.int (i : Int)))
structure PostI (a b : List Nat) (k : Int) (i : Nat) (r : Rho) : Prop where
  ga : r.get "a" = some (.sh (.str (T a)))
  gb : r.get "b" = some (.sh (.str (T b)))
  gk : r.get "max_cost" = some (.sh (.int k))
  gp : r.get "post" = some (.sh (.int (-(i : Int))))
end Mine
end SM2

/-! M3 -/
noncomputable section SM3
namespace Mine
def Gives (o : Option (Rho × Fl)) (d : D) : Prop := ∃ r', o = some (r', .ret d)
theorem seq_step {f g : Rho → Option (Rho × Fl)} {r : Rho} {d : D} (J : Rho → Prop) (h1 : ∃ r1, f r = some (r1, .next) ∧ J r1) (h2 : ∀ r1, J r1 → Gives (g r1) d) : Gives (seqF f g r) d := by
  obtain ⟨r1, e, j⟩ := h1
  rw [Gives, seqF_next e]
  exact h2 r1 j
theorem seq_gives {f g : Rho → Option (Rho × Fl)} {r : Rho} {d : D} (h1 : Gives (f r) d) : Gives (seqF f g r) d := by
  obtain ⟨r1, e⟩ := h1
  exact ⟨r1, seqF_ret e⟩

def stp (a : List Nat) (bc : Nat) (st : List Int × Int × Int × Int) (i : Nat) : List Int × Int × Int × Int :=
  let sub := st.2.1 + cost (T [bc]) (T [a.getD i 0])
  let d := st.1.getD i 0
  let ins := (if d < st.2.2.1 then d else st.2.2.1) + 2
  let res := if sub < ins then sub else ins
  (st.1.set i res, d, res, if res < st.2.2.2 then res else st.2.2.2)
def ostp (a b : List Nat) (k : Int) (st : List Int × Int) (i : Nat) : (List Int × Int) ⊕ D :=
  let t := (List.range a.length).foldl (stp a (b.getD i 0)) (st.1, (i : Int) * 2, (i : Int) * 2, 9223372036854775807)
  if k < t.2.2.2 then .inr (.int (k + 1)) else .inl (t.1, t.2.2.1)
def levC (a b : List Nat) (k : Int) : Int :=
  match foldE (ostp a b k) ((List.range a.length).map fun (i : Nat) => 2 + (i : Int) * 2, 0) (List.range b.length) with
  | .inl st => st.2
  | .inr (.int v) => v
  | .inr _ => 0
def levB (a b : List Nat) (k : Int) : Int :=
  if a = [] ∨ b = [] then 2 * ((a.length : Int) + b.length)
  else if 40 < a.length ∨ 40 < b.length then k + 1
  else
    let p := if b.length < a.length then (b, a) else (a, b)
    if k < ((p.2.length : Int) - p.1.length) * 2 then k + 1 else levC p.1 p.2 k
def levS (a b : List Nat) : List Nat × List Nat :=
  let p := lcp a b
  let a1 := a.drop p
  let b1 := b.drop p
  let q := lcp a1.reverse b1.reverse
  (a1.take (a1.length - q), b1.take (b1.length - q))
def lev (a b : List Nat) (k : Int) : Int := if a = b then 0 else levB (levS a b).1 (levS a b).2 k

structure InI (a b : List Nat) (k : Int) (bc : Nat) (st : List Int × Int × Int × Int) (r : Rho) : Prop where
  ga : r.get "a" = some (.sh (.str (T a)))
  gb : r.get "b" = some (.sh (.str (T b)))
  gk : r.get "max_cost" = some (.sh (.int k))
  gc : r.get "bchar" = some (.sh (.str (T [bc])))
  grow : r.get "row" = some (.own (st.1.map .int))
  gdist : r.get "distance" = some (.sh (.int st.2.1))
  gres : r.get "result" = some (.sh (.int st.2.2.1))
  gmn : r.get "minimum" = some (.sh (.int st.2.2.2))
  len : st.1.length = a.length
structure OutI (a b : List Nat) (k : Int) (st : List Int × Int) (r : Rho) : Prop where
  ga : r.get "a" = some (.sh (.str (T a)))
  gb : r.get "b" = some (.sh (.str (T b)))
  gk : r.get "max_cost" = some (.sh (.int k))
  grow : r.get "row" = some (.own (st.1.map .int))
  gres : r.get "result" = some (.sh (.int st.2))
  len : st.1.length = a.length
theorem own_idx (l : List Int) (i : Nat) (hi : i < l.length) (hl : l.length ≤ lim) : oIdx (.list (l.map .int)) (.int (i : Int)) = some (.int (l.getD i 0)) := by
  unfold oIdx
  dsimp only
  rw [List.length_map, if_pos hl]
  have e : ¬ ((i : Int) < 0) := by lia
  have : seqIndex? (i : Int) l.length = some i := by
    unfold seqIndex?
    simp only [e, if_false]
    rw [if_pos (by simp; lia)]
    simp
  rw [this]
  simp [hi]
theorem F38_one (x y : Nat) : F38 [.str (T [x]), .str (T [y])] = some (.int (cost (T [x]) (T [y]))) := by
  have hl : lim = 1000000 := lim_eq
  unfold F38
  dsimp only
  rw [if_pos (by rw [T_len, T_len]; simp [hl])]
theorem idx_a (l : List Nat) (i : Nat) (hi : i < l.length) (hl : l.length ≤ lim) : oIdx (.str (T l)) (.int (i : Int)) = some (.str (T [l.getD i 0])) :=
  idx_pos l i _ (by rw [List.getElem?_eq_getElem hi]; simp [hi]) hl
theorem kill_sh (x : Str) (d : D) : Ent.kill x (.sh d) = .sh d := rfl
theorem kill_own (x : Str) (d : List D) : Ent.kill x (.own d) = .own d := rfl

theorem len_T (l : List Nat) (hl : l.length ≤ lim) : oLen [.str (T l)] = some (.int (l.length : Int)) := by
  unfold oLen
  dsimp only
  rw [T_len, if_pos hl]
theorem post_cut (l : List Nat) (j : Nat) (hl : l.length ≤ lim) : ((((oTruth (.int (-(j : Int)))).bind fun t => if t = true then some (D.int (-(j : Int))) else some D.none).bind asPart).bind fun u => oCut (.str (T l)) none u) = some (.str (T (l.take (l.length - j)))) := by
  unfold oTruth
  dsimp only
  by_cases h : j = 0
  · subst h
    simp only [Int.ofNat_eq_natCast, Int.natCast_zero, Int.neg_zero, bne_self_eq_false, Option.bind_some, Bool.false_eq_true, if_false, asPart, cut_ok _ _ _ hl, cut_all, Nat.sub_zero, List.take_length]
  · have : (-(j : Int) != 0) = true := by rw [bne_iff_ne]; lia
    simp only [this, Option.bind_some, if_true, asPart, cut_ok _ _ _ hl, cut_to_neg _ _ (Nat.pos_of_ne_zero h)]
theorem mul_small (a b : Int) (h : -1000000 < a ∧ a < 1000000) : oMul (.int a) (.int b) = some (.int (a * b)) := by
  have := big_eq
  unfold oMul
  dsimp only
  rw [if_pos (by lia)]
theorem range_small (m : Nat) (h : m < 1000000) : oRange (.int (m : Int)) = some ((List.range m).map fun (i : Nat) => .int (0 + (i : Int))) := by
  have := big_eq
  unfold oRange
  dsimp only
  rw [if_pos (by lia)]
  rfl
theorem row_small (m : Nat) (h0 : 0 < m) (h : m ≤ 40) : oRange3 [.int 2, .int (2 * ((m : Int) + 1)), .int 2] = some (((List.range m).map fun (i : Nat) => 2 + (i : Int) * 2).map .int) := by
  have e : Builtin.Range.rangeSize 2 (2 * ((m : Int) + 1)) 2 = m := by
    unfold Builtin.Range.rangeSize
    rw [if_pos (by lia), if_pos (by lia)]
    lia
  have hlim := lim_eq
  unfold oRange3
  dsimp only
  rw [e, if_pos (by lia)]
  unfold rangeD3
  rw [List.map_map]
  simp
theorem levS_len (a b : List Nat) : (levS a b).1.length ≤ a.length ∧ (levS a b).2.length ≤ b.length := by
  unfold levS
  dsimp only
  rw [List.length_take, List.length_take, List.length_drop, List.length_drop]
  omega

theorem seq_for {α : Type} {f g : Rho → Option (Rho × Fl)} {r : Rho} {d : D} (J : α → Rho → Prop) (o : α ⊕ D) (h1 : Ends J (f r) o) (h2 : ∀ y r1, o = .inl y → J y r1 → Gives (g r1) d) (h3 : ∀ v, o = .inr v → v = d) : Gives (seqF f g r) d := by
  cases o with
  | inl y =>
    obtain ⟨r1, e, j⟩ := h1
    rw [Gives, seqF_next e]
    exact h2 y r1 rfl j
  | inr v =>
    obtain ⟨r1, e⟩ := h1
    rw [← h3 v rfl]
    exact ⟨r1, seqF_ret e⟩
theorem ends_step {α : Type} {f g : Rho → Option (Rho × Fl)} {r : Rho} {K : α → Rho → Prop} {o : α ⊕ D} (J : Rho → Prop) (h1 : ∃ r1, f r = some (r1, .next) ∧ J r1) (h2 : ∀ r1, J r1 → Ends K (g r1) o) : Ends K (seqF f g r) o := by
  obtain ⟨r1, e, j⟩ := h1
  rw [seqF_next e]
  exact h2 r1 j
theorem ends_for {α β : Type} {f g : Rho → Option (Rho × Fl)} {r : Rho} {K : β → Rho → Prop} {o : β ⊕ D} (J : α → Rho → Prop) (x : α) (h1 : Ends J (f r) (.inl x)) (h2 : ∀ r1, J x r1 → Ends K (g r1) o) : Ends K (seqF f g r) o :=
  ends_step (J x) h1 h2
theorem foldE_inl {α β : Type} (s : α → β → α) : ∀ (l : List β) (x : α), foldE (fun a b => Sum.inl (s a b)) x l = .inl (l.foldl s x)
  | [], _ => rfl
  | b :: l, x => by
    unfold foldE
    exact foldE_inl s l (s x b)
theorem oMin_two (a b : Int) : oMin [.int a, .int b] = some (.int (if b < a then b else a)) := rfl
structure Mid1 (a b : List Nat) (k : Int) (bc : Nat) (row : List Int) (i : Nat) (r : Rho) : Prop where
  ga : r.get "a" = some (.sh (.str (T a)))
  gb : r.get "b" = some (.sh (.str (T b)))
  gk : r.get "max_cost" = some (.sh (.int k))
  gc : r.get "bchar" = some (.sh (.str (T [bc])))
  grow : r.get "row" = some (.own (row.map .int))
  gi : r.get "bindex" = some (.sh (.int (i : Int)))
  len : row.length = a.length

structure W (a b : List Nat) (k : Int) (bc i : Nat) (row : List Int) (mn dist res : Int) (r : Rho) : Prop where
  ga : r.get "a" = some (.sh (.str (T a)))
  gb : r.get "b" = some (.sh (.str (T b)))
  gk : r.get "max_cost" = some (.sh (.int k))
  gc : r.get "bchar" = some (.sh (.str (T [bc])))
  gi : r.get "index" = some (.sh (.int (i : Int)))
  grow : r.get "row" = some (.own (row.map .int))
  gmn : r.get "minimum" = some (.sh (.int mn))
  gdist : r.get "distance" = some (.sh (.int dist))
  gres : r.get "result" = some (.sh (.int res))
  len : row.length = a.length

theorem lev_gives {P : Params} {c : Cx} (h : CF (KK P) c) (hs : ActL c 1 (fun vs => call (.ref 38) vs) F38) (a b : List Nat) (k : Int) (r0 : Rho) (g1 : r0.get "a" = some (.sh (.str (T a)))) (g2 : r0.get "b" = some (.sh (.str (T b))))
    (g3 : r0.get "max_cost" = some (.sh (.int k))) (ha : a.length ≤ 60) (hb : b.length ≤ 60) : Gives ((T_levenshtein_distance h hs).1 r0) (.int (lev a b k)) := by
  have hlim : lim = 1000000 := lim_eq
  unfold T_levenshtein_distance packT
  dsimp only
  by_cases hab : a = b
  · subst hab
    have : lev a a k = 0 := if_pos rfl
    rw [this]
    refine seq_gives ⟨r0, ?_⟩
    simp [g1, g2, oEq_str, asB, seqF]
  refine seq_step (fun r1 => r1 = r0) ⟨r0, by simp [g1, g2, oEq_str, asB, T_inj, hab], rfl⟩ fun r1 e => ?_
  subst e
  refine seq_step (PreI a b k 0) ⟨_, rfl, ?_⟩ fun r1 I1 => ?_
  · constructor <;> first | exact kp_self _ _ _ | exact kp_any g1 rfl (by decide) | exact kp_any g2 rfl (by decide) | exact kp_any g3 rfl (by decide) | exact kp_any (kp_self _ _ _) rfl (by decide) | exact kp_any (kp_any g1 rfl (by decide)) rfl (by decide) | exact kp_any (kp_any g2 rfl (by decide)) rfl (by decide) | exact kp_any (kp_any g3 rfl (by decide)) rfl (by decide) | (simp (config := {decide := true}) only [get_kp, if_true, if_false, g1, g2, g3, Option.map_some, kill_sh] <;> rfl)
  have la : a.length ≤ lim := by lia
  have lb : b.length ≤ lim := by lia
  refine seq_step (PreI a b k (0 + lcp (a.drop 0) (b.drop 0))) (while_inv (PreI a b k) (agree a b) (· + 1) (fun i => i + lcp (a.drop i) (b.drop i)) (fun i => a.length - i) (fun x r I => ?_) (fun x r I hc => ?_) (fun x hc => ?_) (fun x hc => ?_) (fun x hc => ?_) lim 0 r1 (by lia) I1) fun r2 I2 => ?_
  · have ta := truth_T (a.drop x) (by rw [List.length_drop]; lia)
    have tb := truth_T (b.drop x) (by rw [List.length_drop]; lia)
    simp only [I.ga, I.gb, I.gp, Option.bind_some, asPart, cut_ok _ _ _ la, cut_ok _ _ _ lb, cut_from, ta, tb]
    unfold agree
    by_cases xa : x < a.length
    · have e1 : (a.drop x).isEmpty = false := by rw [List.isEmpty_eq_false_iff]; simp; lia
      by_cases xb : x < b.length
      · have e2 : (b.drop x).isEmpty = false := by rw [List.isEmpty_eq_false_iff]; simp; lia
        simp only [e1, e2, Bool.not_false, if_true, idx_a _ _ xa la, idx_a _ _ xb lb, Option.bind_some, oEq_str, asB]
        rw [List.getElem?_eq_getElem xa, List.getElem?_eq_getElem xb]
        have : (T [a.getD x 0] == T [b.getD x 0]) = (a[x] == b[x]) := by
          rw [Bool.eq_iff_iff, beq_iff_eq, beq_iff_eq, T_inj]
          simp [xa, xb]
        rw [this]
        show _ = some (a[x] == b[x])
        cases (a[x] == b[x]) <;> rfl
      · have e2 : (b.drop x).isEmpty = true := by rw [List.isEmpty_iff]; simp; lia
        simp only [e1, e2, Bool.not_false, Bool.not_true, if_true, Bool.false_eq_true, if_false, Option.bind_some]
        rw [List.getElem?_eq_none (l := b) (by lia)]
        cases a[x]? <;> rfl
    · have e1 : (a.drop x).isEmpty = true := by rw [List.isEmpty_iff]; simp; lia
      simp only [e1, Bool.not_true, Bool.false_eq_true, if_false, Option.bind_some]
      rw [List.getElem?_eq_none (l := a) (by lia)]
  · refine ⟨_, by simp only [seqF, I.gp, Option.bind_some, oAdd]; rfl, ?_⟩
    constructor <;> first | exact kp_self _ _ _ | exact kp_any I.ga rfl (by decide) | exact kp_any I.gb rfl (by decide) | exact kp_any I.gk rfl (by decide) | exact kp_any (kp_self _ _ _) rfl (by decide) | exact kp_any (kp_any I.ga rfl (by decide)) rfl (by decide) | exact kp_any (kp_any I.gb rfl (by decide)) rfl (by decide) | exact kp_any (kp_any I.gk rfl (by decide)) rfl (by decide) | (simp (config := {decide := true}) only [get_kp, if_true, if_false, I.ga, I.gb, I.gk, Option.map_some, kill_sh] <;> rfl)
  · have : x < a.length := by
      unfold agree at hc
      cases hx : a[x]? with
      | none => rw [hx] at hc; cases hc
      | some y => exact (List.getElem?_eq_some_iff.mp hx).1
    lia
  · have := lcp_step a b x
    rw [hc] at this
    simp only [if_true] at this
    show x + _ = x + 1 + _
    lia
  · have := lcp_step a b x
    rw [hc] at this
    simp only [Bool.false_eq_true, if_false] at this
    show x + _ = x
    lia
  rw [Nat.zero_add, List.drop_zero, List.drop_zero] at I2
  have hS : levS a b = ((a.drop (lcp a b)).take ((a.drop (lcp a b)).length - lcp (a.drop (lcp a b)).reverse (b.drop (lcp a b)).reverse), (b.drop (lcp a b)).take ((b.drop (lcp a b)).length - lcp (a.drop (lcp a b)).reverse (b.drop (lcp a b)).reverse)) := rfl
  have hlev : lev a b k = levB (levS a b).1 (levS a b).2 k := if_neg hab
  rw [hlev, hS]
  refine seq_step (PreI (a.drop (lcp a b)) b k (lcp a b)) ⟨_, by simp only [I2.ga, I2.gp, Option.bind_some, asPart, cut_ok _ _ _ la, cut_from]; rfl, ?_⟩ fun r3 I3 => ?_
  · constructor <;> first | exact kp_self _ _ _ | exact kp_any I2.ga rfl (by decide) | exact kp_any I2.gb rfl (by decide) | exact kp_any I2.gk rfl (by decide) | exact kp_any I2.gp rfl (by decide) | exact kp_any (kp_self _ _ _) rfl (by decide) | exact kp_any (kp_any I2.ga rfl (by decide)) rfl (by decide) | exact kp_any (kp_any I2.gb rfl (by decide)) rfl (by decide) | exact kp_any (kp_any I2.gk rfl (by decide)) rfl (by decide) | exact kp_any (kp_any I2.gp rfl (by decide)) rfl (by decide) | (simp (config := {decide := true}) only [get_kp, if_true, if_false, I2.ga, I2.gb, I2.gk, I2.gp, Option.map_some, kill_sh])
  refine seq_step (PreI (a.drop (lcp a b)) (b.drop (lcp a b)) k (lcp a b)) ⟨_, by simp only [I3.gb, I3.gp, Option.bind_some, asPart, cut_ok _ _ _ lb, cut_from]; rfl, ?_⟩ fun r4 I4 => ?_
  · constructor <;> first | exact kp_self _ _ _ | exact kp_any I3.ga rfl (by decide) | exact kp_any I3.gb rfl (by decide) | exact kp_any I3.gk rfl (by decide) | exact kp_any I3.gp rfl (by decide) | exact kp_any (kp_self _ _ _) rfl (by decide) | exact kp_any (kp_any I3.ga rfl (by decide)) rfl (by decide) | exact kp_any (kp_any I3.gb rfl (by decide)) rfl (by decide) | exact kp_any (kp_any I3.gk rfl (by decide)) rfl (by decide) | exact kp_any (kp_any I3.gp rfl (by decide)) rfl (by decide) | (simp (config := {decide := true}) only [get_kp, if_true, if_false, I3.ga, I3.gb, I3.gk, I3.gp, Option.map_some, kill_sh])
  have la1 : (a.drop (lcp a b)).length ≤ 60 := by rw [List.length_drop]; lia
  have lb1 : (b.drop (lcp a b)).length ≤ 60 := by rw [List.length_drop]; lia
  clear I2 I3 g1 g2 g3 hlev hS I1 hab la lb ha hb
  generalize a.drop (lcp a b) = a1 at *
  generalize b.drop (lcp a b) = b1 at *
  have la : a1.length ≤ lim := by lia
  have lb : b1.length ≤ lim := by lia
  refine seq_step (PostI a1 b1 k 0) ⟨_, rfl, ?_⟩ fun r5 I5 => ?_
  · constructor <;> first | exact kp_self _ _ _ | exact kp_any I4.ga rfl (by decide) | exact kp_any I4.gb rfl (by decide) | exact kp_any I4.gk rfl (by decide) | exact kp_any (kp_self _ _ _) rfl (by decide) | exact kp_any (kp_any I4.ga rfl (by decide)) rfl (by decide) | exact kp_any (kp_any I4.gb rfl (by decide)) rfl (by decide) | exact kp_any (kp_any I4.gk rfl (by decide)) rfl (by decide) | (simp (config := {decide := true}) only [get_kp, if_true, if_false, I4.ga, I4.gb, I4.gk, Option.map_some, kill_sh] <;> rfl)
  refine seq_step (PostI a1 b1 k (0 + lcp (a1.reverse.drop 0) (b1.reverse.drop 0))) (while_inv (PostI a1 b1 k) (agree a1.reverse b1.reverse) (· + 1) (fun i => i + lcp (a1.reverse.drop i) (b1.reverse.drop i)) (fun i => a1.length - i) (fun x r I => ?_) (fun x r I hc => ?_) (fun x hc => ?_) (fun x hc => ?_) (fun x hc => ?_) lim 0 r5 (by lia) I5) fun r6 I6 => ?_
  · have ta := truth_T (a1.take (a1.length - x)) (by rw [List.length_take]; omega)
    have tb := truth_T (b1.take (b1.length - x)) (by rw [List.length_take]; omega)
    simp only [I.ga, I.gb, I.gp, Option.bind_some, post_cut _ _ la, post_cut _ _ lb, ta, tb]
    unfold agree
    by_cases xa : x < a1.length
    · have e1 : (a1.take (a1.length - x)).isEmpty = false := by rw [List.isEmpty_eq_false_iff]; intro q; have := congrArg List.length q; rw [List.length_take] at this; simp at this; lia
      have ra : a1.reverse[x]? = some (a1.reverse.getD x 0) := by
        rw [List.getElem?_eq_getElem (by simpa using xa)]; simp [xa]
      by_cases xb : x < b1.length
      · have e2 : (b1.take (b1.length - x)).isEmpty = false := by rw [List.isEmpty_eq_false_iff]; intro q; have := congrArg List.length q; rw [List.length_take] at this; simp at this; lia
        have rb : b1.reverse[x]? = some (b1.reverse.getD x 0) := by
          rw [List.getElem?_eq_getElem (by simpa using xb)]; simp [xb]
        simp only [e1, e2, Bool.not_false, if_true, oSub, Option.bind_some, idx_neg _ _ _ ra la, idx_neg _ _ _ rb lb, oEq_str, asB]
        rw [ra, rb]
        have : (T [a1.reverse.getD x 0] == T [b1.reverse.getD x 0]) = (a1.reverse.getD x 0 == b1.reverse.getD x 0) := by
          rw [Bool.eq_iff_iff, beq_iff_eq, beq_iff_eq, T_inj]
          simp
        rw [this]
        show _ = some (a1.reverse.getD x 0 == b1.reverse.getD x 0)
        cases (a1.reverse.getD x 0 == b1.reverse.getD x 0) <;> rfl
      · have e2 : (b1.take (b1.length - x)).isEmpty = true := by rw [List.isEmpty_iff, List.take_eq_nil_iff]; left; lia
        simp only [e1, e2, Bool.not_false, Bool.not_true, if_true, Bool.false_eq_true, if_false]
        rw [List.getElem?_eq_none (l := b1.reverse) (by simp; lia)]
        cases a1.reverse[x]? <;> rfl
    · have e1 : (a1.take (a1.length - x)).isEmpty = true := by rw [List.isEmpty_iff, List.take_eq_nil_iff]; left; lia
      simp only [e1, Bool.not_true, Bool.false_eq_true, if_false]
      rw [List.getElem?_eq_none (l := a1.reverse) (by simp; lia)]
  · refine ⟨_, by simp only [seqF, I.gp, Option.bind_some, oSub]; rfl, ?_⟩
    constructor <;> first | exact kp_self _ _ _ | exact kp_any I.ga rfl (by decide) | exact kp_any I.gb rfl (by decide) | exact kp_any I.gk rfl (by decide) | exact kp_any (kp_self _ _ _) rfl (by decide) | exact kp_any (kp_any I.ga rfl (by decide)) rfl (by decide) | exact kp_any (kp_any I.gb rfl (by decide)) rfl (by decide) | exact kp_any (kp_any I.gk rfl (by decide)) rfl (by decide) | (simp (config := {decide := true}) only [get_kp, if_true, if_false, I.ga, I.gb, I.gk, Option.map_some, kill_sh])
    congr 3
    lia
  · have : x < a1.reverse.length := by
      unfold agree at hc
      cases hx : a1.reverse[x]? with
      | none => rw [hx] at hc; cases hc
      | some y => exact (List.getElem?_eq_some_iff.mp hx).1
    rw [List.length_reverse] at this
    lia
  · have := lcp_step a1.reverse b1.reverse x
    rw [hc] at this
    simp only [if_true] at this
    show x + _ = x + 1 + _
    lia
  · have := lcp_step a1.reverse b1.reverse x
    rw [hc] at this
    simp only [Bool.false_eq_true, if_false] at this
    show x + _ = x
    lia
  rw [Nat.zero_add, List.drop_zero, List.drop_zero] at I6
  generalize lcp a1.reverse b1.reverse = q at *
  refine seq_step (PostI (a1.take (a1.length - q)) b1 k q) ⟨_, by simp only [I6.ga, I6.gp, Option.bind_some, post_cut _ _ la]; rfl, ?_⟩ fun r7 I7 => ?_
  · constructor <;> first | exact kp_self _ _ _ | exact kp_any I6.ga rfl (by decide) | exact kp_any I6.gb rfl (by decide) | exact kp_any I6.gk rfl (by decide) | exact kp_any I6.gp rfl (by decide) | exact kp_any (kp_self _ _ _) rfl (by decide) | exact kp_any (kp_any I6.ga rfl (by decide)) rfl (by decide) | exact kp_any (kp_any I6.gb rfl (by decide)) rfl (by decide) | exact kp_any (kp_any I6.gk rfl (by decide)) rfl (by decide) | exact kp_any (kp_any I6.gp rfl (by decide)) rfl (by decide) | (simp (config := {decide := true}) only [get_kp, if_true, if_false, I6.ga, I6.gb, I6.gk, I6.gp, Option.map_some, kill_sh])
  refine seq_step (PostI (a1.take (a1.length - q)) (b1.take (b1.length - q)) k q) ⟨_, by simp only [I7.gb, I7.gp, Option.bind_some, post_cut _ _ lb]; rfl, ?_⟩ fun r8 I8 => ?_
  · constructor <;> first | exact kp_self _ _ _ | exact kp_any I7.ga rfl (by decide) | exact kp_any I7.gb rfl (by decide) | exact kp_any I7.gk rfl (by decide) | exact kp_any I7.gp rfl (by decide) | exact kp_any (kp_self _ _ _) rfl (by decide) | exact kp_any (kp_any I7.ga rfl (by decide)) rfl (by decide) | exact kp_any (kp_any I7.gb rfl (by decide)) rfl (by decide) | exact kp_any (kp_any I7.gk rfl (by decide)) rfl (by decide) | exact kp_any (kp_any I7.gp rfl (by decide)) rfl (by decide) | (simp (config := {decide := true}) only [get_kp, if_true, if_false, I7.ga, I7.gb, I7.gk, I7.gp, Option.map_some, kill_sh])
  have la2 : (a1.take (a1.length - q)).length ≤ 60 := by rw [List.length_take]; omega
  have lb2 : (b1.take (b1.length - q)).length ≤ 60 := by rw [List.length_take]; omega
  dsimp only
  generalize a1.take (a1.length - q) = a2 at *
  generalize b1.take (b1.length - q) = b2 at *
  clear I6 I7 I5 I4 la1 lb1 la lb
  have la : a2.length ≤ lim := by lia
  have lb : b2.length ≤ lim := by lia
  have ta := truth_T a2 la
  have tb := truth_T b2 lb
  by_cases hE : a2 = [] ∨ b2 = []
  · have : levB a2 b2 k = 2 * ((a2.length : Int) + b2.length) := if_pos hE
    rw [this]
    refine seq_gives ⟨r8, ?_⟩
    have hc : (a2.isEmpty || b2.isEmpty) = true := by
      rcases hE with h | h
      · subst h; rfl
      · subst h; simp
    have hm := mul_small 2 ((a2.length : Int) + b2.length) (by lia)
    cases hA : a2.isEmpty with
    | true => simp only [I8.ga, I8.gb, ta, tb, hA, Option.bind_some, Option.map_some, Bool.not_true, Bool.not_false, if_true, len_T _ la, len_T _ lb, oAdd, hm, seqF]
    | false =>
      have hB : b2.isEmpty = true := by rw [hA] at hc; exact hc
      simp only [I8.ga, I8.gb, ta, tb, hA, hB, Option.bind_some, Option.map_some, Bool.not_true, Bool.not_false, Bool.false_eq_true, if_false, if_true, len_T _ la, len_T _ lb, oAdd, hm, seqF]
  have hA : a2.isEmpty = false := by rw [List.isEmpty_eq_false_iff]; exact fun h => hE (.inl h)
  have hB : b2.isEmpty = false := by rw [List.isEmpty_eq_false_iff]; exact fun h => hE (.inr h)
  refine seq_step (PostI a2 b2 k q) ⟨r8, by simp only [I8.ga, I8.gb, ta, tb, hA, hB, Option.bind_some, Option.map_some, Bool.not_true, Bool.not_false, Bool.false_eq_true, if_false], I8⟩ fun r9 I9 => ?_
  clear I8 ta tb
  by_cases hL : 40 < a2.length ∨ 40 < b2.length
  · have : levB a2 b2 k = k + 1 := (if_neg hE).trans (if_pos hL)
    rw [this]
    refine seq_gives ⟨r9, ?_⟩
    by_cases h1 : 40 < a2.length
    · have : decide ((40 : Int) < a2.length) = true := by rw [decide_eq_true_eq]; lia
      simp only [I9.ga, I9.gb, I9.gk, Option.bind_some, len_T _ la, len_T _ lb, oGt, this, asB, if_true, oAdd, seqF]
    · have e1 : decide ((40 : Int) < a2.length) = false := by rw [decide_eq_false_iff_not]; lia
      have e2 : decide ((40 : Int) < b2.length) = true := by rw [decide_eq_true_eq]; lia
      simp only [I9.ga, I9.gb, I9.gk, Option.bind_some, len_T _ la, len_T _ lb, oGt, e1, e2, asB, Bool.false_eq_true, if_false, if_true, oAdd, seqF]
  refine seq_step (PostI a2 b2 k q) ⟨r9, by
    have e1 : decide ((40 : Int) < a2.length) = false := by rw [decide_eq_false_iff_not]; lia
    have e2 : decide ((40 : Int) < b2.length) = false := by rw [decide_eq_false_iff_not]; lia
    simp only [I9.ga, I9.gb, I9.gk, Option.bind_some, len_T _ la, len_T _ lb, oGt, e1, e2, asB, Bool.false_eq_true, if_false], I9⟩ fun r10 I10 => ?_
  clear I9
  have hlevB : levB a2 b2 k = (let p := if b2.length < a2.length then (b2, a2) else (a2, b2); if k < ((p.2.length : Int) - p.1.length) * 2 then k + 1 else levC p.1 p.2 k) := (if_neg hE).trans (if_neg hL)
  rw [hlevB]
  refine seq_step (fun r => PostI (if b2.length < a2.length then (b2, a2) else (a2, b2)).1 (if b2.length < a2.length then (b2, a2) else (a2, b2)).2 k q r) ?_ fun r11 I11 => ?_
  · by_cases hs : b2.length < a2.length
    · have e1 : decide ((b2.length : Int) < a2.length) = true := by rw [decide_eq_true_eq]; lia
      rw [if_pos hs]
      refine ⟨_, by simp only [I10.ga, I10.gb, Option.bind_some, len_T _ la, len_T _ lb, oLt, e1, asB, if_true, seqF]; rfl, ?_⟩
      constructor <;> first | exact kp_self _ _ _ | exact kp_any I10.ga rfl (by decide) | exact kp_any I10.gb rfl (by decide) | exact kp_any I10.gk rfl (by decide) | exact kp_any I10.gp rfl (by decide) | exact kp_any (kp_self _ _ _) rfl (by decide) | exact kp_any (kp_any I10.ga rfl (by decide)) rfl (by decide) | exact kp_any (kp_any I10.gb rfl (by decide)) rfl (by decide) | exact kp_any (kp_any I10.gk rfl (by decide)) rfl (by decide) | exact kp_any (kp_any I10.gp rfl (by decide)) rfl (by decide) | (simp (config := {decide := true}) only [get_kp, if_true, if_false, I10.ga, I10.gb, I10.gk, I10.gp, Option.map_some, kill_sh])
    · have e1 : decide ((b2.length : Int) < a2.length) = false := by rw [decide_eq_false_iff_not]; lia
      rw [if_neg hs]
      exact ⟨r10, by simp only [I10.ga, I10.gb, Option.bind_some, len_T _ la, len_T _ lb, oLt, e1, asB, Bool.false_eq_true, if_false], I10⟩
  dsimp only
  have hne : 0 < (if b2.length < a2.length then (b2, a2) else (a2, b2)).1.length ∧ (if b2.length < a2.length then (b2, a2) else (a2, b2)).1.length ≤ 40 ∧ (if b2.length < a2.length then (b2, a2) else (a2, b2)).2.length ≤ 40 := by
    have p1 : 0 < a2.length := List.length_pos_iff.mpr fun h => hE (.inl h)
    have p2 : 0 < b2.length := List.length_pos_iff.mpr fun h => hE (.inr h)
    split <;> dsimp only <;> lia
  generalize (if b2.length < a2.length then (b2, a2) else (a2, b2)) = ab at *
  obtain ⟨a3, b3⟩ := ab
  dsimp only at *
  clear I10 hlevB la lb hA hB hE hL la2 lb2
  obtain ⟨n0, n1, n2⟩ := hne
  have la : a3.length ≤ lim := by lia
  have lb : b3.length ≤ lim := by lia
  have hm := mul_small ((b3.length : Int) - a3.length) 2 (by lia)
  by_cases hk : k < ((b3.length : Int) - a3.length) * 2
  · rw [if_pos hk]
    refine seq_gives ⟨r11, ?_⟩
    simp only [I11.ga, I11.gb, I11.gk, Option.bind_some, len_T _ la, len_T _ lb, oSub, hm, oGt, decide_eq_true hk, asB, if_true, oAdd, seqF]
  rw [if_neg hk]
  refine seq_step (PostI a3 b3 k q) ⟨r11, by simp only [I11.ga, I11.gb, I11.gk, Option.bind_some, len_T _ la, len_T _ lb, oSub, hm, oGt, decide_eq_false hk, asB, Bool.false_eq_true, if_false], I11⟩ fun r12 I12 => ?_
  clear I11 hm
  have hm := mul_small 2 ((a3.length : Int) + 1) (by lia)
  have hrow := row_small a3.length n0 n1
  refine seq_step (fun r => PostI a3 b3 k q r ∧ r.get "row" = some (.own (((List.range a3.length).map fun (i : Nat) => 2 + (i : Int) * 2).map .int)))
    ⟨_, by simp only [I12.ga, Option.bind_some, len_T _ la, oAdd, hm, hrow]; rfl, ?_⟩ fun r13 I13 => ?_
  · refine ⟨?_, ?_⟩
    · constructor <;> first | exact kp_self _ _ _ | exact kp_any I12.ga rfl (by decide) | exact kp_any I12.gb rfl (by decide) | exact kp_any I12.gk rfl (by decide) | exact kp_any I12.gp rfl (by decide) | exact kp_any (kp_self _ _ _) rfl (by decide) | exact kp_any (kp_any I12.ga rfl (by decide)) rfl (by decide) | exact kp_any (kp_any I12.gb rfl (by decide)) rfl (by decide) | exact kp_any (kp_any I12.gk rfl (by decide)) rfl (by decide) | exact kp_any (kp_any I12.gp rfl (by decide)) rfl (by decide) | (simp (config := {decide := true}) only [get_kp, if_true, if_false, I12.ga, I12.gb, I12.gk, I12.gp, Option.map_some, kill_sh])
    · simp only [get_kp, if_true]
  obtain ⟨I13, g13⟩ := I13
  clear hrow hm I12
  refine seq_step (OutI a3 b3 k ((List.range a3.length).map fun (i : Nat) => 2 + (i : Int) * 2, 0)) ⟨_, rfl, ?_⟩ fun r14 I14 => ?_
  · constructor <;> first | exact kp_self _ _ _ | exact kp_any I13.ga rfl (by decide) | exact kp_any I13.gb rfl (by decide) | exact kp_any I13.gk rfl (by decide) | exact kp_any g13 rfl (by decide) | exact kp_any (kp_self _ _ _) rfl (by decide) | exact kp_any (kp_any I13.ga rfl (by decide)) rfl (by decide) | exact kp_any (kp_any I13.gb rfl (by decide)) rfl (by decide) | exact kp_any (kp_any I13.gk rfl (by decide)) rfl (by decide) | exact kp_any (kp_any g13 rfl (by decide)) rfl (by decide) | (simp (config := {decide := true}) only [get_kp, if_true, if_false, I13.ga, I13.gb, I13.gk, g13, Option.map_some, kill_sh, kill_own, List.length_map, List.length_range])
  clear I13 g13
  refine seq_for (OutI a3 b3 k) (foldE (ostp a3 b3 k) ((List.range a3.length).map fun (i : Nat) => 2 + (i : Int) * 2, 0) (List.range b3.length)) ?_ (fun y r1 e J => ?_) fun v e => ?_
  · simp only [I14.gb, Option.bind_some, len_T _ lb, range_small b3.length (by omega)]
    refine for_inv (OutI a3 b3 k) (fun (i : Nat) => D.int (0 + (i : Int))) (fun i => i < b3.length) (ostp a3 b3 k) (fun st d r I hd => ?_) (List.range b3.length) _ r14 (fun d hd => List.mem_range.mp hd) I14
    rw [Int.zero_add]
    have hrl : st.1.length ≤ lim := by have := I.len; lia
    refine ends_step (Mid1 a3 b3 k (b3.getD d 0) st.1 d) ⟨_, by simp (config := {decide := true}) only [get_kp, if_true, if_false, I.gb, Option.map_some, kill_sh, Option.bind_some, idx_a _ _ hd lb]; rfl, ?_⟩ fun r1 J1 => ?_
    · constructor <;> first | exact kp_self _ _ _ | exact kp_any I.ga rfl (by decide) | exact kp_any I.gb rfl (by decide) | exact kp_any I.gk rfl (by decide) | exact kp_any I.grow rfl (by decide) | exact kp_any I.len rfl (by decide) | exact I.len | exact kp_any (kp_self _ _ _) rfl (by decide) | exact kp_any (kp_any I.ga rfl (by decide)) rfl (by decide) | exact kp_any (kp_any I.gb rfl (by decide)) rfl (by decide) | exact kp_any (kp_any I.gk rfl (by decide)) rfl (by decide) | exact kp_any (kp_any I.grow rfl (by decide)) rfl (by decide) | exact kp_any (kp_any I.len rfl (by decide)) rfl (by decide) | (simp (config := {decide := true}) only [get_kp, if_true, if_false, I.ga, I.gb, I.gk, I.grow, I.len, Option.map_some, kill_sh, kill_own])
    have hm2 := mul_small (d : Int) 2 (by lia)
    refine ends_step (fun r => Mid1 a3 b3 k (b3.getD d 0) st.1 d r ∧ r.get "distance" = some (.sh (.int ((d : Int) * 2))) ∧ r.get "result" = some (.sh (.int ((d : Int) * 2)))) ⟨_, by simp only [J1.gi, Option.bind_some, hm2, flat?]; rfl, ?_⟩ fun r2 J2 => ?_
    · refine ⟨?_, ?_, ?_⟩
      · constructor <;> first | exact kp_self _ _ _ | exact kp_any J1.ga rfl (by decide) | exact kp_any J1.gb rfl (by decide) | exact kp_any J1.gk rfl (by decide) | exact kp_any J1.gc rfl (by decide) | exact kp_any J1.grow rfl (by decide) | exact kp_any J1.gi rfl (by decide) | exact kp_any J1.len rfl (by decide) | exact J1.len | exact kp_any (kp_self _ _ _) rfl (by decide) | exact kp_any (kp_any J1.ga rfl (by decide)) rfl (by decide) | exact kp_any (kp_any J1.gb rfl (by decide)) rfl (by decide) | exact kp_any (kp_any J1.gk rfl (by decide)) rfl (by decide) | exact kp_any (kp_any J1.gc rfl (by decide)) rfl (by decide) | exact kp_any (kp_any J1.grow rfl (by decide)) rfl (by decide) | exact kp_any (kp_any J1.gi rfl (by decide)) rfl (by decide) | exact kp_any (kp_any J1.len rfl (by decide)) rfl (by decide) | (simp (config := {decide := true}) only [get_kp, if_true, if_false, J1.ga, J1.gb, J1.gk, J1.gc, J1.grow, J1.gi, J1.len, Option.map_some, kill_sh, kill_own])
      · simp (config := {decide := true}) only [get_kp, if_true, if_false, Option.map_some, kill_sh]
      · simp (config := {decide := true}) only [get_kp, if_true, if_false, Option.map_some, kill_sh]
    refine ends_step (InI a3 b3 k (b3.getD d 0) (st.1, (d : Int) * 2, (d : Int) * 2, 9223372036854775807)) ⟨_, rfl, ?_⟩ fun r3 J3 => ?_
    · constructor <;> first | exact kp_self _ _ _ | exact kp_any J2.1.ga rfl (by decide) | exact kp_any J2.1.gb rfl (by decide) | exact kp_any J2.1.gk rfl (by decide) | exact kp_any J2.1.gc rfl (by decide) | exact kp_any J2.1.grow rfl (by decide) | exact kp_any J2.2.1 rfl (by decide) | exact kp_any J2.2.2 rfl (by decide) | exact kp_any J2.1.len rfl (by decide) | exact J2.1.len | exact kp_any (kp_self _ _ _) rfl (by decide) | exact kp_any (kp_any J2.1.ga rfl (by decide)) rfl (by decide) | exact kp_any (kp_any J2.1.gb rfl (by decide)) rfl (by decide) | exact kp_any (kp_any J2.1.gk rfl (by decide)) rfl (by decide) | exact kp_any (kp_any J2.1.gc rfl (by decide)) rfl (by decide) | exact kp_any (kp_any J2.1.grow rfl (by decide)) rfl (by decide) | exact kp_any (kp_any J2.2.1 rfl (by decide)) rfl (by decide) | exact kp_any (kp_any J2.2.2 rfl (by decide)) rfl (by decide) | exact kp_any (kp_any J2.1.len rfl (by decide)) rfl (by decide) | (simp (config := {decide := true}) only [get_kp, if_true, if_false, J2.1.ga, J2.1.gb, J2.1.gk, J2.1.gc, J2.1.grow, J2.2.1, J2.2.2, J2.1.len, Option.map_some, kill_sh, kill_own])
    clear J2 J1
    refine ends_for (InI a3 b3 k (b3.getD d 0)) ((List.range a3.length).foldl (stp a3 (b3.getD d 0)) (st.1, (d : Int) * 2, (d : Int) * 2, 9223372036854775807)) ?_ fun r4 J4 => ?_
    · simp only [J3.ga, Option.bind_some, len_T _ la, range_small a3.length (by lia)]
      rw [← foldE_inl]
      refine for_inv (InI a3 b3 k (b3.getD d 0)) (fun (i : Nat) => D.int (0 + (i : Int))) (fun i => i < a3.length) _ (fun st i r I hi => ?_) (List.range a3.length) _ r3 (fun d hd => List.mem_range.mp hd) J3
      rw [Int.zero_add]
      obtain ⟨row, dist, res, mn⟩ := st
      have hrow : i < row.length := by have := I.len; dsimp only at this; lia
      have hrl : row.length ≤ lim := by have := I.len; dsimp only at this; lia
      have hst : stp a3 (b3.getD d 0) (row, dist, res, mn) i = (row.set i (if dist + cost (T [b3.getD d 0]) (T [a3.getD i 0]) < (if row.getD i 0 < res then row.getD i 0 else res) + 2 then dist + cost (T [b3.getD d 0]) (T [a3.getD i 0]) else (if row.getD i 0 < res then row.getD i 0 else res) + 2), row.getD i 0,
        (if dist + cost (T [b3.getD d 0]) (T [a3.getD i 0]) < (if row.getD i 0 < res then row.getD i 0 else res) + 2 then dist + cost (T [b3.getD d 0]) (T [a3.getD i 0]) else (if row.getD i 0 < res then row.getD i 0 else res) + 2),
        if (if dist + cost (T [b3.getD d 0]) (T [a3.getD i 0]) < (if row.getD i 0 < res then row.getD i 0 else res) + 2 then dist + cost (T [b3.getD d 0]) (T [a3.getD i 0]) else (if row.getD i 0 < res then row.getD i 0 else res) + 2) < mn then
          (if dist + cost (T [b3.getD d 0]) (T [a3.getD i 0]) < (if row.getD i 0 < res then row.getD i 0 else res) + 2 then dist + cost (T [b3.getD d 0]) (T [a3.getD i 0]) else (if row.getD i 0 < res then row.getD i 0 else res) + 2) else mn) := rfl
      rw [hst]
      clear hst
      generalize hsub : dist + cost (T [b3.getD d 0]) (T [a3.getD i 0]) = sub
      generalize hd' : row.getD i 0 = dist'
      generalize hins : (if dist' < res then dist' else res) + 2 = ins
      generalize hres : (if sub < ins then sub else ins) = res'
      have hlen0 : row.length = a3.length := I.len
      have I0 : W a3 b3 k (b3.getD d 0) i row mn dist res ((r.kill "index").put "index" (.sh (.int (i : Int)))) := by
        constructor <;> first | exact kp_self _ _ _ | exact kp_any I.ga rfl (by decide) | exact kp_any I.gb rfl (by decide) | exact kp_any I.gk rfl (by decide) | exact kp_any I.gc rfl (by decide) | exact kp_any I.grow rfl (by decide) | exact kp_any I.gmn rfl (by decide) | exact kp_any I.gdist rfl (by decide) | exact kp_any I.gres rfl (by decide) | exact kp_any hlen0 rfl (by decide) | exact hlen0 | exact kp_any (kp_self _ _ _) rfl (by decide) | exact kp_any (kp_any I.ga rfl (by decide)) rfl (by decide) | exact kp_any (kp_any I.gb rfl (by decide)) rfl (by decide) | exact kp_any (kp_any I.gk rfl (by decide)) rfl (by decide) | exact kp_any (kp_any I.gc rfl (by decide)) rfl (by decide) | exact kp_any (kp_any I.grow rfl (by decide)) rfl (by decide) | exact kp_any (kp_any I.gmn rfl (by decide)) rfl (by decide) | exact kp_any (kp_any I.gdist rfl (by decide)) rfl (by decide) | exact kp_any (kp_any I.gres rfl (by decide)) rfl (by decide) | exact kp_any (kp_any hlen0 rfl (by decide)) rfl (by decide) | (simp (config := {decide := true}) only [get_kp, if_true, if_false, I.ga, I.gb, I.gk, I.gc, I.grow, I.gmn, I.gdist, I.gres, hlen0, Option.map_some, kill_sh, kill_own])
      generalize (r.kill "index").put "index" (.sh (.int (i : Int))) = q0 at I0
      clear I
      refine ends_step (fun r => W a3 b3 k (b3.getD d 0) i row mn dist res r ∧ r.get "substitute" = some (.sh (.int sub))) ⟨_, by simp only [I0.gdist, I0.gc, I0.ga, I0.gi, Option.bind_some, idx_a _ _ hi la, F38_one, oAdd, hsub]; rfl, ?_⟩ fun q1 J1 => ?_
      · refine ⟨?_, ?_⟩
        · constructor <;> first | exact kp_self _ _ _ | exact kp_any I0.ga rfl (by decide) | exact kp_any I0.gb rfl (by decide) | exact kp_any I0.gk rfl (by decide) | exact kp_any I0.gc rfl (by decide) | exact kp_any I0.gi rfl (by decide) | exact kp_any I0.grow rfl (by decide) | exact kp_any I0.gmn rfl (by decide) | exact kp_any I0.gdist rfl (by decide) | exact kp_any I0.gres rfl (by decide) | exact kp_any I0.len rfl (by decide) | exact I0.len | exact kp_any (kp_self _ _ _) rfl (by decide) | exact kp_any (kp_any I0.ga rfl (by decide)) rfl (by decide) | exact kp_any (kp_any I0.gb rfl (by decide)) rfl (by decide) | exact kp_any (kp_any I0.gk rfl (by decide)) rfl (by decide) | exact kp_any (kp_any I0.gc rfl (by decide)) rfl (by decide) | exact kp_any (kp_any I0.gi rfl (by decide)) rfl (by decide) | exact kp_any (kp_any I0.grow rfl (by decide)) rfl (by decide) | exact kp_any (kp_any I0.gmn rfl (by decide)) rfl (by decide) | exact kp_any (kp_any I0.gdist rfl (by decide)) rfl (by decide) | exact kp_any (kp_any I0.gres rfl (by decide)) rfl (by decide) | exact kp_any (kp_any I0.len rfl (by decide)) rfl (by decide) | (simp (config := {decide := true}) only [get_kp, if_true, if_false, I0.ga, I0.gb, I0.gk, I0.gc, I0.gi, I0.grow, I0.gmn, I0.gdist, I0.gres, I0.len, Option.map_some, kill_sh, kill_own])
        · simp only [get_kp, if_true]
      obtain ⟨I1, s1⟩ := J1
      refine ends_step (fun r => W a3 b3 k (b3.getD d 0) i row mn dist' res r ∧ r.get "substitute" = some (.sh (.int sub))) ⟨_, by simp only [I1.grow, I1.gi, Option.bind_some, own_idx _ _ hrow hrl, hd', flat?]; rfl, ?_⟩ fun q2 J2 => ?_
      · refine ⟨?_, ?_⟩
        · constructor <;> first | exact kp_self _ _ _ | exact kp_any I1.ga rfl (by decide) | exact kp_any I1.gb rfl (by decide) | exact kp_any I1.gk rfl (by decide) | exact kp_any I1.gc rfl (by decide) | exact kp_any I1.gi rfl (by decide) | exact kp_any I1.grow rfl (by decide) | exact kp_any I1.gmn rfl (by decide) | exact kp_any I1.gdist rfl (by decide) | exact kp_any I1.gres rfl (by decide) | exact kp_any I1.len rfl (by decide) | exact I1.len | exact kp_any (kp_self _ _ _) rfl (by decide) | exact kp_any (kp_any I1.ga rfl (by decide)) rfl (by decide) | exact kp_any (kp_any I1.gb rfl (by decide)) rfl (by decide) | exact kp_any (kp_any I1.gk rfl (by decide)) rfl (by decide) | exact kp_any (kp_any I1.gc rfl (by decide)) rfl (by decide) | exact kp_any (kp_any I1.gi rfl (by decide)) rfl (by decide) | exact kp_any (kp_any I1.grow rfl (by decide)) rfl (by decide) | exact kp_any (kp_any I1.gmn rfl (by decide)) rfl (by decide) | exact kp_any (kp_any I1.gdist rfl (by decide)) rfl (by decide) | exact kp_any (kp_any I1.gres rfl (by decide)) rfl (by decide) | exact kp_any (kp_any I1.len rfl (by decide)) rfl (by decide) | (simp (config := {decide := true}) only [get_kp, if_true, if_false, I1.ga, I1.gb, I1.gk, I1.gc, I1.gi, I1.grow, I1.gmn, I1.gdist, I1.gres, I1.len, Option.map_some, kill_sh, kill_own])
        · simp (config := {decide := true}) only [get_kp, if_true, if_false, s1, Option.map_some, kill_sh]
      obtain ⟨I2, s2⟩ := J2
      refine ends_step (fun r => W a3 b3 k (b3.getD d 0) i row mn dist' res r ∧ r.get "substitute" = some (.sh (.int sub)) ∧ r.get "insert_delete" = some (.sh (.int ins))) ⟨_, by simp only [I2.gres, I2.gdist, Option.bind_some, oMin_two, oAdd, hins]; rfl, ?_⟩ fun q3 J3' => ?_
      · refine ⟨?_, ?_, ?_⟩
        · constructor <;> first | exact kp_self _ _ _ | exact kp_any I2.ga rfl (by decide) | exact kp_any I2.gb rfl (by decide) | exact kp_any I2.gk rfl (by decide) | exact kp_any I2.gc rfl (by decide) | exact kp_any I2.gi rfl (by decide) | exact kp_any I2.grow rfl (by decide) | exact kp_any I2.gmn rfl (by decide) | exact kp_any I2.gdist rfl (by decide) | exact kp_any I2.gres rfl (by decide) | exact kp_any I2.len rfl (by decide) | exact I2.len | exact kp_any (kp_self _ _ _) rfl (by decide) | exact kp_any (kp_any I2.ga rfl (by decide)) rfl (by decide) | exact kp_any (kp_any I2.gb rfl (by decide)) rfl (by decide) | exact kp_any (kp_any I2.gk rfl (by decide)) rfl (by decide) | exact kp_any (kp_any I2.gc rfl (by decide)) rfl (by decide) | exact kp_any (kp_any I2.gi rfl (by decide)) rfl (by decide) | exact kp_any (kp_any I2.grow rfl (by decide)) rfl (by decide) | exact kp_any (kp_any I2.gmn rfl (by decide)) rfl (by decide) | exact kp_any (kp_any I2.gdist rfl (by decide)) rfl (by decide) | exact kp_any (kp_any I2.gres rfl (by decide)) rfl (by decide) | exact kp_any (kp_any I2.len rfl (by decide)) rfl (by decide) | (simp (config := {decide := true}) only [get_kp, if_true, if_false, I2.ga, I2.gb, I2.gk, I2.gc, I2.gi, I2.grow, I2.gmn, I2.gdist, I2.gres, I2.len, Option.map_some, kill_sh, kill_own])
        · simp (config := {decide := true}) only [get_kp, if_true, if_false, s2, Option.map_some, kill_sh]
        · simp (config := {decide := true}) only [get_kp, if_true]
      obtain ⟨I3, s3, i3⟩ := J3'
      refine ends_step (W a3 b3 k (b3.getD d 0) i row mn dist' res') ⟨_, by simp only [i3, s3, Option.bind_some, oMin_two, hres]; rfl, ?_⟩ fun q4 I4 => ?_
      · constructor <;> first | exact kp_self _ _ _ | exact kp_any I3.ga rfl (by decide) | exact kp_any I3.gb rfl (by decide) | exact kp_any I3.gk rfl (by decide) | exact kp_any I3.gc rfl (by decide) | exact kp_any I3.gi rfl (by decide) | exact kp_any I3.grow rfl (by decide) | exact kp_any I3.gmn rfl (by decide) | exact kp_any I3.gdist rfl (by decide) | exact kp_any I3.gres rfl (by decide) | exact kp_any I3.len rfl (by decide) | exact I3.len | exact kp_any (kp_self _ _ _) rfl (by decide) | exact kp_any (kp_any I3.ga rfl (by decide)) rfl (by decide) | exact kp_any (kp_any I3.gb rfl (by decide)) rfl (by decide) | exact kp_any (kp_any I3.gk rfl (by decide)) rfl (by decide) | exact kp_any (kp_any I3.gc rfl (by decide)) rfl (by decide) | exact kp_any (kp_any I3.gi rfl (by decide)) rfl (by decide) | exact kp_any (kp_any I3.grow rfl (by decide)) rfl (by decide) | exact kp_any (kp_any I3.gmn rfl (by decide)) rfl (by decide) | exact kp_any (kp_any I3.gdist rfl (by decide)) rfl (by decide) | exact kp_any (kp_any I3.gres rfl (by decide)) rfl (by decide) | exact kp_any (kp_any I3.len rfl (by decide)) rfl (by decide) | (simp (config := {decide := true}) only [get_kp, if_true, if_false, I3.ga, I3.gb, I3.gk, I3.gc, I3.gi, I3.grow, I3.gmn, I3.gdist, I3.gres, I3.len, Option.map_some, kill_sh, kill_own])
      have hcond : 0 ≤ (i : Int) ∧ (i : Int) < ((row.map D.int).length : Int) ∧ (row.map D.int).length ≤ lim := by rw [List.length_map]; lia
      refine ends_step (W a3 b3 k (b3.getD d 0) i (row.set i res') mn dist' res') ⟨_, by simp only [I4.gres, Option.bind_some, getOwn, I4.grow, I4.gi, if_pos hcond, Int.toNat_natCast]; rfl, ?_⟩ fun q5 I5 => ?_
      · constructor <;> first | exact pt_self _ _ _ | exact pt_any I4.ga (by decide) | exact pt_any I4.gb (by decide) | exact pt_any I4.gk (by decide) | exact pt_any I4.gc (by decide) | exact pt_any I4.gi (by decide) | exact pt_any I4.grow (by decide) | exact pt_any I4.gmn (by decide) | exact pt_any I4.gdist (by decide) | exact pt_any I4.gres (by decide) | exact pt_any I4.len (by decide) | exact I4.len | (simp (config := {decide := true}) only [Rho.get_put, if_true, if_false, I4.ga, I4.gb, I4.gk, I4.gc, I4.gi, I4.grow, I4.gmn, I4.gdist, I4.gres, I4.len, List.length_set, List.map_set])
      by_cases hm : res' < mn
      · rw [if_pos hm]
        refine ⟨_, by simp only [seqF, I5.gres, I5.gmn, Option.bind_some, oLt, decide_eq_true hm, asB, if_true]; rfl, ?_⟩
        constructor <;> first | exact kp_self _ _ _ | exact kp_any I5.ga rfl (by decide) | exact kp_any I5.gb rfl (by decide) | exact kp_any I5.gk rfl (by decide) | exact kp_any I5.gc rfl (by decide) | exact kp_any I5.gi rfl (by decide) | exact kp_any I5.grow rfl (by decide) | exact kp_any I5.gmn rfl (by decide) | exact kp_any I5.gdist rfl (by decide) | exact kp_any I5.gres rfl (by decide) | exact kp_any I5.len rfl (by decide) | exact I5.len | exact kp_any (kp_self _ _ _) rfl (by decide) | exact kp_any (kp_any I5.ga rfl (by decide)) rfl (by decide) | exact kp_any (kp_any I5.gb rfl (by decide)) rfl (by decide) | exact kp_any (kp_any I5.gk rfl (by decide)) rfl (by decide) | exact kp_any (kp_any I5.gc rfl (by decide)) rfl (by decide) | exact kp_any (kp_any I5.gi rfl (by decide)) rfl (by decide) | exact kp_any (kp_any I5.grow rfl (by decide)) rfl (by decide) | exact kp_any (kp_any I5.gmn rfl (by decide)) rfl (by decide) | exact kp_any (kp_any I5.gdist rfl (by decide)) rfl (by decide) | exact kp_any (kp_any I5.gres rfl (by decide)) rfl (by decide) | exact kp_any (kp_any I5.len rfl (by decide)) rfl (by decide) | (simp (config := {decide := true}) only [get_kp, if_true, if_false, I5.ga, I5.gb, I5.gk, I5.gc, I5.gi, I5.grow, I5.gmn, I5.gdist, I5.gres, I5.len, Option.map_some, kill_sh, kill_own])
      · rw [if_neg hm]
        exact ⟨q5, by simp only [seqF, I5.gres, I5.gmn, Option.bind_some, oLt, decide_eq_false hm, asB, Bool.false_eq_true, if_false], ⟨I5.ga, I5.gb, I5.gk, I5.gc, I5.grow, I5.gdist, I5.gres, I5.gmn, I5.len⟩⟩
    unfold ostp
    dsimp only
    generalize (List.range a3.length).foldl (stp a3 (b3.getD d 0)) (st.1, (d : Int) * 2, (d : Int) * 2, 9223372036854775807) = t at *
    by_cases hmn : k < t.2.2.2
    · rw [if_pos hmn]
      refine ⟨r4, ?_⟩
      simp only [seqF, J4.gmn, J4.gk, Option.bind_some, oGt, decide_eq_true hmn, asB, if_true, oAdd]
    · rw [if_neg hmn]
      refine ⟨r4, ?_, ⟨J4.ga, J4.gb, J4.gk, J4.grow, J4.gres, J4.len⟩⟩
      simp only [seqF, J4.gmn, J4.gk, Option.bind_some, oGt, decide_eq_false hmn, asB, Bool.false_eq_true, if_false]
  · have : levC a3 b3 k = y.2 := by unfold levC; rw [e]
    rw [this]
    refine ⟨r1, ?_⟩
    simp only [seqF, J.gres, Option.bind_some]
  · have hv : ∃ i : Int, v = .int i := by
      have : ∀ (l : List Nat) (st : List Int × Int), foldE (ostp a3 b3 k) st l = .inr v → ∃ i : Int, v = .int i := by
        intro l
        induction l with
        | nil => intro st h; cases h
        | cons d l ih =>
          intro st h
          unfold foldE at h
          cases hs : ostp a3 b3 k st d with
          | inl y => rw [hs] at h; exact ih y h
          | inr u =>
            rw [hs] at h
            cases h
            unfold ostp at hs
            dsimp only at hs
            split at hs
            · cases hs; exact ⟨_, rfl⟩
            · cases hs
      exact this _ _ e
    obtain ⟨i, rfl⟩ := hv
    unfold levC
    rw [e]
end Mine
end SM3

/-! Lv1 -/
namespace Mine
/-! ### the distance of two words -/
def dRow (f : List Nat → Int) (n : Int) (cx : Nat → Int) : List Nat → Int
  | [] => n
  | y :: b => min (f b + cx y) (min (f (y :: b) + 2) (dRow f n cx b + 2))
def dR (c : Nat → Nat → Int) : List Nat → List Nat → Int
  | [], b => 2 * (b.length : Int)
  | x :: a, b => dRow (dR c a) (2 * ((a.length : Int) + 1)) (c x) b
theorem mn (p q k : Int) : min p q + k = min (p + k) (q + k) := by lia
theorem m3a (p q r : Int) : min p (min q r) ≤ p := Int.min_le_left _ _
theorem m3b (p q r : Int) : min p (min q r) ≤ q := Int.le_trans (Int.min_le_right _ _) (Int.min_le_left _ _)
theorem m3c (p q r : Int) : min p (min q r) ≤ r := Int.le_trans (Int.min_le_right _ _) (Int.min_le_right _ _)
theorem le3 {x p q r : Int} (h1 : x ≤ p) (h2 : x ≤ q) (h3 : x ≤ r) : x ≤ min p (min q r) := Int.le_min.mpr ⟨h1, Int.le_min.mpr ⟨h2, h3⟩⟩
structure Cost (c : Nat → Nat → Int) : Prop where
  zero : ∀ x, c x x = 0
  low : ∀ x y, 0 ≤ c x y
  high : ∀ x y, c x y ≤ 2
  symm : ∀ x y, c x y = c y x
section
variable {c : Nat → Nat → Int}
theorem dR_nil_l (b : List Nat) : dR c [] b = 2 * (b.length : Int) := rfl
theorem dR_nil_r (a : List Nat) : dR c a [] = 2 * (a.length : Int) := by
  cases a with
  | nil => rfl
  | cons x a => show 2 * ((a.length : Int) + 1) = _; simp
theorem dR_cons (x y : Nat) (a b : List Nat) : dR c (x :: a) (y :: b) = min (dR c a b + c x y) (min (dR c a (y :: b) + 2) (dR c (x :: a) b + 2)) := rfl
theorem dR_up_l (x : Nat) (a b : List Nat) : dR c (x :: a) b ≤ dR c a b + 2 := by
  cases b with
  | nil => rw [dR_nil_r, dR_nil_r, List.length_cons]; lia
  | cons y b => rw [dR_cons]; exact m3b _ _ _
theorem dR_symm (C : Cost c) : ∀ a b, dR c a b = dR c b a
  | [], b => by rw [dR_nil_l, dR_nil_r]
  | x :: a, [] => by rw [dR_nil_l, dR_nil_r]
  | x :: a, y :: b => by
    rw [dR_cons, dR_cons, dR_symm C a b, dR_symm C a (y :: b), dR_symm C (x :: a) b, C.symm x y, Int.min_comm (dR c (y :: b) a + 2)]
termination_by a b => a.length + b.length
theorem dR_lip_r (C : Cost c) (y : Nat) : ∀ (a b : List Nat), dR c a b ≤ dR c a (y :: b) + 2
  | [], b => by rw [dR_nil_l, dR_nil_l, List.length_cons]; lia
  | x :: a, b => by
    have h1 := dR_up_l (c := c) x a b
    have h2 := dR_lip_r C y a b
    have h3 := C.low x y
    rw [dR_cons, mn, mn]
    exact le3 (by lia) (by lia) (by lia)
theorem dR_lip_l (C : Cost c) (x : Nat) (a b : List Nat) : dR c a b ≤ dR c (x :: a) b + 2 := by
  rw [dR_symm C a, dR_symm C (x :: a)]
  exact dR_lip_r C x b a
theorem dR_head (C : Cost c) (x : Nat) (a b : List Nat) : dR c (x :: a) (x :: b) = dR c a b := by
  have h1 := dR_lip_r C x a b
  have h2 := dR_lip_l C x a b
  rw [dR_cons, C.zero, Int.add_zero]
  exact Int.le_antisymm (m3a _ _ _) (le3 (Int.le_refl _) h1 h2)
theorem dR_one (C : Cost c) (x : Nat) : ∀ (b : List Nat), dR c [x] (b ++ [x]) = 2 * (b.length : Int)
  | [] => by rw [List.nil_append, dR_head C]; rfl
  | y :: b => by
    have h := dR_one C x b
    have h3 := C.low x y
    rw [List.cons_append, dR_cons, h, dR_nil_l, dR_nil_l]
    simp only [List.length_cons, List.length_append, List.length_nil]
    exact Int.le_antisymm (Int.le_trans (m3c _ _ _) (by lia)) (le3 (by lia) (by lia) (by lia))
theorem dR_tail (C : Cost c) (x : Nat) : ∀ (a b : List Nat), dR c (a ++ [x]) (b ++ [x]) = dR c a b
  | [], b => by rw [List.nil_append, dR_one C, dR_nil_l]
  | y :: a, [] => by rw [dR_symm C, List.nil_append, dR_one C, dR_nil_r]
  | y :: a, z :: b => by
    rw [List.cons_append, List.cons_append, dR_cons, dR_cons, dR_tail C x a b]
    have h1 := dR_tail C x a (z :: b)
    have h2 := dR_tail C x (y :: a) b
    rw [List.cons_append] at h1 h2
    rw [h1, h2]
termination_by a b => a.length + b.length
theorem dR_pre (C : Cost c) : ∀ (p a b : List Nat), dR c (p ++ a) (p ++ b) = dR c a b
  | [], _, _ => rfl
  | x :: p, a, b => by rw [List.cons_append, List.cons_append, dR_head C]; exact dR_pre C p a b
theorem dR_suf (C : Cost c) (a b : List Nat) : ∀ (s : List Nat), dR c (a ++ s) (b ++ s) = dR c a b := fun s => by
  have : ∀ (t : List Nat), dR c (a ++ t.reverse) (b ++ t.reverse) = dR c a b := by
    intro t
    induction t with
    | nil => rw [List.reverse_nil, List.append_nil, List.append_nil]
    | cons x t ih => rw [List.reverse_cons, ← List.append_assoc, ← List.append_assoc, dR_tail C, ih]
  have h := this s.reverse
  rwa [List.reverse_reverse] at h
theorem dR_len (C : Cost c) : ∀ (a b : List Nat), 2 * ((b.length : Int) - a.length) ≤ dR c a b
  | [], b => by rw [dR_nil_l]; simp
  | x :: a, [] => by rw [dR_nil_r]; simp only [List.length_cons, List.length_nil]; lia
  | x :: a, y :: b => by
    have h1 := dR_len C a b
    have h2 := dR_len C a (y :: b)
    have h3 := dR_len C (x :: a) b
    have h4 := C.low x y
    rw [dR_cons]
    simp only [List.length_cons] at h2 h3 ⊢
    exact le3 (by lia) (by lia) (by lia)
termination_by a b => a.length + b.length
theorem dR_hi (C : Cost c) : ∀ (a b : List Nat), dR c a b ≤ 2 * ((a.length : Int) + b.length)
  | [], b => by rw [dR_nil_l]; simp
  | x :: a, b => by
    have h1 := dR_up_l (c := c) x a b
    have h2 := dR_hi C a b
    simp only [List.length_cons]
    lia
theorem dR_self (C : Cost c) (a : List Nat) : dR c a a = 0 := by
  have h := dR_pre C a [] []
  rw [List.append_nil] at h
  rw [h]; rfl
/-- the distance, read from the end -/
def dE (c : Nat → Nat → Int) (a b : List Nat) : Int := dR c a.reverse b.reverse
theorem dE_symm (C : Cost c) (a b : List Nat) : dE c a b = dE c b a := dR_symm C _ _
theorem dE_pre (C : Cost c) (p a b : List Nat) : dE c (p ++ a) (p ++ b) = dE c a b := by
  unfold dE
  rw [List.reverse_append, List.reverse_append, dR_suf C]
theorem dE_suf (C : Cost c) (a b s : List Nat) : dE c (a ++ s) (b ++ s) = dE c a b := by
  unfold dE
  rw [List.reverse_append, List.reverse_append, dR_pre C]
theorem dE_snoc (x y : Nat) (a b : List Nat) : dE c (a ++ [x]) (b ++ [y]) = min (dE c a b + c x y) (min (dE c a (b ++ [y]) + 2) (dE c (a ++ [x]) b + 2)) := by
  unfold dE
  rw [List.reverse_append, List.reverse_append]
  exact dR_cons x y a.reverse b.reverse
theorem dE_nil_l (b : List Nat) : dE c [] b = 2 * (b.length : Int) := by
  unfold dE
  rw [List.reverse_nil, dR_nil_l, List.length_reverse]
theorem dE_nil_r (a : List Nat) : dE c a [] = 2 * (a.length : Int) := by
  unfold dE
  rw [List.reverse_nil, dR_nil_r, List.length_reverse]

/-! ### the table -/
/-- what stands in the table for the first i signs of a and the first j of b -/
def eT (c : Nat → Nat → Int) (a b : List Nat) (i j : Nat) : Int := dE c (a.take i) (b.take j)
theorem eT_0 (a b : List Nat) (j : Nat) (h : j ≤ b.length) : eT c a b 0 j = 2 * (j : Int) := by
  unfold eT
  rw [List.take_zero, dE_nil_l, List.length_take, Nat.min_eq_left h]
theorem eT_r0 (a b : List Nat) (i : Nat) (h : i ≤ a.length) : eT c a b i 0 = 2 * (i : Int) := by
  unfold eT
  rw [List.take_zero, dE_nil_r, List.length_take, Nat.min_eq_left h]
theorem take_succ_get (a : List Nat) (i : Nat) (h : i < a.length) : a.take (i + 1) = a.take i ++ [a.getD i 0] := by
  rw [List.take_succ, List.getElem?_eq_getElem h, List.getD_eq_getElem?_getD, List.getElem?_eq_getElem h]
  rfl
theorem eT_step (a b : List Nat) (i j : Nat) (hi : i < a.length) (hj : j < b.length) :
    eT c a b (i + 1) (j + 1) = min (eT c a b i j + c (a.getD i 0) (b.getD j 0)) (min (eT c a b i (j + 1) + 2) (eT c a b (i + 1) j + 2)) := by
  unfold eT
  rw [take_succ_get a i hi, take_succ_get b j hj, dE_snoc]
end
end Mine

/-! Lv2 -/
namespace Mine
def kost (x y : Nat) : Int := cost (T [x]) (T [y])
theorem kost_ok : Cost kost where
  zero x := by unfold kost cost; rw [if_pos rfl]
  low x y := by unfold kost cost; split <;> (try split) <;> decide
  high x y := by unfold kost cost; split <;> (try split) <;> decide
  symm x y := by
    unfold kost cost
    by_cases h : T [x] = T [y]
    · rw [if_pos h, if_pos h.symm]
    · have h' : ¬ T [y] = T [x] := fun q => h q.symm
      rw [if_neg h, if_neg h']
      by_cases h2 : Txt.lower (T [x]) = Txt.lower (T [y])
      · rw [if_pos h2, if_pos h2.symm]
      · have h2' : ¬ Txt.lower (T [y]) = Txt.lower (T [x]) := fun q => h2 q.symm
        rw [if_neg h2, if_neg h2']
abbrev dist (a b : List Nat) : Int := dE kost a b
abbrev tb (a b : List Nat) (i j : Nat) : Int := eT kost a b i j

/-- the inner loop, behind i turns in column j -/
structure InnerAt (a b : List Nat) (j i : Nat) (st : List Int × Int × Int × Int) : Prop where
  len : st.1.length = a.length
  new : ∀ m, m < i → st.1.getD m 0 = tb a b (m + 1) (j + 1)
  old : ∀ m, i ≤ m → m < a.length → st.1.getD m 0 = tb a b (m + 1) j
  dis : st.2.1 = tb a b i j
  res : if i = 0 then st.2.2.1 = 2 * (j : Int) else st.2.2.1 = tb a b i (j + 1)
  low : ∀ m, m < i → st.2.2.2 ≤ tb a b (m + 1) (j + 1)
theorem getD_set (l : List Int) (i m : Nat) (v : Int) (h : i < l.length) : (l.set i v).getD m 0 = if m = i then v else l.getD m 0 := by
  rw [List.getD_eq_getElem?_getD, List.getD_eq_getElem?_getD, List.getElem?_set]
  by_cases hm : i = m
  · subst hm
    rw [if_pos rfl, if_pos h, if_pos rfl]
    rfl
  · rw [if_neg hm, if_neg (fun q => hm q.symm)]
theorem inner_step {a b : List Nat} {j i : Nat} {st : List Int × Int × Int × Int} (hj : j < b.length) (hi : i < a.length) (H : InnerAt a b j i st) : InnerAt a b j (i + 1) (stp a (b.getD j 0) st i) := by
  obtain ⟨row, dis, res, mn⟩ := st
  have hres : (if (dis + kost (b.getD j 0) (a.getD i 0)) < (if row.getD i 0 < res then row.getD i 0 else res) + 2 then dis + kost (b.getD j 0) (a.getD i 0) else (if row.getD i 0 < res then row.getD i 0 else res) + 2) = tb a b (i + 1) (j + 1) := by
    have h1 : tb a b (i + 1) (j + 1) = _ := eT_step a b i j hi hj
    have h2 : row.getD i 0 = tb a b (i + 1) j := H.old i (Nat.le_refl _) hi
    have h3 : dis = tb a b i j := H.dis
    have h4 := H.res
    have h5 := kost_ok.high (a.getD i 0) (b.getD j 0)
    rw [h1, h2, h3, kost_ok.symm (b.getD j 0)]
    dsimp only at h4
    by_cases h0 : i = 0
    · subst h0
      rw [if_pos rfl] at h4
      have h6 : tb a b 0 j = 2 * (j : Int) := eT_0 a b j (Nat.le_of_lt hj)
      have h7 : eT kost a b 0 (j + 1) = 2 * ((j + 1 : Nat) : Int) := eT_0 a b (j + 1) hj
      rw [h4, h6, h7]
      have h8 : eT kost a b 0 j = 2 * (j : Int) := h6
      rw [h8]
      show _ = min _ (min _ (tb a b (0 + 1) j + 2))
      generalize tb a b (0 + 1) j = u
      generalize kost (a.getD 0 0) (b.getD j 0) = v at h5
      split <;> split <;> lia
    · rw [if_neg h0] at h4
      rw [h4]
      show _ = min (tb a b i j + _) (min (tb a b i (j + 1) + 2) (tb a b (i + 1) j + 2))
      generalize tb a b (i + 1) j = u
      generalize tb a b i (j + 1) = u2
      generalize tb a b i j = u3
      generalize kost (a.getD i 0) (b.getD j 0) = v
      split <;> split <;> lia
  have e : stp a (b.getD j 0) (row, dis, res, mn) i = (row.set i (tb a b (i + 1) (j + 1)), row.getD i 0, tb a b (i + 1) (j + 1), if tb a b (i + 1) (j + 1) < mn then tb a b (i + 1) (j + 1) else mn) := by
    rw [← hres]
    rfl
  rw [e]
  have hl : i < row.length := by rw [show row.length = a.length from H.len]; exact hi
  refine ⟨by rw [List.length_set]; exact H.len, fun m hm => ?_, fun m hm hm2 => ?_, H.old i (Nat.le_refl _) hi, ?_, fun m hm => ?_⟩
  · dsimp only
    rw [getD_set _ _ _ _ hl]
    by_cases q : m = i
    · rw [if_pos q, q]
    · rw [if_neg q]; exact H.new m (by lia)
  · dsimp only
    rw [getD_set _ _ _ _ hl, if_neg (by lia)]
    exact H.old m (by lia) hm2
  · rw [if_neg (by lia)]
  · dsimp only
    by_cases q : m = i
    · rw [q]; split <;> lia
    · have := H.low m (by lia)
      dsimp only at this
      split <;> lia
theorem inner_run {a b : List Nat} {j : Nat} (hj : j < b.length) : ∀ (m i : Nat) (st : List Int × Int × Int × Int), i + m = a.length → InnerAt a b j i st → InnerAt a b j a.length ((List.range' i m).foldl (stp a (b.getD j 0)) st)
  | 0, i, st, h, H => by
    rw [Nat.add_zero] at h
    subst h
    exact H
  | m + 1, i, st, h, H => by
    rw [List.range'_succ, List.foldl_cons]
    exact inner_run hj m (i + 1) _ (by lia) (inner_step hj (by lia) H)

/-- the outer loop, behind j turns -/
structure OuterAt (a b : List Nat) (j : Nat) (st : List Int × Int) : Prop where
  len : st.1.length = a.length
  row : ∀ m, m < a.length → st.1.getD m 0 = tb a b (m + 1) j
  res : 0 < j → st.2 = tb a b a.length j
theorem col_low {a b : List Nat} {k : Int} : ∀ (n j : Nat), j + n ≤ b.length → (∀ i, i ≤ a.length → k < tb a b i j) → ∀ i, i ≤ a.length → k < tb a b i (j + n)
  | 0, j, _, h, i, hi => h i hi
  | n + 1, j, hb, h, i, hi => by
    rw [show j + (n + 1) = (j + 1) + n by lia]
    refine col_low n (j + 1) (by lia) (fun i hi => ?_) i hi
    induction i with
    | zero =>
      have h1 := h 0 (Nat.zero_le _)
      have e1 : tb a b 0 j = 2 * (j : Int) := eT_0 a b j (by lia)
      have e2 : tb a b 0 (j + 1) = 2 * ((j + 1 : Nat) : Int) := eT_0 a b (j + 1) (by lia)
      lia
    | succ i ih =>
      have e : tb a b (i + 1) (j + 1) = _ := eT_step a b i j (by lia) (by lia)
      have h1 := ih (by lia)
      have h2 := h i (by lia)
      have h3 := h (i + 1) hi
      have h4 := kost_ok.low (a.getD i 0) (b.getD j 0)
      show k < eT kost a b (i + 1) (j + 1)
      rw [show eT kost a b (i + 1) (j + 1) = _ from e]
      have h1' : k < eT kost a b i (j + 1) := h1
      have h2' : k < eT kost a b i j := h2
      have h3' : k < eT kost a b (i + 1) j := h3
      lia
theorem outer_run {a b : List Nat} {k : Int} (ha : a ≠ []) : ∀ (n j : Nat) (st : List Int × Int), j + n = b.length → OuterAt a b j st →
    match foldE (ostp a b k) st (List.range' j n) with
    | .inl st' => OuterAt a b b.length st'
    | .inr v => v = .int (k + 1) ∧ k < dist a b
  | 0, j, st, h, H => by
    rw [Nat.add_zero] at h
    subst h
    exact H
  | n + 1, j, st, h, H => by
    have hj : j < b.length := by lia
    have hp : 0 < a.length := List.length_pos_iff.mpr ha
    rw [List.range'_succ]
    have H0 : InnerAt a b j 0 (st.1, (j : Int) * 2, (j : Int) * 2, 9223372036854775807) := by
      refine ⟨H.len, fun m hm => absurd hm (Nat.not_lt_zero _), fun m _ hm => H.row m hm, ?_, ?_, fun m hm => absurd hm (Nat.not_lt_zero _)⟩
      · have e1 : tb a b 0 j = 2 * (j : Int) := eT_0 a b j (by lia)
        dsimp only
        rw [e1]
        lia
      · rw [if_pos rfl]
        dsimp only
        lia
    have H1 := inner_run hj a.length 0 _ (by lia) H0
    rw [← List.range_eq_range'] at H1
    unfold foldE ostp
    generalize (List.range a.length).foldl (stp a (b.getD j 0)) (st.1, (j : Int) * 2, (j : Int) * 2, 9223372036854775807) = t at H1
    have hr := H1.res
    rw [if_neg (by lia)] at hr
    dsimp only
    by_cases hk : k < t.2.2.2
    · rw [if_pos hk]
      dsimp only
      refine ⟨rfl, ?_⟩
      have hh : ∀ i, i ≤ a.length → k < tb a b i (j + 1) := by
        intro i hi
        cases i with
        | zero =>
          have e := H1.low 0 hp
          have e1 : tb a b (0 + 1) (j + 1) = _ := eT_step a b 0 j hp hj
          have e2 : eT kost a b 0 j = 2 * (j : Int) := eT_0 a b j (by lia)
          have e3 : tb a b 0 (j + 1) = 2 * ((j + 1 : Nat) : Int) := eT_0 a b (j + 1) (by lia)
          have h5 := kost_ok.high (a.getD 0 0) (b.getD j 0)
          have e1' : tb a b (0 + 1) (j + 1) ≤ eT kost a b 0 j + kost (a.getD 0 0) (b.getD j 0) := by
            rw [e1]; lia
          lia
        | succ i =>
          have e := H1.low i (by lia)
          lia
      have := col_low n (j + 1) (by lia) hh a.length (Nat.le_refl _)
      rw [show j + 1 + n = b.length by lia] at this
      have e : tb a b a.length b.length = dist a b := by
        show dE kost (a.take a.length) (b.take b.length) = _
        rw [List.take_length, List.take_length]
      rw [← e]
      exact this
    · rw [if_neg hk]
      exact outer_run ha n (j + 1) _ (by lia) ⟨H1.len, fun m hm => H1.new m hm, fun _ => hr⟩
theorem levC_ok {a b : List Nat} (k : Int) (ha : a ≠ []) (hb : b ≠ []) : levC a b k = dist a b ∨ (k < dist a b ∧ levC a b k = k + 1) := by
  have h0 : OuterAt a b 0 ((List.range a.length).map fun (i : Nat) => 2 + (i : Int) * 2, 0) := by
    refine ⟨by simp, fun m hm => ?_, fun h => absurd h (by lia)⟩
    have e : tb a b (m + 1) 0 = 2 * ((m + 1 : Nat) : Int) := eT_r0 a b (m + 1) hm
    rw [e, List.getD_eq_getElem?_getD, List.getElem?_map, List.getElem?_range hm]
    simp
    lia
  have h := outer_run (k := k) ha b.length 0 _ (by lia) h0
  rw [← List.range_eq_range'] at h
  unfold levC
  generalize foldE (ostp a b k) ((List.range a.length).map fun (i : Nat) => 2 + (i : Int) * 2, 0) (List.range b.length) = o at h
  cases o with
  | inl st =>
    left
    have e := OuterAt.res h (List.length_pos_iff.mpr hb)
    have e2 : tb a b a.length b.length = dist a b := by
      show dE kost (a.take a.length) (b.take b.length) = _
      rw [List.take_length, List.take_length]
    dsimp only
    rw [e, e2]
  | inr v =>
    right
    obtain ⟨rfl, h2⟩ := h
    exact ⟨h2, rfl⟩
theorem dist_diff (a b : List Nat) : 2 * ((b.length : Int) - a.length) ≤ dist a b := by
  have := dR_len kost_ok a.reverse b.reverse
  rwa [List.length_reverse, List.length_reverse] at this
theorem dist_hi (a b : List Nat) : dist a b ≤ 2 * ((a.length : Int) + b.length) := by
  have := dR_hi kost_ok a.reverse b.reverse
  rwa [List.length_reverse, List.length_reverse] at this
theorem levB_ok (a b : List Nat) (k : Int) (h1 : a.length ≤ 40) (h2 : b.length ≤ 40) : levB a b k = dist a b ∨ (k < dist a b ∧ levB a b k = k + 1) := by
  unfold levB
  by_cases h : a = [] ∨ b = []
  · rw [if_pos h]
    left
    rcases h with rfl | rfl
    · rw [show dist [] b = _ from dE_nil_l b]; simp
    · rw [show dist a [] = _ from dE_nil_r a]; simp
  · rw [if_neg h, if_neg (by lia)]
    have ha : a ≠ [] := fun q => h (.inl q)
    have hb : b ≠ [] := fun q => h (.inr q)
    dsimp only
    by_cases hl : b.length < a.length
    · rw [if_pos hl]
      dsimp only
      by_cases hk : k < ((a.length : Int) - b.length) * 2
      · rw [if_pos hk]
        right
        have := dist_diff b a
        rw [show dist b a = dist a b from dE_symm kost_ok b a] at this
        exact ⟨by lia, rfl⟩
      · rw [if_neg hk]
        have := levC_ok k hb ha
        rwa [show dist b a = dist a b from dE_symm kost_ok b a] at this
    · rw [if_neg hl]
      dsimp only
      by_cases hk : k < ((b.length : Int) - a.length) * 2
      · rw [if_pos hk]
        right
        have := dist_diff a b
        exact ⟨by lia, rfl⟩
      · rw [if_neg hk]
        exact levC_ok k ha hb
theorem lcp_take : ∀ (a b : List Nat), a.take (lcp a b) = b.take (lcp a b)
  | [], b => by simp [lcp]
  | x :: a, [] => by simp [lcp]
  | x :: a, y :: b => by
    unfold lcp
    split
    · rename_i h
      have h' : x = y := by simpa using h
      rw [List.take_succ_cons, List.take_succ_cons, lcp_take a b, h']
    · rfl
theorem levS_dist (a b : List Nat) : dist (levS a b).1 (levS a b).2 = dist a b := by
  unfold levS
  dsimp only
  have e1 : dist (a.drop (lcp a b)) (b.drop (lcp a b)) = dist a b := by
    have h := dE_pre kost_ok (a.take (lcp a b)) (a.drop (lcp a b)) (b.drop (lcp a b))
    rw [List.take_append_drop] at h
    rw [lcp_take a b, List.take_append_drop] at h
    exact h.symm
  rw [← e1]
  generalize a.drop (lcp a b) = u
  generalize b.drop (lcp a b) = v
  generalize hq : lcp u.reverse v.reverse = q
  have ht := lcp_take u.reverse v.reverse
  rw [hq, List.take_reverse, List.take_reverse, List.reverse_inj] at ht
  have h := dE_suf kost_ok (u.take (u.length - q)) (v.take (v.length - q)) (u.drop (u.length - q))
  rw [List.take_append_drop] at h
  rw [ht, List.take_append_drop] at h
  exact h.symm
theorem lev_ok2 (a b : List Nat) (k : Int) (h1 : a.length ≤ 40) (h2 : b.length ≤ 40) : lev a b k = dist a b ∨ (k < dist a b ∧ lev a b k = k + 1) := by
  unfold lev
  by_cases h : a = b
  · rw [if_pos h, h]
    left
    exact (dR_self kost_ok b.reverse).symm
  · rw [if_neg h, ← levS_dist a b]
    have hl := levS_len a b
    exact levB_ok _ _ k (by lia) (by lia)
theorem lev_far (a b : List Nat) (k : Int) (h1 : a.length ≤ 40) (h2 : b.length ≤ 40) (hk : dist a b ≤ k) : lev a b k = dist a b := by
  rcases lev_ok2 a b k h1 h2 with h | ⟨h, _⟩
  · exact h
  · omega
end Mine

/-! G4 -/
noncomputable section SG4
namespace Mine
def F45 : List D → Option D
  | [.str x, .str y, .int k] => if x.length ≤ 60 ∧ y.length ≤ 60 then some (.int (lev x.cps.toList y.cps.toList k)) else none
  | _ => none
theorem lev_ok {P : Params} {c : Cx} (h : CF (KK P) c) : ActL c 2 (fun vs => call (.ref 45) vs) F45 := (T_levenshtein_distance h (sub_ok h)).2 F45 fun ds d hF => by
  unfold F45 at hF
  split at hF <;> try (cases hF; done)
  rename_i x y k
  split at hF <;> try (cases hF; done)
  rename_i hl
  cases hF
  refine ⟨rfl, ?_⟩
  refine lev_gives h (sub_ok h) x.cps.toList y.cps.toList k _ ?_ ?_ ?_ (by rw [Array.length_toList]; exact hl.1) (by rw [Array.length_toList]; exact hl.2)
  · rw [T_cps]; rfl
  · rw [T_cps]; rfl
  · rfl
theorem F45_T (a b : List Nat) (k : Int) (ha : a.length ≤ 60) (hb : b.length ≤ 60) : F45 [.str (T a), .str (T b), .int k] = some (.int (lev a b k)) := by
  unfold F45
  dsimp only
  rw [if_pos ⟨by rw [T_len]; exact ha, by rw [T_len]; exact hb⟩]
  unfold T
  simp

/-! ### comprehensions -/
theorem compF_map {β : Type} {x : Str} {ft : Rho → Option Bool} {fe : Rho → Option D} {enc : β → D} {p : β → Bool} {g : β → D} {rc : Rho} : ∀ (l : List β), (∀ b ∈ l, ft ((x, .sh (enc b)) :: rc) = some (p b)) → (∀ b ∈ l, p b = true → fe ((x, .sh (enc b)) :: rc) = some (g b)) →
    compF x ft (fun r => (fe r).map fun d => [d]) (l.map enc) rc = some ((l.filter p).map g)
  | [], _, _ => rfl
  | b :: l, h1, h2 => by
    rw [List.map_cons]
    unfold compF
    rw [h1 b List.mem_cons_self, compF_map l (fun b' hb => h1 b' (List.mem_cons_of_mem _ hb)) fun b' hb => h2 b' (List.mem_cons_of_mem _ hb)]
    cases hp : p b with
    | true =>
      rw [h2 b List.mem_cons_self hp, List.filter_cons_of_pos hp]
      rfl
    | false =>
      rw [List.filter_cons_of_neg (by rw [hp]; decide)]
      rfl
theorem compO_map {β : Type} {cap : List Str} {x : Str} {fi : Rho → Option (List D)} {ft : Rho → Option Bool} {fe : Rho → Option D} {enc : β → D} (p : β → Bool) (g : β → D) {r : Rho} (rc : Rho) (l : List β)
    (h1 : fi r = some (l.map enc)) (h2 : capO cap r = some rc) (h3 : rc.get x = none) (h4 : rc.get ".acc" = none) (h5 : ∀ b ∈ l, ft ((x, .sh (enc b)) :: rc) = some (p b)) (h6 : ∀ b ∈ l, p b = true → fe ((x, .sh (enc b)) :: rc) = some (g b)) (h7 : l.length ≤ lim) :
    compO cap x fi ft (fun r => (fe r).map fun d => [d]) r = some ((l.filter p).map g) := by
  unfold compO
  rw [h1, h2]
  simp only [Option.bind_some, h3, h4, Option.isNone_none, Bool.and_self, if_true, compF_map l h5 h6]
  rw [if_pos]
  rw [List.length_map]
  exact Nat.le_trans (List.length_filter_le _ _) h7
theorem compO_all {β : Type} {cap : List Str} {x : Str} {fi : Rho → Option (List D)} {fe : Rho → Option D} {enc : β → D} (g : β → D) {r : Rho} (rc : Rho) (l : List β)
    (h1 : fi r = some (l.map enc)) (h2 : capO cap r = some rc) (h3 : rc.get x = none) (h4 : rc.get ".acc" = none) (h6 : ∀ b ∈ l, fe ((x, .sh (enc b)) :: rc) = some (g b)) (h7 : l.length ≤ lim) :
    compO cap x fi (fun _ => some true) (fun r => (fe r).map fun d => [d]) r = some (l.map g) := by
  have := compO_map (ft := fun _ => some true) (p := fun _ => true) g rc l h1 h2 h3 h4 (fun _ _ => rfl) (fun b hb _ => h6 b hb) h7
  rw [this, List.filter_eq_self.mpr fun _ _ => rfl]
theorem T_append (a b : List Nat) : T a ++ T b = T (a ++ b) := by
  show Str.append (T a) (T b) = _
  unfold T
  simp [Str.append]
theorem oAdd_T (a b : List Nat) (h : a.length + b.length ≤ lim) : oAdd (.str (T a)) (.str (T b)) = some (.str (T (a ++ b))) := by
  unfold oAdd
  dsimp only
  rw [T_len, T_len, if_pos h, T_append]

theorem oAdd_int (a b : Int) : oAdd (.int a) (.int b) = some (.int (a + b)) := rfl
theorem seq_put {f g : Rho → Option (Rho × Fl)} {r : Rho} {d : D} (x : Str) (e : Ent) (hf : f r = some ((r.kill x).put x e, .next)) (h2 : ∀ r1 : Rho, (∀ y, r1.get y = if y = x then some e else (r.get y).map (Ent.kill x)) → Gives (g r1) d) : Gives (seqF f g r) d := by
  rw [Gives, seqF_next hf]
  exact h2 _ fun y => get_kp r x y e
theorem seq_done {f g : Rho → Option (Rho × Fl)} {r : Rho} {d : D} (hf : f r = some (r, .ret d)) : Gives (seqF f g r) d := ⟨r, seqF_ret hf⟩

def encW (l : List Nat) : D := .str (T l)
theorem oAdd_L (a b : List D) (h : a.length + b.length ≤ lim) : oAdd (.list a) (.list b) = some (.list (a ++ b)) := by
  unfold oAdd
  dsimp only
  rw [if_pos h]
/-- what a body answers, as a function of its arguments -/
def runF (names : List Str) (f : Rho → Option (Rho × Fl)) (ds : List D) : Option D :=
  if ds.length = names.length then match f (names.zip (ds.map Ent.sh)) with
    | some (_, .ret d) => some d
    | _ => none
  else none
theorem runF_HF (names : List Str) (f : Rho → Option (Rho × Fl)) : HF names f (runF names f) := fun ds d h => by
  unfold runF at h
  split at h
  · rename_i hl
    refine ⟨hl, ?_⟩
    split at h
    · rename_i r d' e
      cases h
      exact ⟨r, e⟩
    · cases h
  · cases h
theorem runF_of {names : List Str} {f : Rho → Option (Rho × Fl)} {ds : List D} {d : D} (hl : ds.length = names.length) (h : Gives (f (names.zip (ds.map Ent.sh))) d) : runF names f ds = some d := by
  obtain ⟨r, e⟩ := h
  unfold runF
  rw [if_pos hl, e]

theorem compF_for {β γ : Type} {x y : Str} {fi2 : Rho → Option (List D)} {fe : Rho → Option D} {enc1 : β → D} {enc2 : γ → D} {g : β → γ → D} {rc : Rho} (l2 : β → List γ) (hs : shs rc = true) (hy : Rho.get rc y = none) (hxy : y ≠ x) : ∀ (l1 : List β),
    (∀ b ∈ l1, fi2 ((x, .sh (enc1 b)) :: rc) = some ((l2 b).map enc2)) → (∀ b ∈ l1, ∀ b2 ∈ l2 b, fe ((y, .sh (enc2 b2)) :: (x, .sh (enc1 b)) :: rc) = some (g b b2)) →
    compF x (fun _ => some true) (forA y (fun _ => some true) (fun r => (fe r).map fun d => [d]) fi2) (l1.map enc1) rc = some (l1.flatMap fun b => (l2 b).map (g b))
  | [], _, _ => rfl
  | b :: l1, h1, h2 => by
    rw [List.map_cons]
    unfold compF
    rw [compF_for l2 hs hy hxy l1 (fun b' hb => h1 b' (List.mem_cons_of_mem _ hb)) fun b' hb => h2 b' (List.mem_cons_of_mem _ hb)]
    unfold forA
    have hs' : shs ((x, Ent.sh (enc1 b)) :: rc) = true := by
      unfold shs at hs ⊢
      rw [List.all_cons, hs]
      rfl
    have hc := compF_map (x := y) (ft := fun _ => some true) (fe := fe) (enc := enc2) (p := fun _ => true) (g := g b) (rc := (x, Ent.sh (enc1 b)) :: rc) (l2 b) (fun _ _ => rfl) fun b2 hb2 _ => h2 b List.mem_cons_self b2 hb2
    rw [h1 b List.mem_cons_self]
    simp only [Option.bind_some, if_true, hs', get_there _ _ hxy, hy, Option.isNone_none, Bool.and_self, hc, Option.map_some, List.flatMap_cons]
    rw [List.filter_eq_self.mpr fun _ _ => rfl]
theorem compO_for {β γ : Type} {cap : List Str} {x y : Str} {fi fi2 : Rho → Option (List D)} {fe : Rho → Option D} {enc1 : β → D} {enc2 : γ → D} (g : β → γ → D) {r : Rho} (rc : Rho) (l1 : List β) (l2 : β → List γ)
    (h1 : fi r = some (l1.map enc1)) (h2 : capO cap r = some rc) (h3 : rc.get x = none) (h4 : rc.get ".acc" = none) (h5 : rc.get y = none) (hxy : y ≠ x) (h6 : ∀ b ∈ l1, fi2 ((x, .sh (enc1 b)) :: rc) = some ((l2 b).map enc2))
    (h7 : ∀ b ∈ l1, ∀ b2 ∈ l2 b, fe ((y, .sh (enc2 b2)) :: (x, .sh (enc1 b)) :: rc) = some (g b b2)) (h8 : (l1.flatMap fun b => (l2 b).map (g b)).length ≤ lim) :
    compO cap x fi (fun _ => some true) (forA y (fun _ => some true) (fun r => (fe r).map fun d => [d]) fi2) r = some (l1.flatMap fun b => (l2 b).map (g b)) := by
  unfold compO
  rw [h1, h2]
  simp only [Option.bind_some, h3, h4, Option.isNone_none, Bool.and_self, if_true, compF_for l2 (capO_shs h2) h5 hxy l1 h6 h7]
  rw [if_pos h8]
theorem kill_app {x y : Str} (h : y ≠ x) : Ent.kill x (.app y) = .app y := if_neg h
theorem getApp_of {r : Rho} {m y : Str} {l : List D} (h1 : r.get m = some (.app y)) (h2 : r.get y = some (.own l)) (hl : y ≠ (".last" : Str) := by decide) : getApp r m = some (y, l) := by
  unfold getApp
  rw [h1]
  dsimp only
  rw [if_neg hl]
  unfold getOwn
  rw [h2]
  rfl
theorem sgn (a b : Nat) : (T [a] == T [b]) = (a == b) := by
  rw [Bool.eq_iff_iff, beq_iff_eq, beq_iff_eq, T_inj]
  simp
theorem star : ("*" : Str) = T [42] := by decide
theorem quest : ("?" : Str) = T [63] := by decide
theorem brk : ("[" : Str) = T [91] := by decide
theorem dot : ("." : Str) = T [46] := by decide
theorem oLt_int (a b : Int) : oLt (.int a) (.int b) = some (.bool (decide (a < b))) := rfl
theorem while_upto {ft : Rho → Option Bool} {fb : Rho → Option (Rho × Fl)} (Inv : Nat → Rho → Prop) (n : Nat) (hft : ∀ i r, Inv i r → i ≤ n → ft r = some (decide (i < n))) (hfb : ∀ i r, Inv i r → i < n → ∃ r', fb r = some (r', .next) ∧ Inv (i + 1) r') :
    ∀ (N i : Nat) (r : Rho), n - i < N → i ≤ n → Inv i r → ∃ r', whileF ft fb N r = some (r', .next) ∧ Inv n r'
  | 0, _, _, h, _, _ => absurd h (Nat.not_lt_zero _)
  | N + 1, i, r, h, hi, I => by
    unfold whileF
    rw [hft i r I hi]
    by_cases hc : i < n
    · obtain ⟨r', e, I'⟩ := hfb i r I hc
      obtain ⟨r2, e2, I2⟩ := while_upto Inv n hft hfb N (i + 1) r' (by omega) hc I'
      refine ⟨r2, ?_, I2⟩
      simp only [Option.bind_some, decide_eq_true hc, e]
      exact e2
    · have : i = n := by lia
      subst this
      refine ⟨r, ?_, I⟩
      simp only [Option.bind_some, decide_eq_false hc]
theorem nx_put {f g : Rho → Option (Rho × Fl)} {r : Rho} {K : Rho → Prop} (x : Str) (e : Ent) (hf : f r = some ((r.kill x).put x e, .next)) (h2 : ∀ r1 : Rho, (∀ y, r1.get y = if y = x then some e else (r.get y).map (Ent.kill x)) → ∃ r', g r1 = some (r', .next) ∧ K r') : ∃ r', seqF f g r = some (r', .next) ∧ K r' := by
  rw [seqF_next hf]
  exact h2 _ fun y => get_kp r x y e
end Mine
end SG4

/-! Q1 -/
noncomputable section SQ1
namespace Mine
/-! ### escape -/
def intKeysB (es : Array DictEntry) : Bool := es.all fun e => match e.key with
  | .int k _ => e.hash == hashInt k
  | _ => false
theorem intKeys_of {es : Array DictEntry} (h : intKeysB es = true) : IntKeys es := fun e he => by
  have := (Array.all_eq_true'.mp h) e he
  cases hk : e.key <;> rw [hk] at this <;> simp only [Bool.false_eq_true] at this
  exact ⟨_, _, rfl, beq_iff_eq.mp this⟩
theorem esc_tr {P : Params} {c : Cx} (h : CF (KK P) c) : ActL c 0 (fun vs => call (.builtin "str.translate") vs) (oTrans 59 [97, 98, 65]) :=
  act_trans (h.ft 59 _ rfl) (by decide) (intKeys_of (by decide +kernel)) fun k hk => by
    simp only [List.mem_cons, List.not_mem_nil, or_false] at hk
    rcases hk with rfl | rfl | rfl
    · exact ⟨by kernel_rfl, by decide⟩
    · exact ⟨by kernel_rfl, by decide⟩
    · exact ⟨by kernel_rfl, by decide⟩
def E69 {P : Params} {c : Cx} (h : CF (KK P) c) : List D → Option D := runF ["pattern"] (Tescape h (esc_tr h)).1
theorem esc_ok {P : Params} {c : Cx} (h : CF (KK P) c) : ActL c 1 (fun vs => call (.ref 69) vs) (E69 h) := (Tescape h (esc_tr h)).2 _ (runF_HF _ _)
def Sg (c : Nat) : Prop := c = 97 ∨ c = 98 ∨ c = 65
theorem esc_sg (k : Nat) (hk : Sg k) : oTrans 59 [97, 98, 65] [encW [k], .adr 59] = some (encW [k]) := by
  have hm : k ∈ [97, 98, 65] := by
    rcases hk with rfl | rfl | rfl <;> decide
  exact if_pos ⟨k, hm, rfl⟩
theorem E69_of {P : Params} {c : Cx} (h : CF (KK P) c) (k : Nat) (hk : Sg k) : E69 h [encW [k]] = some (encW [k]) := by
  refine runF_of rfl ?_
  have hT := esc_sg k hk
  have hI : oIsStr [encW [k], .ty "str"] = some (.bool true) := rfl
  obtain ⟨r0, hr⟩ : ∃ r0 : Rho, r0 = (["pattern"] : List Str).zip (List.map Ent.sh [encW [k]]) := ⟨_, rfl⟩
  rw [← hr]
  have g1 : r0.get "pattern" = some (.sh (encW [k])) := by rw [hr]; rfl
  clear hr
  unfold Tescape packT
  dsimp only
  refine seq_gives ⟨r0, ?_⟩
  simp only [g1, Option.bind_some, hI, oTruth, if_true, seqF]
  unfold encW at hT ⊢
  simp only [Option.bind_some, hT]
end Mine
end SQ1

/-! Q2 -/
noncomputable section SQ2
namespace Mine
/-! ### a pattern's parts -/
inductive Tk where
  | star
  | one (c : Nat)
  | quest
  | br (s : List Nat)
def brs : List (List Nat) := [[97, 98], [97, 65], [33, 97], [33, 98], [33, 65]]
def Tk.src : Tk → List Nat
  | .star => [42]
  | .one c => [c]
  | .quest => [63]
  | .br s => 91 :: (s ++ [93])
def Tk.ok : Tk → Prop
  | .one c => Sg c
  | .br s => s ∈ brs
  | _ => True
def brT (s : List Nat) : List Nat := if s.getD 0 0 = 33 then 94 :: s.drop 1 else s
def Tk.txt : Tk → List Nat
  | .star => []
  | .one c => [c]
  | .quest => [46]
  | .br s => 91 :: (brT s ++ [93])
/-- what stands for a star -/
def Sv (z : D) : Prop := z = .none ∨ ∃ a, z = .adr a
def isAdr : D → Bool
  | .str _ => false
  | _ => true
def lastStar (res : List D) : Bool := (res.getLast?.map isAdr).getD false
def addT (a : D) (res : List D) : Tk → List D
  | .star => if lastStar res then res else res ++ [a]
  | t => res ++ [encW t.txt]
def srcs (ts : List Tk) : List Nat := ts.flatMap Tk.src
theorem cut_mid (l : List Nat) (i j : Nat) (h1 : i ≤ j) (h2 : j ≤ l.length) : cutS (T l) (some (i : Int)) (some (j : Int)) = T ((l.drop i).take (j - i)) := by
  unfold cutS cutL T
  simp only [Option.elim, clip_pos, Str.mk.injEq]
  rw [Nat.min_eq_left h2, Nat.min_eq_left (Nat.le_trans h1 h2)]
theorem last_idx (l : List D) (h : l ≠ []) (hl : l.length ≤ lim) : oIdx (.list l) (.int (-1)) = l.getLast? := by
  have hp : 0 < l.length := List.length_pos_iff.mpr h
  unfold oIdx
  dsimp only
  rw [if_pos hl]
  have : seqIndex? (-1) l.length = some (l.length - 1) := by
    unfold seqIndex?
    have e : ((-1 : Int) < 0) := by decide
    simp only [e, if_true]
    rw [if_pos (by simp; lia)]
    congr 1
    lia
  rw [this, List.getLast?_eq_getElem?]
  rfl
theorem getD_mid (pre : List Nat) (x : Nat) (post : List Nat) : (pre ++ x :: post).getD pre.length 0 = x := by
  rw [List.getD_eq_getElem?_getD, List.getElem?_append_right (Nat.le_refl _)]
  simp
theorem idx_mid (pre : List Nat) (x : Nat) (post : List Nat) (h : (pre ++ x :: post).length ≤ lim) (j : Int) (hj : j = (pre.length : Int)) : oIdx (.str (T (pre ++ x :: post))) (.int j) = some (.str (T [x])) := by
  rw [hj, idx_a _ _ (by simp) h, getD_mid]
structure TI (a : D) (P : List Nat) (u : Nat) (res : List D) (r : Rho) : Prop where
  gp : r.get "pat" = some (.sh (.str (T P)))
  gi : r.get "i" = some (.sh (.int (u : Int)))
  gn : r.get "n" = some (.sh (.int (P.length : Int)))
  gr : r.get "res" = some (.own res)
  ga : r.get "add" = some (.app "res")
  gq : r.get "QUESTION_MARK" = some (.sh (.str (T [46])))
  gs : r.get "STAR" = some (.sh a)
theorem TI.app {a : D} {P : List Nat} {u : Nat} {res : List D} {r : Rho} (I : TI a P u res r) (d : D) : TI a P u (res ++ [d]) (r.put "res" (.own (res ++ [d]))) := by
  constructor <;> first | exact pt_self _ _ _ | exact pt_any I.gp (by decide) | exact pt_any I.gi (by decide) | exact pt_any I.gn (by decide) | exact pt_any I.ga (by decide) | exact pt_any I.gq (by decide) | exact pt_any I.gs (by decide) | (simp (config := {decide := true}) only [Rho.get_put, if_true, if_false, I.gp, I.gi, I.gn, I.ga, I.gq, I.gs])
theorem is_star (a : D) (ha : Sv a) (d : D) (h : (∃ x, d = .str x) ∨ d = a) : oIs d a = some (.bool (isAdr d)) := by
  rcases h with ⟨x, rfl⟩ | rfl
  · rcases ha with rfl | ⟨b, rfl⟩ <;> rfl
  · rcases ha with rfl | ⟨b, rfl⟩
    · rfl
    · show (if b = b then some (D.bool true) else none) = _
      rw [if_pos rfl]
      rfl
theorem isNot_star (a : D) (ha : Sv a) (d : D) (h : (∃ x, d = .str x) ∨ d = a) : oIsNot d a = some (.bool (!isAdr d)) := by
  unfold oIsNot
  rw [is_star a ha d h]
  rfl
/-- what may stand among the parts -/
def Item (a : D) (d : D) : Prop := (∃ x, d = .str x) ∨ d = a
theorem addT_item (a : D) (res : List D) (t : Tk) (h : ∀ d ∈ res, Item a d) : ∀ d ∈ addT a res t, Item a d := by
  intro d hd
  cases t with
  | star =>
    simp only [addT] at hd
    split at hd
    · exact h d hd
    · rcases List.mem_append.mp hd with q | q
      · exact h d q
      · rw [List.mem_singleton.mp q]; exact .inr rfl
  | one c =>
    rcases List.mem_append.mp hd with q | q
    · exact h d q
    · rw [List.mem_singleton.mp q]; exact .inl ⟨_, rfl⟩
  | quest =>
    rcases List.mem_append.mp hd with q | q
    · exact h d q
    · rw [List.mem_singleton.mp q]; exact .inl ⟨_, rfl⟩
  | br s =>
    rcases List.mem_append.mp hd with q | q
    · exact h d q
    · rw [List.mem_singleton.mp q]; exact .inl ⟨_, rfl⟩
theorem TI.other {a : D} {P : List Nat} {u : Nat} {res : List D} {r r1 : Rho} (I : TI a P u res r) {x : Str} {e : Ent} (J : ∀ y, r1.get y = if y = x then some e else (r.get y).map (Ent.kill x))
    (hx : ∀ y ∈ (["pat", "i", "n", "res", "add", "QUESTION_MARK", "STAR"] : List Str), y ≠ x) : TI a P u res r1 := by
  constructor
  · rw [J, if_neg (hx _ (by decide)), I.gp]; rfl
  · rw [J, if_neg (hx _ (by decide)), I.gi]; rfl
  · rw [J, if_neg (hx _ (by decide)), I.gn]; rfl
  · rw [J, if_neg (hx _ (by decide)), I.gr]; rfl
  · rw [J, if_neg (hx _ (by decide)), I.ga, Option.map_some, kill_app (hx _ (by decide))]
  · rw [J, if_neg (hx _ (by decide)), I.gq]; rfl
  · rw [J, if_neg (hx _ (by decide)), I.gs]; rfl
theorem TI.seti {a : D} {P : List Nat} {u v : Nat} {res : List D} {r r1 : Rho} (I : TI a P u res r) (J : ∀ y, r1.get y = if y = ("i" : Str) then some (.sh (.int (v : Int))) else (r.get y).map (Ent.kill "i")) : TI a P v res r1 := by
  constructor
  · rw [J, if_neg (by decide), I.gp]; rfl
  · rw [J, if_pos rfl]
  · rw [J, if_neg (by decide), I.gn]; rfl
  · rw [J, if_neg (by decide), I.gr]; rfl
  · rw [J, if_neg (by decide), I.ga, Option.map_some, kill_app (by decide)]
  · rw [J, if_neg (by decide), I.gq]; rfl
  · rw [J, if_neg (by decide), I.gs]; rfl
theorem get_sh {r r1 : Rho} {x y : Str} {e : Ent} {d : D} (J : ∀ y, r1.get y = if y = x then some e else (r.get y).map (Ent.kill x)) (h : r.get y = some (.sh d)) (hy : y ≠ x) : r1.get y = some (.sh d) := by
  rw [J, if_neg hy, h]; rfl
theorem seqF_id (f : Rho → Option (Rho × Fl)) (r : Rho) : seqF f (fun r => some (r, .next)) r = f r := by
  unfold seqF
  cases h : f r with
  | none => rfl
  | some p =>
    obtain ⟨r1, fl⟩ := p
    cases fl <;> rfl
theorem srcs_split (ts : List Tk) (k : Nat) (hk : k < ts.length) : srcs ts = srcs (ts.take k) ++ (ts[k].src ++ srcs (ts.drop (k + 1))) ∧ srcs (ts.take (k + 1)) = srcs (ts.take k) ++ ts[k].src ∧ ts.take (k + 1) = ts.take k ++ [ts[k]] := by
  have h1 : ts.take (k + 1) = ts.take k ++ [ts[k]] := by rw [List.take_add_one, List.getElem?_eq_getElem hk]; rfl
  have h2 : srcs (ts.take (k + 1)) = srcs (ts.take k) ++ ts[k].src := by
    unfold srcs
    rw [h1, List.flatMap_append]
    simp
  refine ⟨?_, h2, h1⟩
  have h3 : ts = ts.take (k + 1) ++ ts.drop (k + 1) := (List.take_append_drop _ _).symm
  have h4 : srcs ts = srcs (ts.take (k + 1)) ++ srcs (ts.drop (k + 1)) := by
    conv => lhs; rw [h3]
    unfold srcs
    rw [List.flatMap_append]
  rw [h4, h2, List.append_assoc]
theorem ts_len : ∀ (ts : List Tk), ts.length ≤ (srcs ts).length
  | [] => Nat.zero_le _
  | t :: ts => by
    have h1 := ts_len ts
    have h4 : (srcs (t :: ts)).length = t.src.length + (srcs ts).length := by unfold srcs; rw [List.flatMap_cons, List.length_append]
    have h3 : 0 < t.src.length := by cases t <;> simp [Tk.src]
    rw [List.length_cons]
    lia
theorem src_pos (t : Tk) : 0 < t.src.length := by cases t <;> simp [Tk.src]
theorem addT_len (a : D) (res : List D) (t : Tk) : (addT a res t).length ≤ res.length + 1 := by
  cases t <;> simp only [addT] <;> (try split) <;> simp
theorem fold_len (a : D) : ∀ (ts : List Tk) (res : List D), (ts.foldl (addT a) res).length ≤ res.length + (srcs ts).length
  | [], res => by simp [srcs]
  | t :: ts, res => by
    have h1 := fold_len a ts (addT a res t)
    have h2 := addT_len a res t
    have h3 := src_pos t
    have h4 : (srcs (t :: ts)).length = t.src.length + (srcs ts).length := by unfold srcs; rw [List.flatMap_cons, List.length_append]
    rw [List.foldl_cons]
    lia
theorem fold_item (a : D) : ∀ (ts : List Tk) (res : List D), (∀ d ∈ res, Item a d) → ∀ d ∈ ts.foldl (addT a) res, Item a d
  | [], _, h => h
  | t :: ts, res, h => fold_item a ts _ (addT_item a res t h)
theorem nx_t {o : Option Bool} {x y : Option (Rho × Fl)} {fl : Fl} {K : Rho → Prop} (h1 : o = some true) (h2 : ∃ r', x = some (r', fl) ∧ K r') : ∃ r', (o.bind fun t => if t = true then x else y) = some (r', fl) ∧ K r' := by
  subst h1; exact h2
theorem nx_f {o : Option Bool} {x y : Option (Rho × Fl)} {fl : Fl} {K : Rho → Prop} (h1 : o = some false) (h2 : ∃ r', y = some (r', fl) ∧ K r') : ∃ r', (o.bind fun t => if t = true then x else y) = some (r', fl) ∧ K r' := by
  subst h1; exact h2
theorem nx_skip {f g : Rho → Option (Rho × Fl)} {r : Rho} {K : Rho → Prop} (hf : f r = some (r, .next)) (h : ∃ r', g r = some (r', .next) ∧ K r') : ∃ r', seqF f g r = some (r', .next) ∧ K r' := by
  rw [seqF_next hf]; exact h
theorem nx_step {f g : Rho → Option (Rho × Fl)} {r : Rho} {K : Rho → Prop} (J : Rho → Prop) (hf : ∃ r1, f r = some (r1, .next) ∧ J r1) (h : ∀ r1, J r1 → ∃ r', g r1 = some (r', .next) ∧ K r') : ∃ r', seqF f g r = some (r', .next) ∧ K r' := by
  obtain ⟨r1, e, j⟩ := hf
  rw [seqF_next e]; exact h r1 j
theorem brs_chars : ∀ sb ∈ brs, 0 < sb.length ∧ sb.length ≤ 2 ∧ ∀ m, m < sb.length → sb.getD m 0 ≠ 93 := by decide
theorem brs_sub : ∀ sb ∈ brs, T sb ∈ subTs := by decide
theorem brs_dash : ∀ sb ∈ brs, oNotIn (.str "-") (.str (T sb)) = some (.bool true) := by
  intro sb h
  simp only [brs, List.mem_cons, List.not_mem_nil, or_false] at h
  rcases h with rfl | rfl | rfl | rfl | rfl <;> kernel_rfl
theorem brs_repl : ∀ sb ∈ brs, oRepl [.str (T sb), .str "\\", .str "\\\\"] = some (.str (T sb)) := by
  intro sb h
  simp only [brs, List.mem_cons, List.not_mem_nil, or_false] at h
  rcases h with rfl | rfl | rfl | rfl | rfl <;> kernel_rfl
theorem excl : ("!" : Str) = T [33] := by decide
theorem cbrk : ("]" : Str) = T [93] := by decide
theorem oGe_int (a b : Int) : oGe (.int a) (.int b) = some (.bool (decide (a ≥ b))) := rfl
theorem oNe_str (x y : Str) : oNe (.str x) (.str y) = some (.bool (x != y)) := rfl
theorem sgn_ne (a b : Nat) : (T [a] != T [b]) = (a != b) := by
  show (!(T [a] == T [b])) = !(a == b)
  rw [sgn]
theorem brs_ne : ∀ sb ∈ brs, (T sb == ("!" : Str)) = false := by decide
theorem brs_tup : ∀ sb ∈ brs, oTup ("^" : Str) (T [91]) (.str (T [sb.getD 0 0])) = some false := by
  intro sb h
  simp only [brs, List.mem_cons, List.not_mem_nil, or_false] at h
  rcases h with rfl | rfl | rfl | rfl | rfl <;> kernel_rfl
theorem brs_hat : ∀ sb ∈ brs, sb.getD 0 0 = 33 → sb = 33 :: sb.drop 1 ∧ (sb.drop 1).length = 1 ∧ (sb.drop 1).getD 0 0 ≠ 33 := by decide
theorem hat : ("^" : Str) = T [94] := by decide
theorem strLim_T (l : List Nat) (h : l.length ≤ lim) : strLim (.str (T l)) = some (.str (T l)) := by
  unfold strLim
  dsimp only
  rw [if_pos (by rw [T_len]; exact h)]
theorem fold3 (w : List Nat) : List.foldl (fun x1 x2 => x1 ++ x2) Str.empty [T [91], T w, ("]" : Str)] = T (91 :: (w ++ [93])) := by
  show ((T [] ++ T [91]) ++ T w) ++ ("]" : Str) = _
  rw [cbrk, T_append, T_append, T_append]
  rfl
theorem back : ("\\" : Str) = T [92] := by decide
structure BJ (a : D) (P : List Nat) (u : Nat) (res : List D) (j : Nat) (r : Rho) : Prop where
  ti : TI a P u res r
  gj : r.get "j" = some (.sh (.int (j : Int)))
theorem tra1_gives {P0 : Params} {c : Cx} (h : CF (KK P0) c) (hL : LamOk c 75 71) (hpat : ∀ h, Glo c h → IsPat h 50 patCode 1) (hfn0 : ∀ fa ob fd, c.FT fa = some ob → ob.data = .func fd → fd.scope = scT → fd.code = .ref 75)
    (a : D) (ha : Sv a) (ts : List Tk) (hts : ∀ t ∈ ts, t.ok) (hl : (srcs ts).length ≤ 100) (r0 : Rho) (g1 : r0.get "pat" = some (.sh (.str (T (srcs ts))))) (g2 : r0.get "QUESTION_MARK" = some (.sh (.str (T [46])))) (g3 : r0.get "STAR" = some (.sh a)) :
    Gives ((T_translate h (esc_ok h) hL hpat hfn0).1 r0) (.list (ts.foldl (addT a) [])) := by
  have hlim := lim_eq
  generalize hP : srcs ts = P at *
  have lp : P.length ≤ lim := by lia
  unfold T_translate packT
  dsimp only
  have l0 : ([] : List D).length ≤ lim := by simp
  refine seq_put "res" (.own []) (by simp only [Option.bind_some, if_pos l0]) fun r1 I1 => ?_
  have a1 : r1.get "pat" = some (.sh (.str (T P))) := by rw [I1, if_neg (by decide), g1]; rfl
  have a2 : r1.get "QUESTION_MARK" = some (.sh (.str (T [46]))) := by rw [I1, if_neg (by decide), g2]; rfl
  have a3 : r1.get "res" = some (.own []) := by rw [I1, if_pos rfl]
  have a4 : r1.get "STAR" = some (.sh a) := by rw [I1, if_neg (by decide), g3]; rfl
  clear I1 g1 g2 g3
  refine seq_put "add" (.app "res") (by simp only [getOwn, a3, Option.bind_some]) fun r2 I2 => ?_
  have b1 : r2.get "pat" = some (.sh (.str (T P))) := by rw [I2, if_neg (by decide), a1]; rfl
  have b2 : r2.get "QUESTION_MARK" = some (.sh (.str (T [46]))) := by rw [I2, if_neg (by decide), a2]; rfl
  have b3 : r2.get "res" = some (.own []) := by rw [I2, if_neg (by decide), a3]; rfl
  have b4 : r2.get "add" = some (.app "res") := by rw [I2, if_pos rfl]
  have b5 : r2.get "STAR" = some (.sh a) := by rw [I2, if_neg (by decide), a4]; rfl
  clear I2 a1 a2 a3 a4
  refine seq_step (TI a P 0 []) ⟨_, by simp only [b1, Option.bind_some, len_T _ lp]; rfl, ?_⟩ fun r3 I3 => ?_
  · constructor <;> first | exact kp_self _ _ _ | exact kp_any b1 rfl (by decide) | exact kp_any b2 rfl (by decide) | exact kp_any b3 rfl (by decide) | exact kp_any b4 rfl (by decide) | exact kp_any b5 rfl (by decide) | exact kp_any b1 (kill_app (by decide)) (by decide) | exact kp_any b2 (kill_app (by decide)) (by decide) | exact kp_any b3 (kill_app (by decide)) (by decide) | exact kp_any b4 (kill_app (by decide)) (by decide) | exact kp_any b5 (kill_app (by decide)) (by decide) | (simp (config := {decide := true}) only [get_kp, if_true, if_false, b1, b2, b3, b4, b5, Option.map_some, kill_sh, kill_own, kill_app, List.take_zero, List.map_nil, Int.natCast_zero, ne_eq, not_false_eq_true])
  refine seq_step (TI a P (srcs (ts.take ts.length)).length ((ts.take ts.length).foldl (addT a) [])) (while_upto (fun k r => TI a P (srcs (ts.take k)).length ((ts.take k).foldl (addT a) []) r) ts.length (fun k r I hk => ?_) (fun k r I hk => ?_) lim 0 r3 ?_ (Nat.zero_le _) (by exact I3)) fun r4 I4 => ?_
  · simp only [I.gi, I.gn, Option.bind_some, oLt_int, asB]
    congr 1
    by_cases hlt : k < ts.length
    · obtain ⟨e1, _, _⟩ := srcs_split ts k hlt
      have := src_pos ts[k]
      rw [decide_eq_true hlt, decide_eq_true_eq, ← hP, e1, List.length_append, List.length_append]
      lia
    · have : k = ts.length := by lia
      subst this
      rw [List.take_length, hP, decide_eq_false hlt]
      exact decide_eq_false (by lia)
  · obtain ⟨e1, e2, e3⟩ := srcs_split ts k hk
    have hlen0 := fold_len a (ts.take k) []
    have hit := fold_item a (ts.take k) [] (fun d hd => by cases hd)
    have hok := hts _ (List.getElem_mem hk)
    rw [e2, e3, List.foldl_append, List.foldl_cons, List.foldl_nil, List.length_append]
    rw [hP] at e1
    generalize srcs (ts.take k) = pre at *
    generalize (ts.take k).foldl (addT a) [] = res at *
    generalize srcs (ts.drop (k + 1)) = post at *
    generalize ts[k] = t at *
    have hlen : res.length < lim := by
      have : pre.length ≤ P.length := by rw [e1, List.length_append]; lia
      simp only [List.length_nil] at hlen0
      lia
    obtain ⟨ch, tl, hsrc⟩ : ∃ ch tl, t.src = ch :: tl := by cases t <;> exact ⟨_, _, rfl⟩
    rw [hsrc, List.cons_append] at e1
    have lp' := lp
    rw [e1] at lp'
    refine nx_put "c" (.sh (.str (T [ch]))) (by simp only [I.gp, I.gi, Option.bind_some]; rw [e1, idx_mid pre ch _ lp' _ rfl]; rfl) fun q1 J1 => ?_
    have I1 : TI a P pre.length res q1 := I.other J1 (by decide)
    have c1 : q1.get "c" = some (.sh (.str (T [ch]))) := by rw [J1, if_pos rfl]
    refine nx_put "i" (.sh (.int ((pre.length + 1 : Nat) : Int))) (by simp only [I1.gi, Option.bind_some, oAdd_int]; rfl) fun q2 J2 => ?_
    have I2 : TI a P (pre.length + 1) res q2 := I1.seti J2
    have c2 : q2.get "c" = some (.sh (.str (T [ch]))) := get_sh J2 c1 (by decide)
    clear I I1 c1 J1 J2
    have hap := getApp_of I2.ga I2.gr
    rw [seqF_id]
    cases t with
    | star =>
      cases hsrc
      have e0 : ((42 : Nat) == 42) = true := by decide
      have hadd : ∃ r', (if res.length < lim then some (q2.put "res" (Ent.own (res ++ [a])), Fl.next) else none) = some (r', Fl.next) ∧ TI a P (pre.length + 1) (res ++ [a]) r' := ⟨_, if_pos hlen, I2.app _⟩
      by_cases hr : res = []
      · subst hr
        have t0 : oTruth (.list []) = some false := by unfold oTruth; dsimp only; rw [if_pos l0]; rfl
        refine nx_t (by simp only [c2, star, Option.bind_some, oEq_str, sgn, e0, asB]) ?_
        rw [seqF_id]
        refine nx_t (by simp only [Option.bind_some, if_true, I2.gr, t0, Option.map_some, Bool.not_false]) ?_
        simp only [seqF_id, hap, I2.gs, Option.bind_some]
        exact hadd
      · have t0 : oTruth (.list res) = some true := by
          unfold oTruth; dsimp only; rw [if_pos (Nat.le_of_lt hlen)]
          cases res with
          | nil => exact absurd rfl hr
          | cons _ _ => rfl
        have hn : oNeg (.int 1) = some (.int (-1)) := rfl
        obtain ⟨d, hd⟩ : ∃ d, res.getLast? = some d := ⟨_, List.getLast?_eq_some_getLast hr⟩
        have hdm : d ∈ res := List.mem_of_getLast? hd
        have hls : lastStar res = isAdr d := by unfold lastStar; rw [hd]; rfl
        refine nx_t (by simp only [c2, star, Option.bind_some, oEq_str, sgn, e0, asB]) ?_
        rw [seqF_id]
        unfold addT
        rw [hls]
        have hns := isNot_star a ha d (hit d hdm)
        cases hd2 : isAdr d with
        | true =>
          rw [hd2] at hns
          refine nx_f (by simp only [Option.bind_some, I2.gr, t0, Option.map_some, Bool.not_true, hn, last_idx res hr (Nat.le_of_lt hlen), hd, I2.gs, hns, asB, Bool.false_eq_true, if_false]) ?_
          exact ⟨q2, rfl, I2⟩
        | false =>
          rw [hd2] at hns
          refine nx_t (by simp only [Option.bind_some, I2.gr, t0, Option.map_some, Bool.not_true, Bool.not_false, hn, last_idx res hr (Nat.le_of_lt hlen), hd, I2.gs, hns, asB, Bool.false_eq_true, if_false, if_true]) ?_
          simp only [seqF_id, hap, I2.gs, Option.bind_some]
          exact hadd
    | one ch' =>
      cases hsrc
      have hne : ch ≠ 42 ∧ ch ≠ 63 ∧ ch ≠ 91 := by rcases hok with rfl | rfl | rfl <;> decide
      have e1' : (ch == 42) = false := by rw [beq_eq_false_iff_ne]; exact hne.1
      have e2' : (ch == 63) = false := by rw [beq_eq_false_iff_ne]; exact hne.2.1
      have e3' : (ch == 91) = false := by rw [beq_eq_false_iff_ne]; exact hne.2.2
      have e5 := E69_of h ch hok
      unfold encW at e5
      refine nx_f (by simp only [c2, star, Option.bind_some, oEq_str, sgn, e1', asB]) ?_
      rw [seqF_id]
      refine nx_f (by simp only [c2, quest, Option.bind_some, oEq_str, sgn, e2', asB]) ?_
      rw [seqF_id]
      refine nx_f (by simp only [c2, brk, Option.bind_some, oEq_str, sgn, e3', asB]) ?_
      simp only [seqF_id, c2, hap, Option.bind_some, e5, if_pos hlen]
      exact ⟨_, rfl, I2.app _⟩
    | quest =>
      cases hsrc
      have e1' : ((63 : Nat) == 42) = false := by decide
      have e2' : ((63 : Nat) == 63) = true := by decide
      refine nx_f (by simp only [c2, star, Option.bind_some, oEq_str, sgn, e1', asB]) ?_
      rw [seqF_id]
      refine nx_t (by simp only [c2, quest, Option.bind_some, oEq_str, sgn, e2', asB]) ?_
      simp only [seqF_id, Option.bind_some, hap, I2.gq, if_pos hlen]
      exact ⟨_, rfl, I2.app _⟩
    | br sb =>
      cases hsrc
      have e1' : ((91 : Nat) == 42) = false := by decide
      have e2' : ((91 : Nat) == 63) = false := by decide
      have e3' : ((91 : Nat) == 91) = true := by decide
      refine nx_f (by simp only [c2, star, Option.bind_some, oEq_str, sgn, e1', asB]) ?_
      rw [seqF_id]
      refine nx_f (by simp only [c2, quest, Option.bind_some, oEq_str, sgn, e2', asB]) ?_
      rw [seqF_id]
      refine nx_t (by simp only [c2, brk, Option.bind_some, oEq_str, sgn, e3', asB]) ?_
      obtain ⟨hb1, hb2, hb3⟩ := brs_chars sb hok
      have hlenP : P.length = pre.length + (1 + (sb.length + (1 + post.length))) := by
        rw [e1]; simp only [List.length_append, List.length_cons, List.length_nil]; lia
      have idxw : ∀ m, m ≤ sb.length → oIdx (.str (T P)) (.int ((pre.length + 1 + m : Nat) : Int)) = some (.str (T [(sb ++ [93]).getD m 0])) := fun m hm => by
        rw [idx_a P _ (by lia) lp]
        congr 4
        rw [e1, List.getD_eq_getElem?_getD, List.getElem?_append_right (by lia), show pre.length + 1 + m - pre.length = m + 1 by lia, List.getElem?_cons_succ, List.getElem?_append_left (by simp; lia), List.getD_eq_getElem?_getD]
      have w0 : (sb ++ [93]).getD 0 0 = sb.getD 0 0 := by
        rw [List.getD_eq_getElem?_getD, List.getElem?_append_left hb1, List.getD_eq_getElem?_getD]
      have i0 := idxw 0 (Nat.zero_le _)
      rw [Nat.add_zero, w0] at i0
      have hlt0 : decide (((pre.length + 1 : Nat) : Int) < (P.length : Int)) = true := decide_eq_true (by lia)
      refine nx_put "j" (.sh (.int ((pre.length + 1 : Nat) : Int))) (by simp only [I2.gi, Option.bind_some]) fun q3 J3 => ?_
      have I3' : TI a P (pre.length + 1) res q3 := I2.other J3 (by decide)
      have j3 : q3.get "j" = some (.sh (.int ((pre.length + 1 : Nat) : Int))) := by rw [J3, if_pos rfl]
      clear J3
      obtain ⟨j0, hj0, hjl⟩ : ∃ j0, j0 < sb.length ∧ (if sb.getD 0 0 = 33 then 1 else 0) = j0 := by
        by_cases h33 : sb.getD 0 0 = 33
        · refine ⟨1, ?_, if_pos h33⟩
          obtain ⟨q1, q2, _⟩ := brs_hat sb hok h33
          rw [q1, List.length_cons, q2]; exact Nat.lt_succ_self _
        · exact ⟨0, hb1, if_neg h33⟩
      refine nx_step (fun r => TI a P (pre.length + 1) res r ∧ r.get "j" = some (.sh (.int ((pre.length + 1 + j0 : Nat) : Int)))) ?_ fun q4 B4 => ?_
      · simp only [j3, I3'.gn, I3'.gp, Option.bind_some, oLt_int, asB, hlt0, if_true, i0, excl, oEq_str, sgn]
        by_cases h33 : sb.getD 0 0 = 33
        · have : j0 = 1 := by rw [← hjl, if_pos h33]
          subst this
          rw [if_pos (beq_iff_eq.mpr h33)]
          refine ⟨_, by simp only [seqF_id, j3, Option.bind_some, oAdd_int]; rfl, ?_⟩
          refine ⟨I3'.other (x := "j") (e := .sh (.int (((pre.length + 1 : Nat) : Int) + 1))) (fun y => get_kp q3 "j" y _) (by decide), ?_⟩
          rw [get_kp, if_pos rfl]
          congr 3
        · have : j0 = 0 := by rw [← hjl, if_neg h33]
          subst this
          rw [if_neg (fun q => h33 (beq_iff_eq.mp q))]
          exact ⟨q3, rfl, I3', j3⟩
      clear I3' j3 i0
      obtain ⟨I3', j3⟩ := B4
      have ij := idxw j0 (Nat.le_of_lt hj0)
      have wj : (sb ++ [93]).getD j0 0 = sb.getD j0 0 := by
        rw [List.getD_eq_getElem?_getD, List.getElem?_append_left hj0, List.getD_eq_getElem?_getD]
      rw [wj] at ij
      have x2 : (sb.getD j0 0 == 93) = false := by rw [beq_eq_false_iff_ne]; exact hb3 j0 hj0
      have hltj : decide (((pre.length + 1 + j0 : Nat) : Int) < (P.length : Int)) = true := decide_eq_true (by lia)
      refine nx_skip (by simp only [j3, I3'.gn, I3'.gp, Option.bind_some, oLt_int, asB, hltj, if_true, ij, cbrk, oEq_str, sgn, x2, Bool.false_eq_true, if_false]) ?_
      refine nx_step (BJ a P (pre.length + 1) res (pre.length + 1 + sb.length)) (while_upto (fun m r => BJ a P (pre.length + 1) res (pre.length + 1 + m) r) sb.length (fun m r B hm => ?_) (fun m r B hm => ?_) lim j0 q4 (by lia) (Nat.le_of_lt hj0) ⟨I3', j3⟩) fun q6 B6 => ?_
      · have hlt : decide (((pre.length + 1 + m : Nat) : Int) < (P.length : Int)) = true := decide_eq_true (by lia)
        simp only [B.gj, B.ti.gn, B.ti.gp, Option.bind_some, oLt_int, asB, hlt, if_true, idxw m hm, cbrk, oNe_str, sgn_ne]
        by_cases hms : m < sb.length
        · have : ((sb ++ [93]).getD m 0 != 93) = true := by
            rw [bne_iff_ne, List.getD_eq_getElem?_getD, List.getElem?_append_left hms, ← List.getD_eq_getElem?_getD]
            exact hb3 m hms
          rw [this, decide_eq_true hms, if_pos rfl]
        · have hme : m = sb.length := by lia
          subst hme
          have : ((sb ++ [93]).getD sb.length 0 != 93) = false := by
            rw [List.getD_eq_getElem?_getD, List.getElem?_append_right (Nat.le_refl _)]
            simp
          rw [this, decide_eq_false hms, if_neg Bool.false_ne_true]
      · refine ⟨_, by simp only [seqF_id, B.gj, Option.bind_some, oAdd_int]; rfl, ?_⟩
        refine ⟨B.ti.other (x := "j") (e := .sh (.int (((pre.length + 1 + m : Nat) : Int) + 1))) (fun y => get_kp r "j" y _) (by decide), ?_⟩
        rw [get_kp, if_pos rfl]
        congr 3
      have hge : decide (((pre.length + 1 + sb.length : Nat) : Int) ≥ (P.length : Int)) = false := decide_eq_false (by lia)
      have I6 := B6.ti
      have j6 := B6.gj
      clear B6 I3' j3 I2 c2
      simp only [seqF_id, j6, I6.gn, Option.bind_some, oGe_int, asB, hge, Bool.false_eq_true, if_false]
      have hcut : oCut (.str (T P)) (some ((pre.length + 1 : Nat) : Int)) (some ((pre.length + 1 + sb.length : Nat) : Int)) = some (.str (T sb)) := by
        rw [cut_ok _ _ _ lp, cut_mid P _ _ (by lia) (by lia)]
        congr 3
        rw [e1, show pre.length + 1 + sb.length - (pre.length + 1) = sb.length by lia, show pre.length + 1 = (pre ++ [91]).length by simp, show pre ++ 91 :: (sb ++ [93] ++ post) = (pre ++ [91]) ++ (sb ++ ([93] ++ post)) by simp, List.drop_left, List.take_left]
      refine nx_put "stuff" (.sh (.str (T sb))) (by simp only [I6.gp, I6.gi, j6, Option.bind_some, asPart, hcut]) fun q7 J7 => ?_
      have I7 : TI a P (pre.length + 1) res q7 := I6.other J7 (by decide)
      have j7 := get_sh J7 j6 (by decide)
      have s7 : q7.get "stuff" = some (.sh (.str (T sb))) := by rw [J7, if_pos rfl]
      clear J7 I6 j6
      refine nx_put "stuff" (.sh (.str (T sb))) (by simp only [s7, Option.bind_some, brs_dash sb hok, asB, if_true, brs_repl sb hok]) fun q8 J8 => ?_
      have I8 : TI a P (pre.length + 1) res q8 := I7.other J8 (by decide)
      have j8 := get_sh J8 j7 (by decide)
      have s8 : q8.get "stuff" = some (.sh (.str (T sb))) := by rw [J8, if_pos rfl]
      clear J8 I7 j7 s7
      refine nx_put "stuff" (.sh (.str (T sb))) (by simp only [s8, if_pos (brs_sub sb hok)]) fun q9 J9 => ?_
      have I9 : TI a P (pre.length + 1) res q9 := I8.other J9 (by decide)
      have j9 := get_sh J9 j8 (by decide)
      have s9 : q9.get "stuff" = some (.sh (.str (T sb))) := by rw [J9, if_pos rfl]
      clear J9 I8 j8 s8
      refine nx_put "i" (.sh (.int ((pre.length + 1 + sb.length + 1 : Nat) : Int))) (by simp only [j9, Option.bind_some, oAdd_int]; rfl) fun q10 J10 => ?_
      have I10 : TI a P (pre.length + 1 + sb.length + 1) res q10 := I9.seti J10
      have s10 := get_sh J10 s9 (by decide)
      clear J10 I9 j9 s9
      have ht : oTruth (.str (T sb)) = some true := by
        rw [truth_T sb (by lia)]
        cases sb with
        | nil => exact absurd hb1 (Nat.lt_irrefl _)
        | cons _ _ => rfl
      simp only [seqF_id, s10, Option.bind_some, ht, Option.map_some, Bool.not_true, Bool.false_eq_true, if_false, oEq_str, brs_ne sb hok, asB]
      have i00 := idx_a sb 0 hb1 (by lia)
      refine nx_step (fun r => TI a P (pre.length + 1 + sb.length + 1) res r ∧ r.get "stuff" = some (.sh (.str (T (brT sb))))) ?_ fun q11 B11 => ?_
      · have i00' : oIdx (.str (T sb)) (.int 0) = some (.str (T [sb.getD 0 0])) := i00
        simp only [s10, Option.bind_some, i00', excl, oEq_str, sgn, asB]
        by_cases h33 : sb.getD 0 0 = 33
        · obtain ⟨q1, q2, _⟩ := brs_hat sb hok h33
          have hc1 : oCut (.str (T sb)) (some 1) none = some (.str (T (sb.drop 1))) := by
            rw [cut_ok _ _ _ (by lia)]
            exact congrArg (fun u => some (D.str u)) (cut_from sb 1)
          have ea := oAdd_T [94] (sb.drop 1) (by rw [q2]; simp only [List.length_cons, List.length_nil]; lia)
          have eb : brT sb = [94] ++ sb.drop 1 := by unfold brT; rw [if_pos h33]; rfl
          rw [if_pos (beq_iff_eq.mpr h33)]
          refine ⟨_, by simp only [s10, Option.bind_some, asPart, hc1, hat, ea], I10.other (x := "stuff") (e := .sh (.str (T ([94] ++ sb.drop 1)))) (fun y => get_kp q10 "stuff" y _) (by decide), ?_⟩
          rw [get_kp, if_pos rfl, eb]
        · rw [if_neg (fun q => h33 (beq_iff_eq.mp q)), brk, brs_tup sb hok]
          exact ⟨q10, rfl, I10, by rw [s10]; unfold brT; rw [if_neg h33]⟩
      obtain ⟨I11, s11⟩ := B11
      have hw : (brT sb).length ≤ 2 := by
        unfold brT
        split
        · rename_i h33
          rw [List.length_cons, (brs_hat sb hok h33).2.1]
          exact Nat.le_refl _
        · exact hb2
      have ha' := getApp_of I11.ga I11.gr
      have hsum : (List.map (fun x => Str.length x) [T [91], T (brT sb), ("]" : Str)]).sum ≤ lim := by
        rw [cbrk]
        simp only [List.map_cons, List.map_nil, T_len, List.sum_cons, List.sum_nil, List.length_cons, List.length_nil]
        lia
      simp only [seqF_id, ha', s11, brk, Option.bind_some, strLim_T _ (show (brT sb).length ≤ lim by lia), Option.map_some, if_pos hsum, fold3, if_pos hlen]
      refine ⟨_, rfl, ?_⟩
      have := I11.app (encW (91 :: (brT sb ++ [93])))
      have eu : pre.length + 1 + sb.length + 1 = pre.length + (91 :: (sb ++ [93])).length := by
        simp only [List.length_cons, List.length_append, List.length_nil]
        lia
      rw [eu] at this
      exact this
  · have := ts_len ts
    rw [hP] at this
    lia
  rw [List.take_length, hP] at I4
  refine seq_step (TI a P P.length (ts.foldl (addT a) [])) ⟨r4, by simp only [I4.gi, I4.gn, Option.bind_some, oEq_int, asB, beq_self_eq_true, if_true], I4⟩ fun r5 I5 => ?_
  refine seq_done ?_
  simp only [I5.gr, Option.bind_some]
end Mine
end SQ2

/-! Q3 -/
noncomputable section SQ3
namespace Mine
theorem len_L (l : List D) (hl : l.length ≤ lim) : oLen [.list l] = some (.int (l.length : Int)) := by
  unfold oLen
  dsimp only
  rw [if_pos hl]
theorem idx_L (l : List D) (i : Nat) (d : D) (hd : l[i]? = some d) (hl : l.length ≤ lim) : oIdx (.list l) (.int (i : Int)) = some d := by
  unfold oIdx
  dsimp only
  rw [if_pos hl]
  have hi : i < l.length := (List.getElem?_eq_some_iff.mp hd).1
  have : seqIndex? (i : Int) l.length = some i := by
    unfold seqIndex?
    have e : ¬ ((i : Int) < 0) := by lia
    simp only [e, if_false]
    rw [if_pos (by simp; lia)]
    simp
  rw [this]
  exact hd
theorem strsOf_W : ∀ l : List (List Nat), strsOf (l.map encW) = some (l.map T)
  | [] => rfl
  | x :: l => by
    rw [List.map_cons]
    show (strsOf (l.map encW)).map (T x :: ·) = _
    rw [strsOf_W l]
    rfl
theorem join_T : ∀ (l : List (List Nat)) (x : List Nat), (l.map T).foldl (fun acc p => acc ++ (T []).cps ++ p.cps) (T x).cps = (T (x ++ l.flatten)).cps
  | [], x => by simp
  | y :: l, x => by
    rw [List.map_cons, List.foldl_cons]
    have : (T x).cps ++ (T []).cps ++ (T y).cps = (T (x ++ y)).cps := by
      unfold T
      simp
    rw [this, join_T l (x ++ y), List.flatten_cons, List.append_assoc]
theorem oJoin_W (l : List (List Nat)) (h : l.flatten.length ≤ lim) : oJoin [.str (T []), .list (l.map encW)] = some (.str (T l.flatten)) := by
  unfold oJoin
  dsimp only
  rw [strsOf_W]
  dsimp only [Option.bind_some]
  have hs : ((l.map T).map (·.length)).sum + (l.map T).length * (T []).length = l.flatten.length := by
    rw [T_len, List.length_nil, Nat.mul_zero, Nat.add_zero, List.map_map, List.length_flatten]
    congr 1
  rw [if_pos (by rw [hs]; exact h)]
  congr 2
  cases l with
  | nil => rfl
  | cons x l =>
    show (⟨_⟩ : Str) = _
    have := join_T l x
    show (⟨(l.map T).foldl (fun acc p => acc ++ (T []).cps ++ p.cps) (T x).cps⟩ : Str) = _
    rw [this]
    rfl
theorem fx_put {fl : Fl} {f g : Rho → Option (Rho × Fl)} {r : Rho} {K : Rho → Prop} (x : Str) (e : Ent) (hf : f r = some ((r.kill x).put x e, .next)) (h2 : ∀ r1 : Rho, (∀ y, r1.get y = if y = x then some e else (r.get y).map (Ent.kill x)) → ∃ r', g r1 = some (r', fl) ∧ K r') : ∃ r', seqF f g r = some (r', fl) ∧ K r' := by
  rw [seqF_next hf]
  exact h2 _ fun y => get_kp r x y e
theorem fx_skip {fl : Fl} {f g : Rho → Option (Rho × Fl)} {r : Rho} {K : Rho → Prop} (hf : f r = some (r, .next)) (h : ∃ r', g r = some (r', fl) ∧ K r') : ∃ r', seqF f g r = some (r', fl) ∧ K r' := by
  rw [seqF_next hf]; exact h
theorem fx_brk2 {f : Rho → Option (Rho × Fl)} {r : Rho} {K : Rho → Prop} (h : ∃ r1, f r = some (r1, .next) ∧ K r1) : ∃ r', seqF f (seqF (fun r => some (r, .brk)) fun r => some (r, .next)) r = some (r', .brk) ∧ K r' := by
  obtain ⟨r1, e, k⟩ := h
  refine ⟨r1, ?_, k⟩
  rw [seqF_next e]
  rfl
theorem fx_brk {f g : Rho → Option (Rho × Fl)} {r : Rho} {K : Rho → Prop} (h : ∃ r', f r = some (r', .brk) ∧ K r') : ∃ r', seqF f g r = some (r', .brk) ∧ K r' := by
  obtain ⟨r', e, k⟩ := h
  refine ⟨r', ?_, k⟩
  unfold seqF
  rw [e]
  rfl

/-- the parts of a pattern between its stars -/
abbrev Segs := List (List (List Nat))
def encR (z : D) (rem : Segs) : List D := rem.flatMap fun g => z :: g.map encW
def encS (z : D) : Segs → List D
  | [] => []
  | g :: rem => g.map encW ++ encR z rem
def addS (s : Segs × List (List Nat)) : Tk → Segs × List (List Nat)
  | .star => if s.2 = [] ∧ s.1 ≠ [] then s else (s.1 ++ [s.2], [])
  | t => (s.1, s.2 ++ [t.txt])
def segs (s : Segs × List (List Nat)) : Segs := s.1 ++ [s.2]
theorem encS_part (z : D) (i : Segs) (l : List (List Nat)) (x : List Nat) : encS z (i ++ [l ++ [x]]) = encS z (i ++ [l]) ++ [encW x] := by
  cases i with
  | nil => simp [encS, encR]
  | cons g i => simp [encS, encR, List.flatMap_append]
theorem encS_star (z : D) (i : Segs) (l : List (List Nat)) : encS z ((i ++ [l]) ++ [[]]) = encS z (i ++ [l]) ++ [z] := by
  cases i with
  | nil => simp [encS, encR]
  | cons g i => simp [encS, encR, List.flatMap_append]
theorem encS_last (z : D) (hz : isAdr z = true) (i : Segs) (l : List (List Nat)) : lastStar (encS z (i ++ [l])) = true ↔ l = [] ∧ i ≠ [] := by
  rcases List.eq_nil_or_concat l with rfl | ⟨l', x, rfl⟩
  · rcases List.eq_nil_or_concat i with rfl | ⟨i', y, rfl⟩
    · simp [encS, encR, lastStar]
    · rw [List.concat_eq_append, encS_star]
      simp [lastStar, hz]
  · rw [List.concat_eq_append, encS_part]
    simp [lastStar, encW, isAdr]
theorem mapSplit (xs : List (List Nat)) (m : Nat) (hm : m < xs.length) : xs.map encW = (xs.take m).map encW ++ encW xs[m] :: (xs.drop (m + 1)).map encW := by
  rw [← List.map_cons, ← List.drop_eq_getElem_cons hm, ← List.map_append, List.take_append_drop]
theorem addT_segs (z : D) (hz : isAdr z = true) : ∀ (ts : List Tk) (s : Segs × List (List Nat)), ts.foldl (addT z) (encS z (segs s)) = encS z (segs (ts.foldl addS s))
  | [], _ => rfl
  | t :: ts, s => by
    rw [List.foldl_cons, List.foldl_cons, ← addT_segs z hz ts (addS s t)]
    congr 1
    obtain ⟨i, l⟩ := s
    unfold segs
    cases t with
    | star =>
      unfold addT addS
      dsimp only
      by_cases h : l = [] ∧ i ≠ []
      · rw [if_pos ((encS_last z hz i l).mpr h), if_pos h]
      · rw [if_neg (fun q => h ((encS_last z hz i l).mp q)), if_neg h]
        exact (encS_star z i l).symm
    | one c => exact (encS_part z i l _).symm
    | quest => exact (encS_part z i l _).symm
    | br s => exact (encS_part z i l _).symm
def pre4 : List Nat := [40, 63, 115, 58]
def suf3 : List Nat := [41, 92, 90]
theorem pre4_eq : ("(?s:" : Str) = T pre4 := by decide
theorem suf3_eq : (")\\Z" : Str) = T suf3 := by decide
/-- a held group -/
def sep6 : List Nat := [40, 63, 62, 46, 42, 63]
def grp (x : List Nat) : List Nat := sep6 ++ (x ++ [41])
theorem sep6_eq : ("(?>.*?" : Str) = T sep6 := by decide
theorem par_eq : (")" : Str) = T [41] := by decide
theorem dots_eq : (".*" : Str) = T [46, 42] := by decide
theorem emp_eq : ("" : Str) = T [] := by decide

/-- the text behind the first star -/
def outR : Segs → List Nat
  | [] => []
  | [g] => [46, 42] ++ g.flatten
  | g :: rem => grp g.flatten ++ outR rem
def txtOf : Segs → List Nat
  | [] => []
  | g :: rem => pre4 ++ (g.flatten ++ outR rem) ++ suf3
/-- all but the last are no empty ones -/
def remOk (rem : Segs) : Prop := ∀ g ∈ rem.dropLast, g ≠ []
theorem while_list {β : Type} {ft : Rho → Option Bool} {fb : Rho → Option (Rho × Fl)} (Inv : List β → Rho → Prop) (hft : ∀ l r, Inv l r → ft r = some (!l.isEmpty))
    (hstep : ∀ b l r, Inv (b :: l) r → (∃ r', fb r = some (r', .next) ∧ Inv l r') ∨ (∃ r', fb r = some (r', .brk) ∧ l = [] ∧ Inv [] r')) : ∀ (l : List β) (N : Nat) (r : Rho), l.length < N → Inv l r → ∃ r', whileF ft fb N r = some (r', .next) ∧ Inv [] r'
  | _, 0, _, h, _ => absurd h (Nat.not_lt_zero _)
  | [], N + 1, r, h, I => by
    unfold whileF
    rw [hft [] r I]
    exact ⟨r, rfl, I⟩
  | b :: l, N + 1, r, h, I => by
    unfold whileF
    rw [hft (b :: l) r I]
    dsimp only [Option.bind_some, List.isEmpty_cons, Bool.not_false]
    rcases hstep b l r I with ⟨r', e, I'⟩ | ⟨r', e, _, I'⟩
    · rw [e]
      exact while_list Inv hft hstep l N r' (by simpa using h) I'
    · rw [e]
      exact ⟨r', rfl, I'⟩
structure JI (z : D) (L : List D) (i : Nat) (res : List (List Nat)) (r : Rho) : Prop where
  gp : r.get "inp" = some (.sh (.list L))
  gi : r.get "i" = some (.sh (.int (i : Int)))
  gn : r.get "n" = some (.sh (.int (L.length : Int)))
  gr : r.get "res" = some (.own (res.map encW))
  ga : r.get "add" = some (.app "res")
  gs : r.get "STAR" = some (.sh z)
theorem JI.other {z : D} {L : List D} {i : Nat} {res : List (List Nat)} {r r1 : Rho} (I : JI z L i res r) {x : Str} {e : Ent} (J : ∀ y, r1.get y = if y = x then some e else (r.get y).map (Ent.kill x))
    (hx : ∀ y ∈ (["inp", "i", "n", "res", "add", "STAR"] : List Str), y ≠ x) : JI z L i res r1 := by
  constructor
  · rw [J, if_neg (hx _ (by decide)), I.gp]; rfl
  · rw [J, if_neg (hx _ (by decide)), I.gi]; rfl
  · rw [J, if_neg (hx _ (by decide)), I.gn]; rfl
  · rw [J, if_neg (hx _ (by decide)), I.gr]; rfl
  · rw [J, if_neg (hx _ (by decide)), I.ga, Option.map_some, kill_app (hx _ (by decide))]
  · rw [J, if_neg (hx _ (by decide)), I.gs]; rfl
theorem JI.seti {z : D} {L : List D} {i v : Nat} {res : List (List Nat)} {r r1 : Rho} (I : JI z L i res r) (J : ∀ y, r1.get y = if y = ("i" : Str) then some (.sh (.int (v : Int))) else (r.get y).map (Ent.kill "i")) : JI z L v res r1 := by
  constructor
  · rw [J, if_neg (by decide), I.gp]; rfl
  · rw [J, if_pos rfl]
  · rw [J, if_neg (by decide), I.gn]; rfl
  · rw [J, if_neg (by decide), I.gr]; rfl
  · rw [J, if_neg (by decide), I.ga, Option.map_some, kill_app (by decide)]
  · rw [J, if_neg (by decide), I.gs]; rfl
theorem JI.app {z : D} {L : List D} {i : Nat} {res : List (List Nat)} {r : Rho} (I : JI z L i res r) (x : List Nat) : JI z L i (res ++ [x]) (r.put "res" (.own (res.map encW ++ [encW x]))) := by
  constructor <;> first | exact pt_self _ _ _ | exact pt_any I.gp (by decide) | exact pt_any I.gi (by decide) | exact pt_any I.gn (by decide) | exact pt_any I.ga (by decide) | exact pt_any I.gs (by decide) | (simp (config := {decide := true}) only [Rho.get_put, if_true, if_false, I.gp, I.gi, I.gn, I.ga, I.gs, List.map_append, List.map_cons, List.map_nil])
theorem atL {L A B : List D} {d : D} (h : L = A ++ d :: B) (hl : L.length ≤ lim) : oIdx (.list L) (.int (A.length : Int)) = some d := idx_L L A.length d (by rw [h]; simp) hl
structure OI (z : D) (L : List D) (tot : List Nat) (rem : Segs) (r : Rho) : Prop where
  ex : ∃ (A : List D) (res : List (List Nat)), L = A ++ encR z rem ∧ JI z L A.length res r ∧ remOk rem ∧ res.flatten ++ outR rem = tot ∧ res.length + 2 * rem.length ≤ 200
theorem joi1_gives {P0 : Params} {c : Cx} (h : CF (KK P0) c) (z : D) (hz : Sv z) (g0 : List (List Nat)) (rem : Segs) (hrem : remOk rem) (hl : (encS z (g0 :: rem)).length ≤ 50) (hg0 : g0.length + 2 * rem.length ≤ 100) (htl : (g0.flatten ++ outR rem).length ≤ 2000)
    (hfl : ∀ g ∈ rem, g.flatten.length ≤ 1000) (r0 : Rho) (g1 : r0.get "inp" = some (.sh (.list (encS z (g0 :: rem))))) (g2 : r0.get "STAR" = some (.sh z)) :
    Gives ((T_join_translated_parts h).1 r0) (encW (txtOf (g0 :: rem))) := by
  have hlim := lim_eq
  obtain ⟨L, hL⟩ : ∃ L, L = encS z (g0 :: rem) := ⟨_, rfl⟩
  rw [← hL] at g1 hl
  have lp : L.length ≤ lim := by lia
  have hna : ∀ x, oIsNot (encW x) z = some (.bool true) := fun x => isNot_star z hz _ (.inl ⟨_, rfl⟩)
  have hzd : isAdr z = true := by rcases hz with rfl | ⟨a, rfl⟩ <;> rfl
  have hnz : oIsNot z z = some (.bool false) := by rw [isNot_star z hz z (.inr rfl), hzd]; rfl
  have hiz : oIs z z = some (.bool true) := by rw [is_star z hz z (.inr rfl), hzd]
  unfold T_join_translated_parts packT
  dsimp only
  have l0 : ([] : List D).length ≤ lim := by simp
  refine seq_put "res" (.own []) (by simp only [Option.bind_some, if_pos l0]) fun r1 I1 => ?_
  have a1 : r1.get "inp" = some (.sh (.list L)) := by rw [I1, if_neg (by decide), g1]; rfl
  have a2 : r1.get "STAR" = some (.sh z) := by rw [I1, if_neg (by decide), g2]; rfl
  have a3 : r1.get "res" = some (.own []) := by rw [I1, if_pos rfl]
  clear I1 g1 g2
  refine seq_put "add" (.app "res") (by simp only [getOwn, a3, Option.bind_some]) fun r2 I2 => ?_
  have b1 : r2.get "inp" = some (.sh (.list L)) := by rw [I2, if_neg (by decide), a1]; rfl
  have b2 : r2.get "STAR" = some (.sh z) := by rw [I2, if_neg (by decide), a2]; rfl
  have b3 : r2.get "res" = some (.own []) := by rw [I2, if_neg (by decide), a3]; rfl
  have b4 : r2.get "add" = some (.app "res") := by rw [I2, if_pos rfl]
  clear I2 a1 a2 a3
  refine seq_step (JI z L 0 []) ⟨_, by simp only [b1, Option.bind_some, len_L _ lp]; rfl, ?_⟩ fun r3 I3 => ?_
  · constructor <;> first | exact kp_self _ _ _ | exact kp_any b1 rfl (by decide) | exact kp_any b2 rfl (by decide) | exact kp_any b3 rfl (by decide) | exact kp_any b4 rfl (by decide) | exact kp_any b1 (kill_app (by decide)) (by decide) | exact kp_any b2 (kill_app (by decide)) (by decide) | exact kp_any b3 (kill_app (by decide)) (by decide) | exact kp_any b4 (kill_app (by decide)) (by decide) | (simp (config := {decide := true}) only [get_kp, if_true, if_false, b1, b2, b3, b4, Option.map_some, kill_sh, kill_own, kill_app, List.map_nil, Int.natCast_zero, ne_eq])
  -- what is ahead of the first star
  have test : ∀ (xs : List (List Nat)) (A B : List D) (m : Nat) (i : Nat), L = A ++ (xs.map encW ++ B) → (B = [] ∨ ∃ B', B = z :: B') → m ≤ xs.length → i = A.length + m →
      ((if decide ((i : Int) < (L.length : Int)) = true then (oIdx (.list L) (.int (i : Int))).bind fun d => (oIsNot d z).bind asB else some false)) = some (decide (m < xs.length)) := by
    intro xs A B m i e1 e2 hm hi
    have e4 : (A ++ (xs.take m).map encW).length = i := by rw [List.length_append, List.length_map, List.length_take, hi, Nat.min_eq_left hm]
    by_cases hlt : m < xs.length
    · have e5 : L = (A ++ (xs.take m).map encW) ++ encW (xs[m]) :: ((xs.drop (m + 1)).map encW ++ B) := by
        rw [e1, mapSplit xs m hlt]
        simp only [List.append_assoc, List.cons_append]
      have e6 := atL e5 lp
      rw [e4] at e6
      have e7 : L.length = (A ++ (xs.take m).map encW).length + (1 + ((xs.drop (m + 1)).map encW ++ B).length) := by rw [e5]; simp only [List.length_append, List.length_cons]; lia
      rw [if_pos (decide_eq_true (by lia)), e6, decide_eq_true hlt]
      show (oIsNot (encW xs[m]) z).bind asB = _
      rw [hna]
      rfl
    · have hme : m = xs.length := by lia
      subst hme
      rcases e2 with rfl | ⟨B', rfl⟩
      · have e7 : L.length = A.length + xs.length := by rw [e1]; simp
        rw [if_neg (by rw [decide_eq_true_eq]; lia), decide_eq_false hlt]
      · have e5 : L = (A ++ xs.map encW) ++ z :: B' := by rw [e1]; simp
        rw [List.take_length] at e4
        have e6 := atL e5 lp
        rw [e4] at e6
        have e7 : L.length = (A ++ xs.map encW).length + (1 + B'.length) := by rw [e5]; simp only [List.length_append, List.length_cons]; lia
        rw [if_pos (decide_eq_true (by lia)), e6, decide_eq_false hlt]
        show (oIsNot z z).bind asB = _
        rw [hnz]
        rfl
  have item : ∀ (xs : List (List Nat)) (A B : List D) (m : Nat) (hm : m < xs.length) (i : Nat), L = A ++ (xs.map encW ++ B) → i = A.length + m → oIdx (.list L) (.int (i : Int)) = some (encW xs[m]) := by
    intro xs A B m hm i e1 hi
    have e5 : L = (A ++ (xs.take m).map encW) ++ encW (xs[m]) :: ((xs.drop (m + 1)).map encW ++ B) := by
      rw [e1, mapSplit xs m hm]
      simp only [List.append_assoc, List.cons_append]
    have e6 := atL e5 lp
    rw [List.length_append, List.length_map, List.length_take, Nat.min_eq_left (Nat.le_of_lt hm), ← hi] at e6
    exact e6
  have hB : ∀ rem : Segs, encR z rem = [] ∨ ∃ B', encR z rem = z :: B' := by
    intro rem
    cases rem with
    | nil => exact .inl rfl
    | cons g rem => exact .inr ⟨_, rfl⟩
  refine seq_step (JI z L g0.length (g0.take g0.length)) (while_upto (fun m r => JI z L m (g0.take m) r) g0.length (fun m r I hm => ?_) (fun m r I hm => ?_) lim 0 r3 (by lia) (Nat.zero_le _) I3) fun r4 I4 => ?_
  · have := test g0 [] (encR z rem) m m (by rw [hL]; rfl) (hB rem) hm (by simp)
    simp only [I.gi, I.gn, I.gp, I.gs, Option.bind_some, oLt_int, asB]
    rw [← this]
    by_cases hc : decide ((m : Int) < (L.length : Int)) = true
    · rw [if_pos hc, hc]
      simp only [if_true]
      cases oIdx (.list L) (.int (m : Int)) with
      | none => rfl
      | some d =>
        dsimp only [Option.bind_some]
        cases (oIsNot d z).bind asB with
        | none => rfl
        | some b => cases b <;> rfl
    · rw [if_neg hc, Bool.eq_false_iff.mpr hc]
      rfl
  · have e1 := item g0 [] (encR z rem) m hm m (by rw [hL]; rfl) (by simp)
    have hap := getApp_of I.ga I.gr
    have hlt : ((g0.take m).map encW).length < lim := by rw [List.length_map, List.length_take]; lia
    have htk : g0.take (m + 1) = g0.take m ++ [g0[m]] := by rw [List.take_add_one, List.getElem?_eq_getElem hm]; rfl
    rw [htk]
    refine nx_step (JI z L m (g0.take m ++ [g0[m]])) ⟨_, by simp only [hap, I.gp, I.gi, Option.bind_some, e1, if_pos hlt], I.app _⟩ fun q1 J1 => ?_
    refine ⟨_, by simp only [seqF_id, J1.gi, Option.bind_some, oAdd_int]; rfl, J1.seti (v := m + 1) fun y => get_kp q1 "i" y _⟩
  -- the held groups
  rw [List.take_length] at I4
  refine seq_step (OI z L (g0.flatten ++ outR rem) []) (while_list (OI z L (g0.flatten ++ outR rem)) (fun l r I => ?_) (fun g l r I => ?_) rem lim r4 (by lia) ⟨g0.map encW, g0, by rw [hL]; rfl, by rw [List.length_map]; exact I4, hrem, rfl, by lia⟩) fun r5 I5 => ?_
  · obtain ⟨A, res, e1, J, _⟩ := I.ex
    simp only [J.gi, J.gn, Option.bind_some, oLt_int, asB]
    congr 1
    have e7 : L.length = A.length + (encR z l).length := by rw [e1]; simp
    cases l with
    | nil =>
      have : (encR z []).length = 0 := rfl
      exact decide_eq_false (by lia)
    | cons g l =>
      have : (encR z (g :: l)).length = 1 + (g.map encW ++ encR z l).length := by
        show (z :: (g.map encW) ++ encR z l).length = _
        rw [List.cons_append, List.length_cons]; lia
      exact decide_eq_true (by lia)
  · obtain ⟨A, res, e1, J, e2, e3, e4⟩ := I.ex
    have eR : encR z (g :: l) = z :: (g.map encW ++ encR z l) := rfl
    rw [eR] at e1
    have hat := atL e1 lp
    have e5 : L = (A ++ [z]) ++ (g.map encW ++ encR z l) := by rw [e1]; simp
    have e6 : (A ++ [z]).length = A.length + 1 := by simp
    have e7 : L.length = A.length + 1 + (g.length + (encR z l).length) := by rw [e5]; simp; lia
    have hfl' : g.flatten.length ≤ 2000 := by
      have h3 := congrArg List.length e3
      have : g.flatten.length ≤ (outR (g :: l)).length := by
        cases l with
        | nil => unfold outR; rw [List.length_append]; lia
        | cons g' l => unfold outR grp; simp only [List.length_append]; lia
      rw [List.length_append] at h3
      lia
    have hrl : (res.map encW).length + 2 < lim := by rw [List.length_map]; rw [List.length_cons] at e4; lia
    by_cases hge : g = []
    · have hln : l = [] := by
        cases l with
        | nil => rfl
        | cons g' l => exact absurd hge (e2 g (by simp))
      subst hge hln
      right
      refine fx_skip (by simp only [J.gp, J.gi, J.gs, Option.bind_some, hat, hiz, asB, if_true]) ?_
      refine fx_put "i" (.sh (.int ((A.length + 1 : Nat) : Int))) (by simp only [J.gi, Option.bind_some, oAdd_int]; rfl) fun q1 J1 => ?_
      have I1 : JI z L (A.length + 1) res q1 := J.seti J1
      clear J1 J
      have hap := getApp_of I1.ga I1.gr
      have ee : (((A.length + 1 : Nat) : Int) == (L.length : Int)) = true := by
        rw [beq_iff_eq]
        have : (encR z []).length = 0 := rfl
        rw [List.length_nil] at e7
        lia
      have hlt : (res.map encW).length < lim := by lia
      refine fx_brk ?_
      simp only [I1.gi, I1.gn, Option.bind_some, oEq_int, ee, asB, if_true]
      refine fx_brk2 ⟨_, by simp only [hap, dots_eq, Option.bind_some, if_pos hlt]; rfl, trivial, ?_⟩
      refine ⟨A ++ [z], res ++ [[46, 42]], by rw [e5]; rfl, by rw [e6]; exact I1.app [46, 42], fun g hg => (nomatch hg), ?_, ?_⟩
      · rw [← e3]
        simp [outR]
      · rw [List.length_append, List.length_singleton, List.length_nil]
        rw [List.length_cons, List.length_nil] at e4
        lia
    · left
      refine nx_skip (by simp only [J.gp, J.gi, J.gs, Option.bind_some, hat, hiz, asB, if_true]) ?_
      refine nx_put "i" (.sh (.int ((A.length + 1 : Nat) : Int))) (by simp only [J.gi, Option.bind_some, oAdd_int]; rfl) fun q1 J1 => ?_
      have I1 : JI z L (A.length + 1) res q1 := J.seti J1
      clear J1 J
      have hgl : 0 < g.length := List.length_pos_iff.mpr hge
      have ne1 : (((A.length + 1 : Nat) : Int) == (L.length : Int)) = false := by rw [beq_eq_false_iff_ne]; lia
      refine nx_skip (by simp only [I1.gi, I1.gn, Option.bind_some, oEq_int, ne1, asB, Bool.false_eq_true, if_false]) ?_
      have it0 := item g (A ++ [z]) (encR z l) 0 hgl (A.length + 1) e5 (by rw [e6])
      refine nx_skip (by simp only [I1.gp, I1.gi, I1.gs, Option.bind_some, it0, hna, asB, if_true]) ?_
      refine nx_put "fixed" (.own []) (by simp only [Option.bind_some, if_pos l0]) fun q2 J2 => ?_
      have I2 : JI z L (A.length + 1) res q2 := I1.other J2 (by decide)
      have f2 : q2.get "fixed" = some (.own []) := by rw [J2, if_pos rfl]
      clear J2 I1
      refine nx_step (fun r => JI z L (A.length + 1 + g.length) res r ∧ r.get "fixed" = some (.own ((g.take g.length).map encW))) (while_upto (fun m r => JI z L (A.length + 1 + m) res r ∧ r.get "fixed" = some (.own ((g.take m).map encW))) g.length (fun m r B hm' => ?_) (fun m r B hm' => ?_) lim 0 q2 (by lia) (Nat.zero_le _) ⟨I2, f2⟩) fun q3 B3 => ?_
      · have := test g (A ++ [z]) (encR z l) m (A.length + 1 + m) e5 (hB l) hm' (by rw [e6])
        simp only [B.1.gi, B.1.gn, B.1.gp, B.1.gs, Option.bind_some, oLt_int, asB]
        rw [← this]
        by_cases hc : decide (((A.length + 1 + m : Nat) : Int) < (L.length : Int)) = true
        · rw [if_pos hc, hc]
          simp only [if_true]
          cases oIdx (.list L) (.int ((A.length + 1 + m : Nat) : Int)) with
          | none => rfl
          | some d =>
            dsimp only [Option.bind_some]
            cases (oIsNot d z).bind asB with
            | none => rfl
            | some b => cases b <;> rfl
        · rw [if_neg hc, Bool.eq_false_iff.mpr hc]
          rfl
      · have it := item g (A ++ [z]) (encR z l) m hm' (A.length + 1 + m) e5 (by rw [e6])
        have fo : getOwn r "fixed" = some ((g.take m).map encW) := by unfold getOwn; rw [B.2]
        have hlt : ((g.take m).map encW).length < lim := by rw [List.length_map, List.length_take]; lia
        have htk : g.take (m + 1) = g.take m ++ [g[m]] := by rw [List.take_add_one, List.getElem?_eq_getElem hm']; rfl
        rw [htk, List.map_append]
        refine nx_step (fun r => JI z L (A.length + 1 + m) res r ∧ r.get "fixed" = some (.own ((g.take m).map encW ++ [encW g[m]]))) ⟨r.put "fixed" (.own ((g.take m).map encW ++ [encW g[m]])), by simp only [fo, B.1.gp, B.1.gi, Option.bind_some, it, if_pos hlt], ?_, ?_⟩ fun q4 B4 => ?_
        · constructor <;> first | exact pt_self _ _ _ | exact pt_any B.1.gp (by decide) | exact pt_any B.1.gi (by decide) | exact pt_any B.1.gn (by decide) | exact pt_any B.1.ga (by decide) | exact pt_any B.1.gs (by decide) | exact pt_any B.1.gr (by decide) | (simp (config := {decide := true}) only [Rho.get_put, if_true, if_false, B.1.gp, B.1.gi, B.1.gn, B.1.ga, B.1.gs, B.1.gr])
        · rw [Rho.get_put, if_pos rfl]
        · refine ⟨_, by simp only [seqF_id, B4.1.gi, Option.bind_some, oAdd_int]; rfl, B4.1.seti (v := A.length + 1 + (m + 1)) (fun y => get_kp q4 "i" y _), ?_⟩
          rw [get_kp, if_neg (by decide), B4.2]
          rfl
      obtain ⟨I3', f3⟩ := B3
      rw [List.take_length] at f3
      have ej := oJoin_W g (by lia)
      rw [← emp_eq] at ej
      refine nx_put "fixed" (.sh (.str (T g.flatten))) (by simp only [f3, Option.bind_some, ej, flat?]) fun q5 J5 => ?_
      have I5 : JI z L (A.length + 1 + g.length) res q5 := I3'.other J5 (by decide)
      have f5 : q5.get "fixed" = some (.sh (.str (T g.flatten))) := by rw [J5, if_pos rfl]
      clear J5 I3' f3
      have hap := getApp_of I5.ga I5.gr
      have eA : ((A ++ [z]) ++ g.map encW).length = A.length + 1 + g.length := by rw [List.length_append, e6, List.length_map]
      have hlt : (res.map encW).length < lim := by lia
      cases l with
      | nil =>
        have ee : (((A.length + 1 + g.length : Nat) : Int) == (L.length : Int)) = true := by
          rw [beq_iff_eq]
          have : (encR z []).length = 0 := rfl
          lia
        simp only [seqF_id, I5.gi, I5.gn, Option.bind_some, oEq_int, ee, asB, if_true]
        have hlt2 : ((res ++ [[46, 42]]).map encW).length < lim := by rw [List.length_map, List.length_append]; rw [List.length_map] at hrl; simp only [List.length_singleton]; lia
        refine nx_step (fun r => JI z L (A.length + 1 + g.length) (res ++ [[46, 42]]) r ∧ r.get "fixed" = some (.sh (.str (T g.flatten)))) ⟨_, by simp only [hap, dots_eq, Option.bind_some, if_pos hlt]; rfl, I5.app [46, 42], by rw [Rho.get_put, if_neg (by decide), f5]⟩ fun q6 B6 => ?_
        have hap6 := getApp_of B6.1.ga B6.1.gr
        refine ⟨_, by simp only [seqF_id, hap6, B6.2, Option.bind_some, if_pos hlt2]; rfl, ?_⟩
        refine ⟨(A ++ [z]) ++ g.map encW, (res ++ [[46, 42]]) ++ [g.flatten], by rw [e5]; simp [encR], by rw [eA]; exact B6.1.app _, fun g hg => (nomatch hg), ?_, ?_⟩
        · rw [← e3]
          simp [outR]
        · rw [List.length_cons, List.length_nil] at e4
          simp only [List.length_append, List.length_singleton, List.length_nil]
          lia
      | cons g' l =>
        have ne2 : (((A.length + 1 + g.length : Nat) : Int) == (L.length : Int)) = false := by
          rw [beq_eq_false_iff_ne]
          have : (encR z (g' :: l)).length = 1 + (g'.map encW ++ encR z l).length := by
            show (z :: (g'.map encW) ++ encR z l).length = _
            rw [List.cons_append, List.length_cons]; lia
          lia
        have hsum : (List.map (fun x => Str.length x) [("(?>.*?" : Str), T g.flatten, (")" : Str)]).sum ≤ lim := by
          rw [sep6_eq, par_eq]
          simp only [List.map_cons, List.map_nil, T_len, List.sum_cons, List.sum_nil]
          have : sep6.length = 6 := rfl
          simp only [List.length_cons, List.length_nil]
          lia
        have hf : [("(?>.*?" : Str), T g.flatten, (")" : Str)].foldl (fun x1 x2 => x1 ++ x2) Str.empty = T (grp g.flatten) := by
          rw [sep6_eq, par_eq]
          show ((T [] ++ T sep6) ++ T g.flatten) ++ T [41] = _
          rw [T_append, T_append, T_append]
          unfold grp
          rw [List.nil_append, List.append_assoc]
        simp only [seqF_id, I5.gi, I5.gn, Option.bind_some, oEq_int, ne2, asB, Bool.false_eq_true, if_false, hap, f5, strLim_T g.flatten (by lia), Option.map_some, if_pos hsum, hf, if_pos hlt]
        refine ⟨_, rfl, ?_⟩
        refine ⟨(A ++ [z]) ++ g.map encW, res ++ [grp g.flatten], by rw [e5]; simp, by rw [eA]; exact I5.app _, fun g'' hg => e2 g'' (by rw [List.dropLast_cons_cons]; exact List.mem_cons_of_mem _ hg), ?_, ?_⟩
        · rw [← e3]
          simp [outR]
        · rw [List.length_cons] at e4
          rw [List.length_append, List.length_singleton]
          lia
  obtain ⟨A, res, e1, J, _, e3, e4⟩ := I5.ex
  have eA : L.length = A.length := by rw [e1]; simp [encR]
  have e3' : res.flatten = g0.flatten ++ outR rem := by rw [← e3]; simp [outR]
  refine seq_step (JI z L A.length res) ⟨r5, by simp only [J.gi, J.gn, Option.bind_some, oEq_int, eA, beq_self_eq_true, asB, if_true], J⟩ fun r6 I6 => ?_
  have ej := oJoin_W res (by rw [e3']; lia)
  rw [← emp_eq, e3'] at ej
  generalize hb : g0.flatten ++ outR rem = body at *
  refine seq_put "res" (.sh (.str (T body))) (by simp only [I6.gr, Option.bind_some, ej, flat?]) fun r7 I7 => ?_
  have h7 : r7.get "res" = some (.sh (.str (T body))) := by rw [I7, if_pos rfl]
  refine seq_done ?_
  have e2 : (List.map (fun x => Str.length x) [("(?s:" : Str), T body, (")\\Z" : Str)]).sum ≤ lim := by
    rw [pre4_eq, suf3_eq]
    simp only [List.map_cons, List.map_nil, T_len, List.sum_cons, List.sum_nil]
    have h1 : pre4.length = 4 := rfl
    have h2 : suf3.length = 3 := rfl
    lia
  have e3 : [("(?s:" : Str), T body, (")\\Z" : Str)].foldl (fun x1 x2 => x1 ++ x2) Str.empty = T (pre4 ++ body ++ suf3) := by
    rw [pre4_eq, suf3_eq]
    show ((Str.empty ++ T pre4) ++ T body) ++ T suf3 = _
    rw [show Str.empty = T [] from rfl, T_append, T_append, T_append]
    rfl
  have e9 : encW (txtOf (g0 :: rem)) = .str (T (pre4 ++ body ++ suf3)) := by
    show D.str (T (pre4 ++ (g0.flatten ++ outR rem) ++ suf3)) = _
    rw [hb]
  rw [e9]
  simp only [h7, Option.bind_some, strLim_T body (by lia), Option.map_some, if_pos e2, e3]
end Mine
end SQ3

/-! Q4 -/
noncomputable section SQ4
namespace Mine
/-- what the lambda of _translate leans on -/
structure LH (c : Cx) : Prop where
  L : LamOk c 75 71
  pat : ∀ h, Glo c h → IsPat h 50 patCode 1
  fn : ∀ fa ob fd, c.FT fa = some ob → ob.data = .func fd → fd.scope = scT → fd.code = .ref 75
def segT (ts : List Tk) : Segs := segs (ts.foldl addS ([], []))
theorem txt_le (t : Tk) (ht : t.ok) : t.txt.length ≤ 4 := by
  cases t with
  | star => exact Nat.zero_le _
  | one c => exact (by decide : 1 ≤ 4)
  | quest => exact (by decide : 1 ≤ 4)
  | br s =>
    have : ∀ s ∈ brs, (Tk.txt (.br s)).length ≤ 4 := by decide
    exact this s ht
structure SegOk (n : Nat) (s : Segs × List (List Nat)) : Prop where
  ne : ∀ g ∈ s.1.tail, g ≠ []
  ln : (segs s).flatten.length + (segs s).length ≤ n + 1
  tx : ∀ g ∈ segs s, ∀ x ∈ g, x.length ≤ 4
theorem addS_ok {n : Nat} {s : Segs × List (List Nat)} {t : Tk} (h : SegOk n s) (ht : t.ok) : SegOk (n + 1) (addS s t) := by
  obtain ⟨i, l⟩ := s
  obtain ⟨h1, h2, h3⟩ := h
  have key : ∀ x : List Nat, x.length ≤ 4 → SegOk (n + 1) (i, l ++ [x]) := fun x hx => by
    refine ⟨h1, ?_, fun g hg y hy => ?_⟩
    · simp only [segs, List.flatten_append, List.length_append, List.flatten_cons, List.flatten_nil, List.append_nil, List.length_cons, List.length_nil] at h2 ⊢
      lia
    · rcases List.mem_append.mp hg with q | q
      · exact h3 g (List.mem_append_left _ q) y hy
      · rw [List.mem_singleton.mp q] at hy
        rcases List.mem_append.mp hy with q | q
        · exact h3 l (List.mem_append_right _ (List.mem_singleton.mpr rfl)) y q
        · rw [List.mem_singleton.mp q]; exact hx
  have ht4 := txt_le t ht
  cases t with
  | star =>
    unfold addS
    dsimp only
    by_cases h : l = [] ∧ i ≠ []
    · rw [if_pos h]
      exact ⟨h1, Nat.le_succ_of_le h2, h3⟩
    · rw [if_neg h]
      refine ⟨fun g hg => ?_, ?_, fun g hg y hy => ?_⟩
      · cases i with
        | nil => cases hg
        | cons g0 i =>
          rcases List.mem_append.mp hg with q | q
          · exact h1 g q
          · rw [List.mem_singleton.mp q]
            exact fun e => h ⟨e, by simp⟩
      · simp only [segs, List.flatten_append, List.length_append, List.flatten_cons, List.flatten_nil, List.append_nil, List.length_cons, List.length_nil] at h2 ⊢
        lia
      · rcases List.mem_append.mp hg with q | q
        · exact h3 g q y hy
        · rw [List.mem_singleton.mp q] at hy; cases hy
  | one c => exact key _ ht4
  | quest => exact key _ ht4
  | br s => exact key _ ht4
theorem segT_ok0 : ∀ (ts : List Tk) (n : Nat) (s : Segs × List (List Nat)), SegOk n s → (∀ t ∈ ts, t.ok) → SegOk (n + ts.length) (ts.foldl addS s)
  | [], _, _, h, _ => h
  | t :: ts, n, s, h, ht => by
    have := segT_ok0 ts (n + 1) (addS s t) (addS_ok h (ht t List.mem_cons_self)) fun t' q => ht t' (List.mem_cons_of_mem _ q)
    rw [List.length_cons, show n + (ts.length + 1) = n + 1 + ts.length by lia]
    exact this
theorem segT_ok (ts : List Tk) (ht : ∀ t ∈ ts, t.ok) : SegOk ts.length (ts.foldl addS ([], [])) := by
  have := segT_ok0 ts 0 ([], []) ⟨fun g hg => (nomatch hg), Nat.le_refl _, fun g hg x hx => by rw [List.mem_singleton.mp hg] at hx; cases hx⟩ ht
  rw [Nat.zero_add] at this
  exact this
theorem encR_len (z : D) : ∀ rem : Segs, (encR z rem).length = rem.flatten.length + rem.length
  | [] => rfl
  | g :: rem => by
    have e : encR z (g :: rem) = z :: (g.map encW ++ encR z rem) := rfl
    rw [e, List.length_cons, List.length_append, List.length_map, encR_len z rem, List.flatten_cons, List.length_append, List.length_cons]
    lia
theorem flat_len (g : List (List Nat)) (h : ∀ x ∈ g, x.length ≤ 4) : g.flatten.length ≤ 4 * g.length := by
  induction g with
  | nil => exact Nat.le_refl _
  | cons x g ih =>
    have h1 := h x List.mem_cons_self
    have h2 := ih fun y hy => h y (List.mem_cons_of_mem _ hy)
    rw [List.flatten_cons, List.length_append, List.length_cons]
    lia
theorem outR_len : ∀ rem : Segs, (∀ g ∈ rem, ∀ x ∈ g, x.length ≤ 4) → (outR rem).length ≤ 4 * rem.flatten.length + 7 * rem.length
  | [], _ => Nat.le_refl _
  | [g], h => by
    have := flat_len g (h g List.mem_cons_self)
    simp only [outR, List.length_append, List.flatten_cons, List.flatten_nil, List.append_nil, List.length_cons, List.length_nil]
    lia
  | g :: g' :: rem, h => by
    have h1 := flat_len g (h g List.mem_cons_self)
    have h2 := outR_len (g' :: rem) fun q hq => h q (List.mem_cons_of_mem _ hq)
    have h3 : sep6.length = 6 := rfl
    simp only [outR, grp, List.length_append, List.length_cons, List.length_nil] at h2 ⊢
    simp only [List.flatten_cons, List.length_append] at h2 ⊢
    lia
theorem segT_cons (ts : List Tk) : ∃ g0 rem, segT ts = g0 :: rem := by
  unfold segT segs
  cases (ts.foldl addS ([], [])).1 with
  | nil => exact ⟨_, _, rfl⟩
  | cons g i => exact ⟨_, _, rfl⟩
theorem segT_rem (ts : List Tk) (ht : ∀ t ∈ ts, t.ok) {g0 : List (List Nat)} {rem : Segs} (h : segT ts = g0 :: rem) : remOk rem := by
  obtain ⟨h1, _, _⟩ := segT_ok ts ht
  unfold segT segs at h
  intro g hg
  cases hi : (ts.foldl addS ([], [])).1 with
  | nil =>
    rw [hi] at h
    cases h
    cases hg
  | cons g' i =>
    rw [hi] at h h1
    cases h
    have hg' : g ∈ (i ++ [(ts.foldl addS ([], [])).2]).dropLast := hg
    rw [List.dropLast_concat] at hg'
    exact h1 g hg'
section
variable {P : Params} {c : Cx} (h : CF (KK P) c) (H : LH c)
def E76 : List D → Option D := runF ["pat", "STAR", "QUESTION_MARK"] (T_translate h (esc_ok h) H.L H.pat H.fn).1
theorem tra_ok : ActL c 2 (fun vs => call (.ref 76) vs) (E76 h H) := (T_translate h (esc_ok h) H.L H.pat H.fn).2 _ (runF_HF _ _)
theorem E76_of (ts : List Tk) (hts : ∀ t ∈ ts, t.ok) (hl : (srcs ts).length ≤ 100) (z : D) (hz : Sv z) : E76 h H [encW (srcs ts), z, .str "."] = some (.list (encS z (segT ts))) := by
  have hzd : isAdr z = true := by rcases hz with rfl | ⟨a, rfl⟩ <;> rfl
  have e := addT_segs z hzd ts ([], [])
  unfold segT
  rw [← e]
  exact runF_of rfl (tra1_gives h H.L H.pat H.fn z hz ts hts hl _ rfl (by rw [dot]; rfl) rfl)
def E83 : List D → Option D := runF ["inp", "STAR"] (T_join_translated_parts h).1
theorem joi_ok : ActL c 1 (fun vs => call (.ref 83) vs) (E83 h) := (T_join_translated_parts h).2 _ (runF_HF _ _)
theorem E83_of (ts : List Tk) (hts : ∀ t ∈ ts, t.ok) (hn : ts.length ≤ 40) (z : D) (hz : Sv z) : E83 h [.list (encS z (segT ts)), z] = some (encW (txtOf (segT ts))) := by
  obtain ⟨g0, rem, e⟩ := segT_cons ts
  have hr := segT_rem ts hts e
  obtain ⟨_, h2, h3⟩ := segT_ok ts hts
  have e' : segs (ts.foldl addS ([], [])) = g0 :: rem := e
  rw [e'] at h2 h3
  have e1 := encR_len z rem
  rw [List.flatten_cons, List.length_append, List.length_cons] at h2
  have e2 := flat_len g0 (h3 g0 List.mem_cons_self)
  have e3 := outR_len rem fun g hg => h3 g (List.mem_cons_of_mem _ hg)
  have e4 : ∀ g ∈ rem, g.length ≤ rem.flatten.length := fun g hg => by
    obtain ⟨a, b, rfl⟩ := List.append_of_mem hg
    rw [List.flatten_append, List.flatten_cons, List.length_append, List.length_append]
    lia
  rw [e]
  refine runF_of rfl (joi1_gives h z hz g0 rem hr ?_ (by lia) (by rw [List.length_append]; lia) (fun g hg => ?_) _ rfl rfl)
  · show (g0.map encW ++ encR z rem).length ≤ 50
    rw [List.length_append, List.length_map, e1]
    lia
  · have := flat_len g (h3 g (List.mem_cons_of_mem _ hg))
    have := e4 g hg
    lia
def Pk57 := Ttranslate h (tra_ok h H) (ActL.le (joi_ok h) (Nat.le_add_left 1 1))
def E57 : List D → Option D := runF ["pat"] (Pk57 h H).1
theorem trl_ok : ActL c 3 (fun vs => call (.ref 57) vs) (E57 h H) := (Pk57 h H).2 _ (runF_HF _ _)
theorem E57_of (ts : List Tk) (hts : ∀ t ∈ ts, t.ok) (hl : (srcs ts).length ≤ 100) (hn : ts.length ≤ 40) : E57 h H [encW (srcs ts)] = some (encW (txtOf (segT ts))) := by
  refine runF_of rfl ?_
  obtain ⟨r0, hr⟩ : ∃ r0 : Rho, r0 = (["pat"] : List Str).zip (List.map Ent.sh [encW (srcs ts)]) := ⟨_, rfl⟩
  rw [← hr]
  have g1 : r0.get "pat" = some (.sh (encW (srcs ts))) := by rw [hr]; rfl
  clear hr
  unfold Pk57 Ttranslate packT
  dsimp only
  refine ⟨[], objF_of fun a => ?_⟩
  show Gives _ _
  have e1 := E76_of h H ts hts hl (.adr a) (.inr ⟨a, rfl⟩)
  have e2 := E83_of h ts hts hn (.adr a) (.inr ⟨a, rfl⟩)
  have a1 : ((r0.kill "STAR").put "STAR" (.sh (.adr a))).get "pat" = some (.sh (encW (srcs ts))) := by rw [get_kp, if_neg (by decide), g1]; rfl
  have a2 : ((r0.kill "STAR").put "STAR" (.sh (.adr a))).get "STAR" = some (.sh (.adr a)) := by rw [get_kp, if_pos rfl]
  generalize (r0.kill "STAR").put "STAR" (.sh (.adr a)) = r1 at a1 a2
  refine seq_put "parts" (.sh (.list (encS (.adr a) (segT ts)))) (by simp only [a1, a2, Option.bind_some, e1]) fun r2 I2 => ?_
  have b1 : r2.get "parts" = some (.sh (.list (encS (.adr a) (segT ts)))) := by rw [I2, if_pos rfl]
  have b2 : r2.get "STAR" = some (.sh (.adr a)) := by rw [I2, if_neg (by decide), a2]; rfl
  refine seq_done ?_
  simp only [b1, b2, Option.bind_some, e2]
end
/-! ### the pattern -/
theorem fmod_nat (x : Int) (m : Nat) (h : 0 < m) : ∃ n : Nat, x.fmod m = (n : Int) ∧ n < m := by
  have h0 : 0 ≤ x.fmod m := Int.fmod_nonneg_of_pos _ (by lia)
  have h1 : x.fmod m < m := Int.fmod_lt_of_pos _ (by lia)
  obtain ⟨n, hn⟩ := Int.eq_ofNat_of_zero_le h0
  exact ⟨n, hn, by omega⟩
theorem oDivS (x : Int) (k : Int) (h : 0 < k ∧ k < 1000000) : oDiv (.int x) (.int k) = some (.int (x.fdiv k)) := by
  unfold oDiv
  dsimp only
  rw [if_pos h]
theorem oModS (x : Int) (k : Int) (h : k ≠ 0) : oMod (.int x) (.int k) = some (.int (x.fmod k)) := by
  unfold oMod
  dsimp only
  rw [if_neg h]
theorem for_fold {α β : Type} {v : Str} {fb : Rho → Option (Rho × Fl)} (Inv : α → Rho → Prop) (enc : β → D) (f : α → β → α) (ok : β → Prop) (bd : α → Nat) (B : Nat) (hb : ∀ x d, ok d → bd (f x d) ≤ bd x + 1)
    (hfb : ∀ x d r, Inv x r → bd x < B → ok d → ∃ r', fb ((r.kill v).put v (.sh (enc d))) = some (r', .next) ∧ Inv (f x d) r') :
    ∀ (ds : List β) (x : α) (r : Rho), bd x + ds.length ≤ B → (∀ d ∈ ds, ok d) → Inv x r → ∃ r', forF v fb (ds.map enc) r = some (r', .next) ∧ Inv (ds.foldl f x) r'
  | [], x, r, _, _, I => ⟨r, rfl, I⟩
  | d :: ds, x, r, hB, ho, I => by
    rw [List.length_cons] at hB
    have hd := ho d List.mem_cons_self
    obtain ⟨r', e, I'⟩ := hfb x d r I (by lia) hd
    rw [List.map_cons, List.foldl_cons]
    unfold forF
    rw [e]
    have := hb x d hd
    exact for_fold Inv enc f ok bd B hb hfb ds (f x d) r' (by lia) (fun d' h' => ho d' (List.mem_cons_of_mem _ h')) I'

def itemsL (p q : Nat) : List (List Tk) := [[.star], [.quest], [.one p], [.one q], [.br [p, q]], [.br [33, p]], [.br [33, q]], []]
def itemT (p q : Nat) (x : Int) : List Tk := (itemsL p q).getD (x.fmod 8).toNat []
def stepP (p q : Nat) (s : List Tk × Nat) (x : Int) : List Tk × Nat :=
  if x.fmod 8 = 0 then (s.1 ++ [.star], s.2) else if 0 < s.2 then (s.1 ++ itemT p q x, s.2 - 1) else s
def patT (p q : Nat) (ns : List Int) : List Tk := (ns.foldl (stepP p q) ([], 3)).1
theorem itemT_mem (p q : Nat) (x : Int) : itemT p q x ∈ itemsL p q := by
  unfold itemT
  obtain ⟨n, hn, hl⟩ := fmod_nat x 8 (by decide)
  have hn' : x.fmod 8 = (n : Int) := hn
  have hl' : n < (itemsL p q).length := hl
  rw [hn', show ((n : Int)).toNat = n from rfl, List.getD_eq_getElem?_getD, List.getElem?_eq_getElem hl']
  exact List.getElem_mem _
theorem itemT_all {p q : Nat} {f : List Tk → Bool} (h : (itemsL p q).all f = true) (x : Int) : f (itemT p q x) = true := List.all_eq_true.mp h _ (itemT_mem p q x)
theorem itemT_le (p q : Nat) (x : Int) : (itemT p q x).length ≤ 1 := Nat.le_of_ble_eq_true (itemT_all (f := fun l => Nat.ble l.length 1) rfl x)
def okB : Tk → Bool
  | .one c => c == 97 || c == 98 || c == 65
  | .br s => brs.contains s
  | _ => true
theorem okB_of {t : Tk} (h : okB t = true) : t.ok := by
  cases t with
  | one c =>
    have h' : (c == 97 || c == 98 || c == 65) = true := h
    simp only [Bool.or_eq_true, beq_iff_eq] at h'
    exact or_assoc.mp h'
  | br s => exact List.contains_iff_mem.mp h
  | _ => exact trivial
theorem src4 (t : Tk) (ht : t.ok) : t.src.length ≤ 4 := by
  cases t with
  | star => exact (by decide : 1 ≤ 4)
  | one c => exact (by decide : 1 ≤ 4)
  | quest => exact (by decide : 1 ≤ 4)
  | br s =>
    have : ∀ s ∈ brs, (Tk.src (.br s)).length ≤ 4 := by decide
    exact this s ht
def PQ (p q : Nat) : Prop := p = 97 ∧ (q = 98 ∨ q = 65)
theorem itemT_ok {p q : Nat} (h : PQ p q) (x : Int) : ∀ t ∈ itemT p q x, t.ok := by
  obtain ⟨rfl, rfl | rfl⟩ := h
  · exact fun t ht => okB_of (List.all_eq_true.mp (itemT_all (f := fun l => l.all okB) rfl x) t ht)
  · exact fun t ht => okB_of (List.all_eq_true.mp (itemT_all (f := fun l => l.all okB) rfl x) t ht)
theorem srcs_le : ∀ (ts : List Tk), (∀ t ∈ ts, t.ok) → (srcs ts).length ≤ 4 * ts.length
  | [], _ => Nat.le_refl _
  | t :: ts, h => by
    have h1 := srcs_le ts fun t' q => h t' (List.mem_cons_of_mem _ q)
    have h2 := src4 t (h t List.mem_cons_self)
    have e : srcs (t :: ts) = t.src ++ srcs ts := by unfold srcs; rw [List.flatMap_cons]
    rw [e, List.length_append, List.length_cons]
    lia
theorem stepP_ok {p q : Nat} (h : PQ p q) (s : List Tk × Nat) (x : Int) (hs : ∀ t ∈ s.1, t.ok) : (∀ t ∈ (stepP p q s x).1, t.ok) ∧ (stepP p q s x).1.length ≤ s.1.length + 1 := by
  unfold stepP
  have h1 := itemT_le p q x
  split
  · exact ⟨fun t ht => (List.mem_append.mp ht).elim (hs t) fun w => by rw [List.mem_singleton.mp w]; exact trivial, by simp⟩
  · split
    · exact ⟨fun t ht => (List.mem_append.mp ht).elim (hs t) (itemT_ok h x t), by rw [List.length_append]; lia⟩
    · exact ⟨hs, Nat.le_succ _⟩
theorem patT_ok0 {p q : Nat} (h : PQ p q) : ∀ (ns : List Int) (s : List Tk × Nat), (∀ t ∈ s.1, t.ok) → (∀ t ∈ (ns.foldl (stepP p q) s).1, t.ok) ∧ (ns.foldl (stepP p q) s).1.length ≤ s.1.length + ns.length
  | [], _, hs => ⟨hs, Nat.le_refl _⟩
  | x :: ns, s, hs => by
    obtain ⟨h1, h2⟩ := stepP_ok h s x hs
    obtain ⟨h3, h4⟩ := patT_ok0 h ns (stepP p q s x) h1
    rw [List.foldl_cons, List.length_cons]
    exact ⟨h3, by lia⟩
theorem stepP_len (p q : Nat) (s : List Tk × Nat) (x : Int) : (stepP p q s x).1.length ≤ s.1.length + 1 := by
  unfold stepP
  have h1 := itemT_le p q x
  split
  · simp
  · split
    · rw [List.length_append]; lia
    · exact Nat.le_succ _
theorem items_get (p q : Nat) (x : Int) : oIdx (.list ((itemsL p q).map fun l => encW (srcs l))) (.int (x.fmod 8)) = some (encW (srcs (itemT p q x))) := by
  have hlim := lim_eq
  obtain ⟨n, hn, hl⟩ := fmod_nat x 8 (by decide)
  have hn' : x.fmod 8 = (n : Int) := hn
  have h8 : (itemsL p q).length = 8 := rfl
  rw [hn', idx_L _ n (encW (srcs (itemT p q x))) ?_ (by rw [List.length_map]; lia)]
  rw [List.getElem?_map]
  unfold itemT
  rw [hn', List.getD_eq_getElem?_getD]
  have : n < (itemsL p q).length := by lia
  rw [show ((n : Int)).toNat = n from rfl, List.getElem?_eq_getElem this]
  rfl
theorem srcs_app (a b : List Tk) : srcs (a ++ b) = srcs a ++ srcs b := by unfold srcs; rw [List.flatMap_append]
theorem pattern_gives {P : Params} {c : Cx} (h : CF (KK P) c) {p q : Nat} (hpq : PQ p q) (ns : List Int) (hl : ns.length ≤ 50) (r0 : Rho) (g1 : r0.get "numbers" = some (.sh (.list (ns.map .int)))) (g2 : r0.get "pair" = some (.sh (encW [p, q]))) : Gives ((T_law_pattern h).1 r0) (encW (srcs (patT p q ns))) := by
  have hlim := lim_eq
  unfold T_law_pattern packT
  dsimp only
  have i0 : oIdx (encW [p, q]) (.int 0) = some (.str (T [p])) := idx_pos [p, q] 0 p rfl (by rw [hlim]; simp)
  have i1 : oIdx (encW [p, q]) (.int 1) = some (.str (T [q])) := idx_pos [p, q] 1 q rfl (by rw [hlim]; simp)
  have c1 : ("[!" : Str) = T [91, 33] := by decide
  have ad : ∀ a b : List Nat, a.length + b.length ≤ 100 → oAdd (.str (T a)) (.str (T b)) = some (.str (T (a ++ b))) := fun a b hab => oAdd_T a b (by lia)
  have a1 := ad [91] [p, q] (by simp)
  have a2 := ad ([91] ++ [p, q]) [93] (by simp)
  have a3 := ad [91, 33] [p] (by simp)
  have a4 := ad ([91, 33] ++ [p]) [93] (by simp)
  have a5 := ad [91, 33] [q] (by simp)
  have a6 := ad ([91, 33] ++ [q]) [93] (by simp)
  have l8 : ∀ a b c d e f g i : D, ([a, b, c, d, e, f, g, i] : List D).length ≤ lim := fun _ _ _ _ _ _ _ _ => by simp only [List.length_cons, List.length_nil]; lia
  refine seq_put "items" (.sh (.list ((itemsL p q).map fun l => encW (srcs l)))) ?_ fun r1 I1 => ?_
  · simp only [g2, Option.bind_some, i0, i1, brk, cbrk, c1, star, quest, emp_eq]
    simp only [encW] at a1 ⊢
    simp only [a1, a2, a3, a4, a5, a6, Option.bind_some, if_pos (l8 _ _ _ _ _ _ _ _)]
    rfl
  have b1 := get_sh I1 g1 (by decide)
  have b2 : r1.get "items" = some (.sh (.list ((itemsL p q).map fun l => encW (srcs l)))) := by rw [I1, if_pos rfl]
  clear I1 g1 g2
  refine seq_put "pattern" (.sh (.str "")) (by simp only [Option.bind_some]) fun r2 I2 => ?_
  have d1 := get_sh I2 b1 (by decide)
  have d2 := get_sh I2 b2 (by decide)
  have d3 : r2.get "pattern" = some (.sh (.str (T []))) := by rw [I2, if_pos rfl, emp_eq]
  clear I2 b1 b2
  refine seq_put "left" (.sh (.int 3)) (by simp only [Option.bind_some]) fun r3 I3 => ?_
  have f1 := get_sh I3 d1 (by decide)
  have f2 := get_sh I3 d2 (by decide)
  have f3 := get_sh I3 d3 (by decide)
  have f4 : r3.get "left" = some (.sh (.int ((3 : Nat) : Int))) := by rw [I3, if_pos rfl]; rfl
  clear I3 d1 d2 d3
  refine seq_step (fun r => r.get "pattern" = some (.sh (.str (T (srcs (patT p q ns)))))) ?_ fun r4 I4 => ?_
  · simp only [f1, Option.bind_some, asItems]
    refine Exists.imp (fun r' h => And.imp_right (fun I => I.2.1) h) (for_fold (v := "x") (fun (s : List Tk × Nat) r => (∀ t ∈ s.1, t.ok) ∧ r.get "pattern" = some (.sh (.str (T (srcs s.1)))) ∧ r.get "left" = some (.sh (.int (s.2 : Int))) ∧ r.get "items" = some (.sh (.list ((itemsL p q).map fun l => encW (srcs l)))))
      D.int (stepP p q) (fun _ => True) (fun s => s.1.length) 51 (fun s x _ => stepP_len p q s x) ?_ ns ([], 3) r3 (by simp only [List.length_nil]; lia) (fun _ _ => trivial) ⟨fun t ht => (nomatch ht), f3, f4, f2⟩)
    · intro s x r ⟨I1, I2, I3, I4⟩ hb _
      have k1 : Rho.get ((r.kill "x").put "x" (.sh (.int x))) "pattern" = some (.sh (.str (T (srcs s.1)))) := get_sh (fun y => get_kp r "x" y _) I2 (by decide)
      have k2 : Rho.get ((r.kill "x").put "x" (.sh (.int x))) "left" = some (.sh (.int (s.2 : Int))) := get_sh (fun y => get_kp r "x" y _) I3 (by decide)
      have k3 := get_sh (fun y => get_kp r "x" y (.sh (.int x))) I4 (by decide)
      have k4 : Rho.get ((r.kill "x").put "x" (.sh (.int x))) "x" = some (.sh (.int x)) := by rw [get_kp, if_pos rfl]
      generalize (r.kill "x").put "x" (.sh (.int x)) = r9 at k1 k2 k3 k4
      have m8 := oModS x 8 (by decide)
      have hsl := srcs_le s.1 I1
      obtain ⟨ok1, _⟩ := stepP_ok hpq s x I1
      simp only [seqF_id, k4, Option.bind_some, m8, oEq_int, asB]
      unfold stepP at ok1 ⊢
      by_cases h0 : x.fmod 8 = 0
      · rw [if_pos h0] at ok1 ⊢
        rw [if_pos (beq_iff_eq.mpr h0)]
        have e1 := oAdd_T (srcs s.1) [42] (by simp only [List.length_cons, List.length_nil]; lia)
        refine ⟨_, by simp only [k1, Option.bind_some, star, e1]; rfl, ok1, ?_, ?_, ?_⟩
        · rw [get_kp, if_pos rfl, srcs_app]; rfl
        · rw [get_kp, if_neg (by decide), k2]; rfl
        · rw [get_kp, if_neg (by decide), k3]; rfl
      · rw [if_neg h0] at ok1 ⊢
        rw [if_neg (fun w => h0 (beq_iff_eq.mp w))]
        have gt : oGt (.int (s.2 : Int)) (.int 0) = some (.bool (decide ((0 : Int) < (s.2 : Int)))) := rfl
        simp only [k2, Option.bind_some, gt, asB]
        by_cases h1 : 0 < s.2
        · rw [if_pos h1] at ok1 ⊢
          rw [if_pos (decide_eq_true (by lia))]
          have e2 := items_get p q x
          have hit := srcs_le (itemT p q x) (itemT_ok hpq x)
          have hil := itemT_le p q x
          have e1 := oAdd_T (srcs s.1) (srcs (itemT p q x)) (by lia)
          refine nx_put "pattern" (.sh (.str (T (srcs s.1 ++ srcs (itemT p q x))))) (by
            simp only [encW] at e2 k3
            simp only [k1, k3, k4, Option.bind_some, m8, e2, e1]) fun q1 J1 => ?_
          have j1 := get_sh J1 k2 (by decide)
          have j2 := get_sh J1 k3 (by decide)
          have j3 : q1.get "pattern" = some (.sh (.str (T (srcs s.1 ++ srcs (itemT p q x))))) := by rw [J1, if_pos rfl]
          have sb : oSub (.int (s.2 : Int)) (.int 1) = some (.int ((s.2 - 1 : Nat) : Int)) := by
            show some (D.int ((s.2 : Int) - 1)) = _
            congr 2
            lia
          refine ⟨_, by simp only [seqF_id, j1, Option.bind_some, sb]; rfl, ok1, ?_, ?_, ?_⟩
          · rw [get_kp, if_neg (by decide), j3, srcs_app]; rfl
          · rw [get_kp, if_pos rfl]
          · rw [get_kp, if_neg (by decide), j2]; rfl
        · rw [if_neg h1] at ok1 ⊢
          rw [if_neg (fun w => h1 (by have := of_decide_eq_true w; lia))]
          exact ⟨r9, rfl, ok1, k1, k2, k3⟩
  refine seq_done ?_
  simp only [I4, Option.bind_some, encW]
def E99 {P : Params} {c : Cx} (h : CF (KK P) c) : List D → Option D := runF ["numbers", "pair"] (T_law_pattern h).1
theorem pat_ok {P : Params} {c : Cx} (h : CF (KK P) c) : ActL c 1 (fun vs => call (.ref 99) vs) (E99 h) := (T_law_pattern h).2 _ (runF_HF _ _)
theorem E99_of {P : Params} {c : Cx} (h : CF (KK P) c) {p q : Nat} (hpq : PQ p q) (ns : List Int) (hl : ns.length ≤ 50) : E99 h [.list (ns.map .int), encW [p, q]] = some (encW (srcs (patT p q ns))) := runF_of rfl (pattern_gives h hpq ns hl _ rfl rfl)
end Mine
end SQ4

/-! Q5 -/
noncomputable section SQ5
namespace Mine
/-! ### the words -/
def layerF (p q : Nat) : Nat → List (List Nat)
  | 0 => [[]]
  | n + 1 => (layerF p q n).flatMap fun w => [p, q].map fun s => w ++ [s]
def wordsF (p q : Nat) : Nat → List (List Nat)
  | 0 => [[]]
  | n + 1 => wordsF p q n ++ layerF p q (n + 1)
theorem layer_len (p q : Nat) : ∀ n, (layerF p q n).length = 2 ^ n
  | 0 => rfl
  | n + 1 => by
    have : ∀ l : List (List Nat), (l.flatMap fun w => [p, q].map fun s => w ++ [s]).length = l.length * 2 := by
      intro l
      induction l with
      | nil => rfl
      | cons a l ih => rw [List.flatMap_cons, List.length_append, ih, List.length_cons]; simp; lia
    show ((layerF p q n).flatMap _).length = _
    rw [this, layer_len p q n, Nat.pow_succ]
theorem words_len (p q : Nat) : ∀ n, (wordsF p q n).length + 1 = 2 ^ (n + 1)
  | 0 => rfl
  | n + 1 => by
    have h1 := words_len p q n
    have h2 := layer_len p q (n + 1)
    show (wordsF p q n ++ layerF p q (n + 1)).length + 1 = _
    rw [List.length_append, h2, Nat.pow_succ 2 (n + 1)]
    lia
theorem layer_mem (p q : Nat) : ∀ (n : Nat) (w : List Nat), w ∈ layerF p q n ↔ w.length = n ∧ ∀ y ∈ w, y = p ∨ y = q
  | 0, w => by
    show w ∈ [[]] ↔ _
    rw [List.mem_singleton]
    refine ⟨fun e => by subst e; exact ⟨rfl, fun y hy => nomatch hy⟩, fun e => List.length_eq_zero_iff.mp e.1⟩
  | n + 1, w => by
    show w ∈ (layerF p q n).flatMap _ ↔ _
    rw [List.mem_flatMap]
    constructor
    · rintro ⟨u, hu, hw⟩
      obtain ⟨h1, h2⟩ := (layer_mem p q n u).mp hu
      obtain ⟨s, hs, rfl⟩ := List.mem_map.mp hw
      refine ⟨by rw [List.length_append, h1]; rfl, fun y hy => ?_⟩
      rcases List.mem_append.mp hy with q' | q'
      · exact h2 y q'
      · rw [List.mem_singleton.mp q']
        simpa using hs
    · rintro ⟨h1, h2⟩
      rcases List.eq_nil_or_concat w with rfl | ⟨u, s, rfl⟩
      · cases h1
      · rw [List.concat_eq_append] at h1 h2 ⊢
        rw [List.length_append, List.length_singleton] at h1
        refine ⟨u, (layer_mem p q n u).mpr ⟨by lia, fun y hy => h2 y (List.mem_append_left _ hy)⟩, List.mem_map.mpr ⟨s, ?_, rfl⟩⟩
        have := h2 s (List.mem_append_right _ (List.mem_singleton.mpr rfl))
        simpa using this
theorem words_mem (p q : Nat) : ∀ (n : Nat) (w : List Nat), w ∈ wordsF p q n ↔ w.length ≤ n ∧ ∀ y ∈ w, y = p ∨ y = q
  | 0, w => by
    have := layer_mem p q 0 w
    show w ∈ [[]] ↔ _
    rw [Nat.le_zero]
    exact this
  | n + 1, w => by
    show w ∈ wordsF p q n ++ layerF p q (n + 1) ↔ _
    rw [List.mem_append, words_mem p q n, layer_mem p q (n + 1)]
    constructor
    · rintro (⟨h1, h2⟩ | ⟨h1, h2⟩)
      · exact ⟨Nat.le_succ_of_le h1, h2⟩
      · exact ⟨Nat.le_of_eq h1, h2⟩
    · rintro ⟨h1, h2⟩
      by_cases h : w.length = n + 1
      · exact .inr ⟨h, h2⟩
      · exact .inl ⟨by lia, h2⟩
theorem for_range {v : Str} {fb : Rho → Option (Rho × Fl)} {n : Nat} (Inv : Nat → Rho → Prop) (hfb : ∀ k r, Inv k r → k < n → ∃ r', fb ((r.kill v).put v (.sh (.int (0 + (k : Int))))) = some (r', .next) ∧ Inv (k + 1) r') (r : Rho) (I : Inv 0 r) :
    ∃ r', forF v fb ((List.range n).map fun (i : Nat) => D.int (0 + (i : Int))) r = some (r', .next) ∧ Inv n r' := by
  have key : ∀ (m k : Nat) (r : Rho), k + m = n → Inv k r → ∃ r', forF v fb ((List.range' k m).map fun (i : Nat) => D.int (0 + (i : Int))) r = some (r', .next) ∧ Inv n r' := by
    intro m
    induction m with
    | zero => intro k r e I; exact ⟨r, rfl, by rw [← e]; exact I⟩
    | succ m ih =>
      intro k r e I
      obtain ⟨r', e1, I'⟩ := hfb k r I (by lia)
      rw [List.range'_succ, List.map_cons]
      unfold forF
      rw [e1]
      exact ih (k + 1) r' (by lia) I'
  rw [List.range_eq_range']
  exact key n 0 r (Nat.zero_add n) I
theorem words_gives {P : Params} {c : Cx} (h : CF (KK P) c) (p q n : Nat) (hn : n ≤ 12) (r0 : Rho) (g1 : r0.get "pair" = some (.sh (encW [p, q]))) (g2 : r0.get "size" = some (.sh (.int (n : Int)))) : Gives ((T_law_words h).1 r0) (.list ((wordsF p q n).map encW)) := by
  have hlim := lim_eq
  unfold T_law_words packT
  dsimp only
  have l1 : ([D.str ""] : List D).length ≤ lim := by simp only [List.length_cons, List.length_nil]; lia
  refine seq_put "layer" (.sh (.list ((layerF p q 0).map encW))) (by simp only [Option.bind_some, if_pos l1]; rfl) fun r1 I1 => ?_
  have b1 := get_sh I1 g1 (by decide)
  have b2 := get_sh I1 g2 (by decide)
  have b3 : r1.get "layer" = some (.sh (.list ((layerF p q 0).map encW))) := by rw [I1, if_pos rfl]
  clear I1 g1 g2
  refine seq_put "words" (.sh (.list ((wordsF p q 0).map encW))) (by simp only [Option.bind_some, if_pos l1]; rfl) fun r2 I2 => ?_
  have d1 := get_sh I2 b1 (by decide)
  have d2 := get_sh I2 b2 (by decide)
  have d3 := get_sh I2 b3 (by decide)
  have d4 : r2.get "words" = some (.sh (.list ((wordsF p q 0).map encW))) := by rw [I2, if_pos rfl]
  clear I2 b1 b2 b3
  refine seq_step (fun r => r.get "words" = some (.sh (.list ((wordsF p q n).map encW)))) ?_ fun r3 I3 => ?_
  · have er := range_small n (by lia)
    simp only [d2, Option.bind_some, er]
    refine Exists.imp (fun r' h => And.imp_right (fun I => I.2.2) h) (for_range (fun k r => r.get "pair" = some (.sh (encW [p, q])) ∧ r.get "layer" = some (.sh (.list ((layerF p q k).map encW))) ∧ r.get "words" = some (.sh (.list ((wordsF p q k).map encW)))) (fun k r I hk => ?_) r2 ⟨d1, d3, d4⟩)
    obtain ⟨I1, I2, I3⟩ := I
    have k1 := get_sh (fun y => get_kp r "k" y (.sh (.int (0 + (k : Int))))) I1 (by decide)
    have k2 := get_sh (fun y => get_kp r "k" y (.sh (.int (0 + (k : Int))))) I2 (by decide)
    have k3 := get_sh (fun y => get_kp r "k" y (.sh (.int (0 + (k : Int))))) I3 (by decide)
    generalize (r.kill "k").put "k" (.sh (.int (0 + (k : Int)))) = r9 at k1 k2 k3
    have hk8 : 2 ^ k ≤ 2 ^ 12 := Nat.pow_le_pow_right (by decide) (by lia)
    have ll := layer_len p q k
    have lw := words_len p q k
    have ll1 := layer_len p q (k + 1)
    rw [Nat.pow_succ] at lw ll1
    have hfm : (layerF p q k).flatMap (fun w => [p, q].map fun s => encW (w ++ [s])) = (layerF p q (k + 1)).map encW := by
      show _ = ((layerF p q k).flatMap fun w => [p, q].map fun s => w ++ [s]).map encW
      rw [List.map_flatMap]
      rfl
    have hb : ∀ {o : Option (List D)} {l : List D} {g : List D → Option (Rho × Fl)}, o = some l → o.bind g = g l := fun e => by rw [e]; rfl
    refine nx_put "layer" (.sh (.list ((layerF p q (k + 1)).map encW))) ((hb (compO_for (enc1 := encW) (enc2 := fun s => encW [s]) (fun w s => encW (w ++ [s])) [("pair", .sh (encW [p, q]))] (layerF p q k) (fun _ => [p, q]) ?_ ?_ rfl rfl rfl (by decide) ?_ ?_ ?_)).trans ?_) fun q1 J1 => ?_
    · simp only [k2, Option.bind_some, asItems]
    · unfold capO
      rw [k1]
      rfl
    · intro w hw
      rw [get_there _ _ (by decide)]
      rfl
    · intro w hw s hs
      have hwl := ((layer_mem p q k w).mp hw).1
      have ea := oAdd_T w [s] (by simp only [List.length_cons, List.length_nil]; lia)
      simp only [get_here, get_there (x := ("sign" : Str)) (y := ("word" : Str)) _ _ (by decide), Option.bind_some]
      exact ea
    · rw [hfm, List.length_map]; lia
    · rw [hfm]
    have m1 := get_sh J1 k1 (by decide)
    have m3 := get_sh J1 k3 (by decide)
    have m2 : q1.get "layer" = some (.sh (.list ((layerF p q (k + 1)).map encW))) := by rw [J1, if_pos rfl]
    have ea := oAdd_L ((wordsF p q k).map encW) ((layerF p q (k + 1)).map encW) (by rw [List.length_map, List.length_map]; lia)
    refine ⟨_, by simp only [seqF_id, m2, m3, Option.bind_some, ea]; rfl, ?_, ?_, ?_⟩
    · rw [get_kp, if_neg (by decide), m1]; rfl
    · rw [get_kp, if_neg (by decide), m2]; rfl
    · rw [get_kp, if_pos rfl, ← List.map_append]; rfl
  refine seq_done ?_
  simp only [I3, Option.bind_some]
def E104 {P : Params} {c : Cx} (h : CF (KK P) c) : List D → Option D := runF ["pair", "size"] (T_law_words h).1
theorem wrd_ok {P : Params} {c : Cx} (h : CF (KK P) c) : ActL c 1 (fun vs => call (.ref 104) vs) (E104 h) := (T_law_words h).2 _ (runF_HF _ _)
theorem E104_of {P : Params} {c : Cx} (h : CF (KK P) c) (p q n : Nat) (hn : n ≤ 12) : E104 h [encW [p, q], .int (n : Int)] = some (.list ((wordsF p q n).map encW)) := runF_of rfl (words_gives h p q n hn _ rfl rfl)
end Mine
end SQ5

/-! Q6 -/
noncomputable section SQ6
namespace Mine
theorem bools_map {β : Type} (f : β → Bool) : ∀ l : List β, boolsOf (l.map fun b => .bool (f b)) = some (l.map f)
  | [] => rfl
  | b :: l => by
    show (boolsOf (l.map fun b => .bool (f b))).map _ = _
    rw [bools_map f l]
    rfl
/-- a part takes a sign -/
def fitX (x : List Nat) (s : Nat) : Bool :=
  if x.take 2 = [91, 94] then !((x.drop 2).dropLast.contains s) else x == [46] || (x == [s] || (x.take 1 == [91] && (x.drop 1).dropLast.contains s))
def allX : List (List Nat) := [[46], [97], [98], [65], [91, 97, 98, 93], [91, 97, 65, 93], [91, 94, 97, 93], [91, 94, 98, 93], [91, 94, 65, 93]]
theorem in_one (y : Nat) (u : List Nat) : oIn (.str (T [y])) (.str (T u)) = some (.bool (u.contains y)) := by
  show some (D.bool (!(Builtin.Str.occurrences (T u) ⟨#[y]⟩ 0 (T u).length 1).isEmpty)) = _
  rw [StrLaws.found_one]
  congr 2
  rw [Bool.eq_iff_iff, decide_eq_true_eq, List.contains_iff_mem]
  rfl
theorem nin_one (y : Nat) (u : List Nat) : oNotIn (.str (T [y])) (.str (T u)) = some (.bool (!u.contains y)) := by
  have e := in_one y u
  simp only [oIn, Option.some.injEq, D.bool.injEq] at e
  simp only [oNotIn, e]
theorem x_facts : ∀ x ∈ allX, x.length ≤ 4 ∧ (x.take 2 = [91, 94] → cutS (T x) (some 2) (some (-1)) = T ((x.drop 2).dropLast)) ∧ (x.take 2 ≠ [91, 94] → x.take 1 = [91] → cutS (T x) (some 1) (some (-1)) = T ((x.drop 1).dropLast)) := by decide
theorem Tb (a b : List Nat) : (T a == T b) = (a == b) := by
  rw [Bool.eq_iff_iff, beq_iff_eq, beq_iff_eq, T_inj]
theorem cut_fst (l : List Nat) (k : Nat) (hl : l.length ≤ lim) : oCut (.str (T l)) none (some (k : Int)) = some (.str (T (l.take k))) := by
  rw [cut_ok _ _ _ hl, cut_to l k]
theorem fits_gives {P : Params} {c : Cx} (h : CF (KK P) c) (x : List Nat) (hx : x ∈ allX) (y : Nat) (r0 : Rho) (g1 : r0.get "part" = some (.sh (encW x))) (g2 : r0.get "sign" = some (.sh (encW [y]))) :
    Gives ((T_law_fits h).1 r0) (.bool (fitX x y)) := by
  have hlim := lim_eq
  obtain ⟨hl, f1, f2⟩ := x_facts x hx
  have lp : x.length ≤ lim := by lia
  have c2 := cut_fst x 2 lp
  rw [show ((2 : Nat) : Int) = 2 from rfl] at c2
  have c1 := cut_fst x 1 lp
  rw [show ((1 : Nat) : Int) = 1 from rfl] at c1
  have hh : ("[^" : Str) = T [91, 94] := by decide
  have n1 : oNeg (.int 1) = some (.int (-1)) := rfl
  unfold encW at g1 g2
  unfold T_law_fits packT
  dsimp only
  by_cases h2 : x.take 2 = [91, 94]
  · have e1 := f1 h2
    have e3 : oCut (.str (T x)) (some 2) (some (-1)) = some (.str (T ((x.drop 2).dropLast))) := by rw [cut_ok _ _ _ lp, e1]
    have e4 := nin_one y (x.drop 2).dropLast
    refine seq_gives ⟨r0, ?_⟩
    simp only [g1, g2, Option.bind_some, asPart, c2, hh, oEq_str, h2, beq_self_eq_true, asB, if_true, n1, e3, e4, seqF]
    unfold fitX
    rw [if_pos h2]
  · have e5 : (T (x.take 2) == T [91, 94]) = false := by rw [Tb, beq_eq_false_iff_ne]; exact h2
    refine seq_step (fun r => r = r0) ⟨r0, by simp only [g1, Option.bind_some, asPart, c2, hh, oEq_str, e5, asB, Bool.false_eq_true, if_false], rfl⟩ ?_
    rintro r rfl
    refine seq_done ?_
    have ef : fitX x y = (x == [46] || (x == [y] || (x.take 1 == [91] && (x.drop 1).dropLast.contains y))) := by unfold fitX; rw [if_neg h2]
    rw [ef]
    simp only [g1, g2, Option.bind_some, asPart, c1, oEq_str, dot, brk, Tb, n1, oTruth]
    cases x == [46] with
    | true => rfl
    | false =>
      simp only [Bool.false_eq_true, if_false, Bool.false_or]
      cases x == [y] with
      | true => rfl
      | false =>
        simp only [Bool.false_eq_true, if_false, Bool.false_or]
        cases h1 : x.take 1 == [91] with
        | true =>
          have e1 := f2 h2 (beq_iff_eq.mp h1)
          have e3 : oCut (.str (T x)) (some 1) (some (-1)) = some (.str (T ((x.drop 1).dropLast))) := by rw [cut_ok _ _ _ lp, e1]
          simp only [if_true, e3, in_one, Option.bind_some, Bool.true_and]
        | false => rfl
def E111 {P : Params} {c : Cx} (h : CF (KK P) c) : List D → Option D := runF ["part", "sign"] (T_law_fits h).1
theorem fit_ok {P : Params} {c : Cx} (h : CF (KK P) c) : ActL c 1 (fun vs => call (.ref 111) vs) (E111 h) := (T_law_fits h).2 _ (runF_HF _ _)
theorem E111_of {P : Params} {c : Cx} (h : CF (KK P) c) (x : List Nat) (hx : x ∈ allX) (y : Nat) : E111 h [encW x, encW [y]] = some (.bool (fitX x y)) := runF_of rfl (fits_gives h x hx y _ rfl rfl)
/-! ### several parts at once -/
def fitAll (xs : List (List Nat)) (w : List Nat) : Bool := xs.length == w.length && (List.range w.length).all fun k => fitX (xs.getD k []) (w.getD k 0)
theorem any_false (l : List Bool) : (!(l.any (· == false))) = l.all id := by
  induction l with
  | nil => rfl
  | cons b l ih =>
    rw [List.any_cons, List.all_cons, ← ih]
    cases b <;> rfl
theorem fitall_gives {P : Params} {c : Cx} (h : CF (KK P) c) (xs : List (List Nat)) (hx : ∀ x ∈ xs, x ∈ allX) (w : List Nat) (l1 : xs.length ≤ 50) (l2 : w.length ≤ 50) (r0 : Rho) (g1 : r0.get "tests" = some (.sh (.list (xs.map encW)))) (g2 : r0.get "signs" = some (.sh (encW w))) :
    Gives ((T_law_fit_all h (fit_ok h)).1 r0) (.bool (fitAll xs w)) := by
  have hlim := lim_eq
  have e1 := len_L (xs.map encW) (by rw [List.length_map]; lia)
  rw [List.length_map] at e1
  have e2 := len_T w (by lia)
  unfold encW at g2
  unfold T_law_fit_all packT
  dsimp only
  refine seq_done ?_
  have ei : oEq (.int (xs.length : Int)) (.int (w.length : Int)) = some (.bool (xs.length == w.length)) := by
    rw [oEq_int]
    congr 2
    rw [Bool.eq_iff_iff, beq_iff_eq, beq_iff_eq]
    lia
  simp only [g1, g2, Option.bind_some, e1, e2, ei, oTruth]
  unfold fitAll
  cases hc : xs.length == w.length with
  | false => rfl
  | true =>
    have hle := beq_iff_eq.mp hc
    have hb : ∀ {o : Option (List D)} {l : List D} {g : D → Option D}, o = some l → (o.map D.list).bind g = g (.list l) := fun e => by rw [e]; rfl
    have er := range_small w.length (by lia)
    simp only [if_true, Bool.true_and]
    have key := fun fi fe hfi hfe => compO_all (cap := ["signs", "tests"]) (x := "k") (fi := fi) (fe := fe) (enc := fun (i : Nat) => D.int (0 + (i : Int))) (fun k => D.bool (fitX (xs.getD k []) (w.getD k 0))) (r := r0) [("signs", .sh (.str (T w))), ("tests", .sh (.list (xs.map encW)))] (List.range w.length) hfi (by unfold capO; rw [g2]; dsimp only; unfold capO; rw [g1]; rfl) rfl rfl hfe (by rw [List.length_range]; lia)
    rw [hb (key _ _ (by simp only [g2, Option.bind_some, e2, er]) fun k hk => ?_)]
    · have hbm := bools_map (fun k => fitX (xs.getD k []) (w.getD k 0)) (List.range w.length)
      simp only [oNotIn, hbm, Option.map_some, Option.bind_some, any_false]
      congr 2
      rw [List.all_map]
      rfl
    · have hk := List.mem_range.mp hk
      have i1 := idx_L (xs.map encW) k (encW (xs.getD k [])) (by rw [List.getElem?_map, List.getD_eq_getElem?_getD, List.getElem?_eq_getElem (by lia)]; rfl) (by rw [List.length_map]; lia)
      have i2 := idx_a w k hk (by lia)
      have hm1 : xs.getD k [] ∈ allX := hx _ (by rw [List.getD_eq_getElem?_getD, List.getElem?_eq_getElem (by lia)]; exact List.getElem_mem _)
      have e9 := E111_of h _ hm1 (w.getD k 0)
      unfold encW at e9
      simp only [get_here, get_there (x := ("k" : Str)) (y := ("tests" : Str)) _ _ (by decide), get_there (x := ("k" : Str)) (y := ("signs" : Str)) _ _ (by decide), get_there (x := ("signs" : Str)) (y := ("tests" : Str)) _ _ (by decide), Option.bind_some, Int.zero_add, i1, i2]
      exact e9
def E123 {P : Params} {c : Cx} (h : CF (KK P) c) : List D → Option D := runF ["tests", "signs"] (T_law_fit_all h (fit_ok h)).1
theorem fal_ok {P : Params} {c : Cx} (h : CF (KK P) c) : ActL c 2 (fun vs => call (.ref 123) vs) (E123 h) := (T_law_fit_all h (fit_ok h)).2 _ (runF_HF _ _)
theorem E123_of {P : Params} {c : Cx} (h : CF (KK P) c) (xs : List (List Nat)) (hx : ∀ x ∈ xs, x ∈ allX) (w : List Nat) (l1 : xs.length ≤ 50) (l2 : w.length ≤ 50) : E123 h [.list (xs.map encW), encW w] = some (.bool (fitAll xs w)) :=
  runF_of rfl (fitall_gives h xs hx w l1 l2 _ rfl rfl)
end Mine
end SQ6

/-! Q7 -/
noncomputable section SQ7
namespace Mine
/-- what the text is made of -/
inductive Lx where
  | op
  | dots
  | cl
  | pt (x : List Nat)
def Lx.txt : Lx → List Nat
  | .op => sep6
  | .dots => [46, 42]
  | .cl => [41]
  | .pt x => x
def Lx.ok : Lx → Prop
  | .pt x => x ∈ allX
  | _ => True
def stepL (s : Segs × List (List Nat)) : Lx → Segs × List (List Nat)
  | .op => (s.1 ++ [s.2], [])
  | .dots => (s.1 ++ [s.2], [])
  | .cl => s
  | .pt x => (s.1, s.2 ++ [x])
def ltx (ls : List Lx) : List Nat := ls.flatMap Lx.txt
def lexR : Segs → List Lx
  | [] => []
  | [g] => .dots :: g.map .pt
  | g :: rem => .op :: (g.map .pt ++ .cl :: lexR rem)
theorem pts_txt (g : List (List Nat)) : ltx (g.map .pt) = g.flatten := by
  unfold ltx
  rw [List.flatMap_map]
  exact List.flatMap_id'
theorem ltx_app (a b : List Lx) : ltx (a ++ b) = ltx a ++ ltx b := by unfold ltx; rw [List.flatMap_append]
theorem ltx_cons (a : Lx) (b : List Lx) : ltx (a :: b) = a.txt ++ ltx b := by unfold ltx; rw [List.flatMap_cons]
theorem lexR_txt : ∀ rem : Segs, ltx (lexR rem) = outR rem
  | [] => rfl
  | [g] => by
    unfold lexR outR
    rw [ltx_cons, pts_txt]
    rfl
  | g :: g' :: rem => by
    have ih := lexR_txt (g' :: rem)
    unfold lexR outR
    rw [ltx_cons, ltx_app, pts_txt, ltx_cons, ih]
    unfold grp
    simp only [List.append_assoc]
    rfl
theorem pts_fold (i : Segs) : ∀ (g l : List (List Nat)), (g.map Lx.pt).foldl stepL (i, l) = (i, l ++ g)
  | [], l => by simp
  | x :: g, l => by
    rw [List.map_cons, List.foldl_cons]
    show (g.map Lx.pt).foldl stepL (i, l ++ [x]) = _
    rw [pts_fold i g, List.append_assoc]
    rfl
theorem lexR_fold : ∀ (rem i : Segs) (l : List (List Nat)), segs ((lexR rem).foldl stepL (i, l)) = i ++ (l :: rem)
  | [], i, l => rfl
  | [g], i, l => by
    unfold lexR
    rw [List.foldl_cons]
    show segs ((g.map Lx.pt).foldl stepL (i ++ [l], [])) = _
    rw [pts_fold]
    unfold segs
    simp
  | g :: g' :: rem, i, l => by
    have ih := lexR_fold (g' :: rem) (i ++ [l]) g
    unfold lexR
    rw [List.foldl_cons, List.foldl_append]
    show segs ((Lx.cl :: lexR (g' :: rem)).foldl stepL ((g.map Lx.pt).foldl stepL (i ++ [l], []))) = _
    rw [pts_fold, List.foldl_cons, List.nil_append]
    show segs ((lexR (g' :: rem)).foldl stepL (i ++ [l], g)) = _
    rw [ih]
    simp
theorem lexR_ok : ∀ rem : Segs, (∀ g ∈ rem, ∀ x ∈ g, x ∈ allX) → ∀ b ∈ lexR rem, b.ok
  | [], _, _, h => nomatch h
  | [g], h, b, hb => by
    unfold lexR at hb
    rcases List.mem_cons.mp hb with rfl | hb
    · exact trivial
    · obtain ⟨x, hx, rfl⟩ := List.mem_map.mp hb
      exact h g List.mem_cons_self x hx
  | g :: g' :: rem, h, b, hb => by
    unfold lexR at hb
    rcases List.mem_cons.mp hb with rfl | hb
    · exact trivial
    · rcases List.mem_append.mp hb with hb | hb
      · obtain ⟨x, hx, rfl⟩ := List.mem_map.mp hb
        exact h g List.mem_cons_self x hx
      · rcases List.mem_cons.mp hb with rfl | hb
        · exact trivial
        · exact lexR_ok (g' :: rem) (fun q hq => h q (List.mem_cons_of_mem _ hq)) b hb
theorem allX_hd : ∀ x ∈ allX, (x.getD 0 0 = 91 ∨ (x.getD 0 0 = 46 ∨ x.getD 0 0 = 97 ∨ x.getD 0 0 = 98 ∨ x.getD 0 0 = 65) ∧ x.length = 1) ∧ 0 < x.length ∧ x.length ≤ 5 ∧ (x.getD 0 0 = 91 → x = x.dropLast ++ [93] ∧ 93 ∉ x.dropLast) := by decide
theorem ltx_hd (ls : List Lx) (h : ∀ b ∈ ls, b.ok) : (ltx ls).getD 0 0 ≠ 42 := by
  cases ls with
  | nil => decide
  | cons b ls =>
    rw [ltx_cons]
    cases b with
    | op => exact (by decide : (40 : Nat) ≠ 42)
    | dots => exact (by decide : (46 : Nat) ≠ 42)
    | cl => exact (by decide : (41 : Nat) ≠ 42)
    | pt x =>
      obtain ⟨h1, h2, _⟩ := allX_hd x (h _ List.mem_cons_self)
      have e : (x ++ ltx ls).getD 0 0 = x.getD 0 0 := by
        rw [List.getD_eq_getElem?_getD, List.getElem?_append_left h2, List.getD_eq_getElem?_getD]
      show (x ++ ltx ls).getD 0 0 ≠ 42
      rw [e]
      lia
theorem txt_pos (b : Lx) (h : b.ok) : 0 < b.txt.length := by
  cases b with
  | op => exact (by decide : 0 < sep6.length)
  | dots => exact (by decide : 0 < 2)
  | cl => exact (by decide : 0 < 1)
  | pt x => exact (allX_hd x h).2.1
theorem cut_rest (l : List Nat) (k : Nat) (hl : l.length ≤ lim) : oCut (.str (T l)) (some (k : Int)) none = some (.str (T (l.drop k))) := by
  rw [cut_ok _ _ _ hl, cut_from l k]
theorem cut_in43 (a F b : List Nat) (ha : a.length = 4) (hb : b.length = 3) : cutS (T (a ++ (F ++ b))) (some 4) (some (-3)) = T F := by
  unfold cutS cutL
  have h1 := clip_pos (a ++ (F ++ b)).length 4
  have h2 := clip_neg (a ++ (F ++ b)).length 3 (by decide)
  have e1 : clipAt (T (a ++ (F ++ b))).cps.toList.length 4 = 4 := by
    show clipAt (a ++ (F ++ b)).length ((4 : Nat) : Int) = 4
    rw [h1, List.length_append]; lia
  have e2 : clipAt (T (a ++ (F ++ b))).cps.toList.length (-3) = F.length + 4 := by
    show clipAt (a ++ (F ++ b)).length (-((3 : Nat) : Int)) = _
    rw [h2, List.length_append, List.length_append]; lia
  simp only [Option.elim, e1, e2]
  show (⟨(((a ++ (F ++ b)).drop 4).take (F.length + 4 - 4)).toArray⟩ : Str) = _
  rw [show (a ++ (F ++ b)).drop 4 = F ++ b by rw [← ha, List.drop_left], show F.length + 4 - 4 = F.length by lia, List.take_left]
  rfl
/-- the first place of a sign -/
theorem index_at (u v : List Nat) (k : Nat) (h : k ∉ u) : oIndex [.str (T (u ++ k :: v)), .str (T [k])] = some (.int (u.length : Int)) := by
  unfold oIndex
  dsimp only
  have sub1 : ∀ i, StrLaws.At (T (u ++ k :: v)) (T [k]) (T (u ++ k :: v)).length i ↔ (u ++ k :: v)[i]? = some k := fun i => by
    have := StrLaws.subAt_one (T (u ++ k :: v)) k i
    exact this
  have hat : (u ++ k :: v)[u.length]? = some k := by simp
  rcases StrLaws.occ_head (T (u ++ k :: v)) (T [k]) 1 (Nat.le_refl 1) with ⟨_, q⟩ | ⟨i, r, e, q1, q2⟩
  · exact absurd ((sub1 u.length).mpr hat) (q u.length)
  · rw [e]
    dsimp only
    have h1 : ¬ u.length < i := fun w => q2 u.length w ((sub1 _).mpr hat)
    have h2 : ¬ i < u.length := fun w => by
      have e2 := (sub1 i).mp q1
      rw [List.getElem?_append_left w] at e2
      exact h (List.mem_of_getElem? e2)
    have : i = u.length := by lia
    rw [this]
def encG (g : List (List Nat)) : D := .list (g.map encW)
theorem get_nest (r : Rho) (y z : Str) (e : Ent) : ((r.kill ".last").put y e).get z = if z = y then some e else (r.get z).map (Ent.kill ".last") := by
  rw [Rho.get_put, Rho.get_kill]
structure PI (fin : Segs × List (List Nat)) (ls : List Lx) (r : Rho) : Prop where
  ok : ∀ b ∈ ls, b.ok
  ln : (ltx ls).length ≤ 2000
  gr : r.get "rest" = some (.sh (.str (T (ltx ls))))
  ex : ∃ s : Segs × List (List Nat), r.get "pieces" = some (.nest (s.1.map encG) (s.2.map encW)) ∧ ls.foldl stepL s = fin ∧ s.1.length + s.2.length + ls.length ≤ 2000
theorem Tne (a : List Nat) : (T a != ("" : Str)) = !a.isEmpty := by
  rw [emp_eq]
  show (!(T a == T [])) = _
  rw [Tb]
  cases a <;> rfl
theorem neg3 : oNeg (.int 3) = some (.int (-3)) := rfl
theorem pieces_gives {P : Params} {c : Cx} (h : CF (KK P) c) (g0 : List (List Nat)) (rem : Segs) (hx : ∀ g ∈ g0 :: rem, ∀ x ∈ g, x ∈ allX) (hl : (g0.flatten ++ outR rem).length ≤ 1000) (r0 : Rho) (g1 : r0.get "text" = some (.sh (encW (txtOf (g0 :: rem))))) :
    Gives ((T_law_pieces h).1 r0) (.list ((g0 :: rem).map encG)) := by
  have hlim := lim_eq
  have hbody : g0.flatten ++ outR rem = ltx (g0.map .pt ++ lexR rem) := by rw [ltx_app, pts_txt, lexR_txt]
  have hfold : segs ((g0.map Lx.pt ++ lexR rem).foldl stepL ([], [])) = g0 :: rem := by
    rw [List.foldl_append, pts_fold, List.nil_append, lexR_fold]
    rfl
  have hok : ∀ b ∈ g0.map Lx.pt ++ lexR rem, b.ok := fun b hb => by
    rcases List.mem_append.mp hb with q | q
    · obtain ⟨x, hx', rfl⟩ := List.mem_map.mp q
      exact hx g0 List.mem_cons_self x hx'
    · exact lexR_ok rem (fun g hg => hx g (List.mem_cons_of_mem _ hg)) b q
  have hcut : oCut (encW (txtOf (g0 :: rem))) (some 4) (some (-3)) = some (.str (T (ltx (g0.map .pt ++ lexR rem)))) := by
    have e : txtOf (g0 :: rem) = pre4 ++ ((g0.flatten ++ outR rem) ++ suf3) := by
      show pre4 ++ (g0.flatten ++ outR rem) ++ suf3 = _
      rw [List.append_assoc]
    have h4 : pre4.length = 4 := rfl
    have h3 : suf3.length = 3 := rfl
    rw [e]
    unfold encW
    rw [cut_ok _ _ _ (by simp only [List.length_append] at hl ⊢; lia), cut_in43 _ _ _ h4 h3, hbody]
  rw [hbody] at hl
  generalize hls : g0.map Lx.pt ++ lexR rem = ls at *
  unfold T_law_pieces packT
  dsimp only
  have hlen : ls.length ≤ (ltx ls).length := by
    have : ∀ l : List Lx, (∀ b ∈ l, b.ok) → l.length ≤ (ltx l).length := by
      intro l
      induction l with
      | nil => intro _; exact Nat.le_refl _
      | cons b l ih =>
        intro hb
        have h1 := ih fun q hq => hb q (List.mem_cons_of_mem _ hq)
        have h2 := txt_pos b (hb b List.mem_cons_self)
        rw [ltx_cons, List.length_append, List.length_cons]
        lia
    exact this ls hok
  refine seq_step (fun r => r.get "text" = some (.sh (encW (txtOf (g0 :: rem)))) ∧ r.get "pieces" = some (.nest [] [])) ⟨_, rfl, ?_, ?_⟩ fun r1 I1 => ?_
  · rw [Rho.get_put, if_neg (by decide), Rho.get_kill, Rho.get_kill, g1]; rfl
  · rw [Rho.get_put, if_pos rfl]
  refine seq_step (PI (ls.foldl stepL ([], [])) ls) ⟨_, by simp only [I1.1, Option.bind_some, asPart, neg3, hcut]; rfl, hok, by lia, ?_, ([], []), ?_, rfl, ?_⟩ fun r2 I2 => ?_
  · rw [get_kp, if_pos rfl]
  · rw [get_kp, if_neg (by decide), I1.2]; rfl
  · simp only [List.length_nil]; lia
  refine seq_step (PI (ls.foldl stepL ([], [])) []) (while_list (PI (ls.foldl stepL ([], []))) (fun l r I => ?_) (fun b l r I => .inl ?_) ls lim r2 (by lia) I2) fun r3 I3 => ?_
  · simp only [I.gr, Option.bind_some, oNe_str, Tne, asB]
    congr 2
    cases l with
    | nil => rfl
    | cons b l =>
      have := txt_pos b (I.ok b List.mem_cons_self)
      rw [ltx_cons]
      cases hb : b.txt with
      | nil => rw [hb] at this; exact absurd this (Nat.lt_irrefl _)
      | cons _ _ => rfl
  · obtain ⟨ok, ln, gr, s, e1, e2, e3⟩ := I
    have hnest : getNest r "pieces" = some (s.1.map encG, s.2.map encW) := by unfold getNest; rw [e1]
    have l1 : (s.1.map encG).length < lim := by rw [List.length_map, ]; lia
    have l2 : (s.2.map encW).length < lim := by rw [List.length_map, ]; lia
    have okl : ∀ b ∈ l, b.ok := fun q hq => ok q (List.mem_cons_of_mem _ hq)
    rw [ltx_cons] at gr ln
    have lnl : (ltx l).length ≤ 2000 := by rw [List.length_append] at ln; lia
    rw [List.length_cons] at e3
    generalize hu : b.txt = u at *
    have c6 := cut_fst (u ++ ltx l) 6 (by lia)
    rw [show ((6 : Nat) : Int) = 6 from rfl] at c6
    have c2 := cut_fst (u ++ ltx l) 2 (by lia)
    rw [show ((2 : Nat) : Int) = 2 from rfl] at c2
    have c1 := cut_fst (u ++ ltx l) 1 (by lia)
    rw [show ((1 : Nat) : Int) = 1 from rfl] at c1
    have fin : ∀ (s' : Segs × List (List Nat)) (r' : Rho), r'.get "pieces" = some (.nest (s'.1.map encG) (s'.2.map encW)) → l.foldl stepL s' = ls.foldl stepL ([], []) → s'.1.length + s'.2.length + l.length ≤ 2000 → PI (ls.foldl stepL ([], [])) l ((r'.kill "rest").put "rest" (.sh (.str (T (ltx l))))) := fun s' r' q1 q2 q3 => by
      refine ⟨okl, lnl, by rw [get_kp, if_pos rfl], s', ?_, q2, q3⟩
      rw [get_kp, if_neg (by decide), q1]
      rfl
    have npush : ∀ r' : Rho, (∀ z, r'.get z = if z = ("pieces" : Str) then some (.nest (s.1.map encG ++ [.list (s.2.map encW)]) []) else (r.get z).map (Ent.kill ".last")) → r'.get "pieces" = some (.nest ((s.1 ++ [s.2]).map encG) (([] : List (List Nat)).map encW)) ∧ r'.get "rest" = some (.sh (.str (T (u ++ ltx l)))) := fun r' hr' => by
      refine ⟨?_, ?_⟩
      · rw [hr', if_pos rfl, List.map_append]; rfl
      · rw [hr', if_neg (by decide), gr]; rfl
    have rest : ∀ k : Nat, (u ++ ltx l).drop k = ltx l → oCut (.str (T (u ++ ltx l))) (some (k : Int)) none = some (.str (T (ltx l))) := fun k hk => by rw [cut_rest _ k (by lia), hk]
    simp only [seqF_id, gr, Option.bind_some, asPart, c6, c2, c1, oEq_str, sep6_eq, dots_eq, par_eq, Tb, asB]
    cases b with
    | op =>
      have hu' : sep6 = u := hu
      subst hu'
      have t1 : ((sep6 ++ ltx l).take 6 == sep6) = true := beq_iff_eq.mpr (List.take_left (l₁ := sep6))
      have d1 := rest 6 (List.drop_left (l₁ := sep6))
      rw [show ((6 : Nat) : Int) = 6 from rfl] at d1
      rw [t1, if_pos rfl]
      refine nx_step (fun r' => ∀ z, r'.get z = if z = ("pieces" : Str) then some (.nest (s.1.map encG ++ [.list (s.2.map encW)]) []) else (r.get z).map (Ent.kill ".last")) ⟨_, by simp only [hnest, Option.bind_some, if_pos l1], fun z => get_nest r _ z _⟩ fun r' hr' => ?_
      obtain ⟨n1, n2⟩ := npush r' hr'
      exact ⟨_, by simp only [seqF_id, n2, Option.bind_some, d1], fin (s.1 ++ [s.2], []) r' n1 e2 (by simp only [List.length_append, List.length_cons, List.length_nil]; lia)⟩
    | dots =>
      have hu' : [46, 42] = u := hu
      subst hu'
      have t1 : (([46, 42] ++ ltx l).take 6 == sep6) = false := by
        rw [beq_eq_false_iff_ne]
        intro w
        have := congrArg (fun u : List Nat => List.getD u 0 0) w
        exact absurd this (show ¬ (46 : Nat) = 40 by decide)
      have t2 : (([46, 42] ++ ltx l).take 2 == [46, 42]) = true := beq_iff_eq.mpr (List.take_left (l₁ := [46, 42]))
      have d1 := rest 2 (List.drop_left (l₁ := [46, 42]))
      rw [show ((2 : Nat) : Int) = 2 from rfl] at d1
      rw [t1, t2, if_neg Bool.false_ne_true, if_pos rfl]
      refine nx_step (fun r' => ∀ z, r'.get z = if z = ("pieces" : Str) then some (.nest (s.1.map encG ++ [.list (s.2.map encW)]) []) else (r.get z).map (Ent.kill ".last")) ⟨_, by simp only [hnest, Option.bind_some, if_pos l1], fun z => get_nest r _ z _⟩ fun r' hr' => ?_
      obtain ⟨n1, n2⟩ := npush r' hr'
      exact ⟨_, by simp only [seqF_id, n2, Option.bind_some, d1], fin (s.1 ++ [s.2], []) r' n1 e2 (by simp only [List.length_append, List.length_cons, List.length_nil]; lia)⟩
    | cl =>
      have hu' : [41] = u := hu
      subst hu'
      have t1 : (([41] ++ ltx l).take 6 == sep6) = false := by
        rw [beq_eq_false_iff_ne]
        intro w
        have := congrArg (fun u : List Nat => List.getD u 0 0) w
        exact absurd this (show ¬ (41 : Nat) = 40 by decide)
      have t2 : (([41] ++ ltx l).take 2 == [46, 42]) = false := by
        rw [beq_eq_false_iff_ne]
        intro w
        have := congrArg (fun u : List Nat => List.getD u 0 0) w
        exact absurd this (show ¬ (41 : Nat) = 46 by decide)
      have t3 : (([41] ++ ltx l).take 1 == [41]) = true := beq_iff_eq.mpr (List.take_left (l₁ := [41]))
      have d1 := rest 1 (List.drop_left (l₁ := [41]))
      rw [show ((1 : Nat) : Int) = 1 from rfl] at d1
      rw [t1, t2, t3, if_neg Bool.false_ne_true, if_neg Bool.false_ne_true, if_pos rfl]
      exact ⟨_, by simp only [d1, Option.bind_some], fin s r e1 e2 (by lia)⟩
    | pt x =>
      have hx := ok _ List.mem_cons_self
      obtain ⟨f1, f2, f3, f4⟩ := allX_hd x hx
      have hd42 := ltx_hd l okl
      have hu' : x = u := hu
      subst hu'
      have h0 : (x ++ ltx l).getD 0 0 = x.getD 0 0 := by
        rw [List.getD_eq_getElem?_getD, List.getElem?_append_left f2, List.getD_eq_getElem?_getD]
      have hdT : ∀ k : Nat, 0 < k → ((x ++ ltx l).take k).getD 0 0 = x.getD 0 0 := fun k hk => by
        rw [List.getD_eq_getElem?_getD, List.getElem?_take, if_pos hk, ← List.getD_eq_getElem?_getD, h0]
      have t1 : ((x ++ ltx l).take 6 == sep6) = false := by
        rw [beq_eq_false_iff_ne]
        intro w
        have := congrArg (fun u : List Nat => List.getD u 0 0) w
        rw [hdT 6 (by lia)] at this
        have e40 : sep6.getD 0 0 = 40 := rfl
        lia
      have t2 : ((x ++ ltx l).take 2 == [46, 42]) = false := by
        rw [beq_eq_false_iff_ne]
        intro w
        have w0 := congrArg (fun u : List Nat => u.getD 0 0) w
        have w1 := congrArg (fun u : List Nat => u.getD 1 0) w
        rw [hdT 2 (by lia)] at w0
        have e46 : ([46, 42] : List Nat).getD 0 0 = 46 := rfl
        have e42 : ([46, 42] : List Nat).getD 1 0 = 42 := rfl
        rcases f1 with f1 | ⟨_, f1⟩
        · lia
        · have : ((x ++ ltx l).take 2).getD 1 0 = (ltx l).getD 0 0 := by
            rw [List.getD_eq_getElem?_getD, List.getElem?_take, if_pos (by lia), List.getElem?_append_right (by lia), f1, ← List.getD_eq_getElem?_getD]
          lia
      have t3 : ((x ++ ltx l).take 1 == [41]) = false := by
        rw [beq_eq_false_iff_ne]
        intro w
        have := congrArg (fun u : List Nat => List.getD u 0 0) w
        rw [hdT 1 (by lia)] at this
        have e41 : ([41] : List Nat).getD 0 0 = 41 := rfl
        lia
      rw [t1, t2, t3, if_neg Bool.false_ne_true, if_neg Bool.false_ne_true, if_neg Bool.false_ne_true]
      have cx := cut_fst (x ++ ltx l) x.length (by lia)
      rw [List.take_left] at cx
      have cr := rest x.length List.drop_left
      refine nx_put "size" (.sh (.int (x.length : Int))) ?_ fun q1 J1 => ?_
      · simp only [gr, Option.bind_some, c1, oEq_str, brk, Tb, asB, cbrk]
        by_cases h91 : x.getD 0 0 = 91
        · obtain ⟨g1', g2'⟩ := f4 h91
          have t4 : ((x ++ ltx l).take 1 == [91]) = true := by
            rw [beq_iff_eq]
            cases hxx : x with
            | nil => rw [hxx] at f2; exact absurd f2 (Nat.lt_irrefl _)
            | cons y ys =>
              rw [hxx] at h91
              have : y = 91 := h91
              rw [this]
              rfl
          have ix := index_at x.dropLast (ltx l) 93 g2'
          have e9 : x ++ ltx l = x.dropLast ++ 93 :: ltx l := by
            conv => lhs; rw [g1']
            rw [List.append_assoc]
            rfl
          rw [← e9] at ix
          have e8 : x.dropLast.length + 1 = x.length := by
            have := congrArg List.length g1'
            rw [List.length_append, List.length_singleton] at this
            exact this.symm
          rw [t4, if_pos rfl]
          simp only [ix, Option.bind_some, oAdd_int]
          rw [← e8]
          rfl
        · have t4 : ((x ++ ltx l).take 1 == [91]) = false := by
            rw [beq_eq_false_iff_ne]
            intro w
            have := congrArg (fun u : List Nat => List.getD u 0 0) w
            rw [hdT 1 (by lia)] at this
            exact h91 this
          rcases f1 with f1 | ⟨_, f1⟩
          · exact absurd f1 h91
          · rw [t4, if_neg Bool.false_ne_true, f1]
            rfl
      have j1 := get_sh J1 gr (by decide)
      have j2 : q1.get "pieces" = some (.nest (s.1.map encG) (s.2.map encW)) := by rw [J1, if_neg (by decide), e1]; rfl
      have j3 : q1.get "size" = some (.sh (.int (x.length : Int))) := by rw [J1, if_pos rfl]
      have jn : getNest q1 "pieces" = some (s.1.map encG, s.2.map encW) := by unfold getNest; rw [j2]
      refine nx_step (fun r' => ∀ z, r'.get z = if z = ("pieces" : Str) then some (.nest (s.1.map encG) (s.2.map encW ++ [encW x])) else (q1.get z).map (Ent.kill ".last")) ⟨_, by simp only [jn, j1, j3, Option.bind_some, asPart, cx, if_pos (And.intro l1 l2)]; rfl, fun z => get_nest q1 _ z _⟩ fun r' hr' => ?_
      have m1 : r'.get "rest" = some (.sh (.str (T (x ++ ltx l)))) := by rw [hr', if_neg (by decide), j1]; rfl
      have m2 : r'.get "size" = some (.sh (.int (x.length : Int))) := by rw [hr', if_neg (by decide), j3]; rfl
      refine ⟨_, by simp only [seqF_id, m1, m2, Option.bind_some, asPart, cr], fin (s.1, s.2 ++ [x]) r' ?_ e2 (by simp only [List.length_append, List.length_cons, List.length_nil]; lia)⟩
      rw [hr', if_pos rfl, List.map_append]
      rfl
  obtain ⟨_, _, _, s, e1, e2, _⟩ := I3
  have e2' : s = ls.foldl stepL ([], []) := e2
  have hn : getNest r3 "pieces" = some (s.1.map encG, s.2.map encW) := by unfold getNest; rw [e1]
  refine seq_done ?_
  simp only [hn, Option.map_some, Option.bind_some]
  have : s.1.map encG ++ [D.list (s.2.map encW)] = (g0 :: rem).map encG := by
    rw [← hfold, ← e2']
    unfold segs
    rw [List.map_append]
    rfl
  rw [this]
def E118 {P : Params} {c : Cx} (h : CF (KK P) c) : List D → Option D := runF ["text"] (T_law_pieces h).1
theorem pcs_ok {P : Params} {c : Cx} (h : CF (KK P) c) : ActL c 1 (fun vs => call (.ref 118) vs) (E118 h) := (T_law_pieces h).2 _ (runF_HF _ _)
theorem E118_of {P : Params} {c : Cx} (h : CF (KK P) c) (g0 : List (List Nat)) (rem : Segs) (hx : ∀ g ∈ g0 :: rem, ∀ x ∈ g, x ∈ allX) (hl : (g0.flatten ++ outR rem).length ≤ 1000) : E118 h [encW (txtOf (g0 :: rem))] = some (.list ((g0 :: rem).map encG)) :=
  runF_of rfl (pieces_gives h g0 rem hx hl _ rfl)
end Mine
end SQ7

/-! Q8 -/
noncomputable section SQ8
namespace Mine
def adv (g : List (List Nat)) (w : List Nat) (a : Nat) : Nat :=
  if a < w.length ∧ fitAll g ((w.drop a).take g.length) = false then adv g w (a + 1) else a
termination_by w.length - a
def takesF (g0 : List (List Nat)) (rem : Segs) (w : List Nat) : Bool :=
  if rem = [] then fitAll g0 w else fitAll g0 (w.take g0.length) && (decide (rem.dropLast.foldl (fun a g => adv g w a + g.length) g0.length + (rem.getLastD []).length ≤ w.length) && fitAll (rem.getLastD []) (w.drop (w.length - (rem.getLastD []).length)))
theorem cut_any (l : List Nat) (i j : Nat) (hl : l.length ≤ lim) : oCut (.str (T l)) (some (i : Int)) (some ((i : Int) + (j : Int))) = some (.str (T ((l.drop i).take j))) := by
  rw [cut_ok _ _ _ hl, show ((i : Int) + (j : Int)) = ((i + j : Nat) : Int) by lia]
  unfold cutS cutL T
  simp only [Option.elim, clip_pos, Option.some.injEq, D.str.injEq, Str.mk.injEq]
  by_cases h : i ≤ l.length
  · rw [Nat.min_eq_left h]
    by_cases h2 : i + j ≤ l.length
    · rw [Nat.min_eq_left h2, show i + j - i = j by lia]
    · rw [Nat.min_eq_right (by lia), List.take_of_length_le (by rw [List.length_drop]; exact Nat.le_refl _), List.take_of_length_le (by rw [List.length_drop]; lia)]
  · rw [List.drop_of_length_le (by lia), List.drop_of_length_le (by lia)]
    simp
theorem last_idxD (l : List D) (d : D) (h : l.getLast? = some d) (hl : l.length ≤ lim) : oIdx (.list l) (.int (-1)) = some d := by
  rw [last_idx l (fun e => by rw [e] at h; cases h) hl, h]
theorem cutL_mid (g : D) (rem : List D) (h : rem ≠ []) (hl : (g :: rem).length ≤ lim) : oCut (.list (g :: rem)) (some 1) (some (-1)) = some (.list rem.dropLast) := by
  unfold oCut
  dsimp only
  rw [if_pos hl]
  congr 2
  unfold cutL
  have h1 := clip_pos (g :: rem).length 1
  have h2 := clip_neg (g :: rem).length 1 (by decide)
  rw [show ((1 : Nat) : Int) = 1 from rfl] at h1 h2
  rw [List.length_cons] at h1 h2
  simp only [Option.elim, List.length_cons]
  rw [h1, h2, Nat.min_eq_left (by lia), List.drop_succ_cons, List.drop_zero, List.dropLast_eq_take, Nat.add_sub_cancel]
theorem encG_len (g : List (List Nat)) (h : g.length ≤ 50) : oLen [encG g] = some (.int (g.length : Int)) := by
  have := len_L (g.map encW) (by rw [List.length_map, lim_eq]; lia)
  rw [List.length_map] at this
  exact this
structure KI (pcs : D) (w : List Nat) (a : Nat) (r : Rho) : Prop where
  gp : r.get "pieces" = some (.sh pcs)
  gw : r.get "word" = some (.sh (.str (T w)))
  ga : r.get "at" = some (.sh (.int (a : Int)))
theorem takes_gives {P : Params} {c : Cx} (h : CF (KK P) c) (g0 : List (List Nat)) (rem : Segs) (hx : ∀ g ∈ g0 :: rem, g.length ≤ 50 ∧ ∀ x ∈ g, x ∈ allX) (hn : rem.length ≤ 50) (w : List Nat) (lw : w.length ≤ 50) (r0 : Rho)
    (g1 : r0.get "pieces" = some (.sh (.list ((g0 :: rem).map encG)))) (g2 : r0.get "word" = some (.sh (encW w))) : Gives ((T_law_takes h (fal_ok h)).1 r0) (.bool (takesF g0 rem w)) := by
  have hlim := lim_eq
  unfold T_law_takes packT
  dsimp only
  have hpl : ((g0 :: rem).map encG).length ≤ lim := by rw [List.length_map, List.length_cons]; lia
  have lp := len_L ((g0 :: rem).map encG) hpl
  rw [List.length_map, List.length_cons] at lp
  have ip0 : oIdx (.list ((g0 :: rem).map encG)) (.int 0) = some (encG g0) := idx_L _ 0 _ rfl hpl
  obtain ⟨l0, x0⟩ := hx g0 List.mem_cons_self
  have e0 := E123_of h g0 x0
  have hcall : ∀ (g : List (List Nat)), g.length ≤ 50 → (∀ x ∈ g, x ∈ allX) → ∀ u : List Nat, u.length ≤ 50 → E123 h [encG g, .str (T u)] = some (.bool (fitAll g u)) := fun g hg hxg u hu => E123_of h g hxg u hg hu
  unfold encW at g2
  by_cases hr : rem = []
  · subst hr
    have t1 : oEq (.int ((([] : Segs).length + 1 : Nat) : Int)) (.int 1) = some (.bool true) := rfl
    refine seq_gives ⟨r0, ?_⟩
    simp only [g1, g2, Option.bind_some, lp, t1, asB, if_true, ip0, hcall g0 l0 x0 w lw, seqF]
    unfold takesF
    rw [if_pos rfl]
  · have hrl : 0 < rem.length := List.length_pos_iff.mpr hr
    have t1 : oEq (.int ((rem.length + 1 : Nat) : Int)) (.int 1) = some (.bool false) := by
      rw [oEq_int]
      congr 2
      rw [beq_eq_false_iff_ne]
      lia
    refine seq_step (fun r => r = r0) ⟨r0, by simp only [g1, Option.bind_some, lp, t1, asB, Bool.false_eq_true, if_false], rfl⟩ ?_
    rintro r rfl
    refine seq_put "at" (.sh (.int (g0.length : Int))) (by simp only [g1, Option.bind_some, ip0, encG_len g0 l0]) fun r1 J1 => ?_
    have I1 : KI (.list ((g0 :: rem).map encG)) w g0.length r1 := ⟨get_sh J1 g1 (by decide), get_sh J1 g2 (by decide), by rw [J1, if_pos rfl]⟩
    clear J1 g1 g2
    have c0 := cut_fst w g0.length (by lia)
    have e9 := hcall g0 l0 x0 (w.take g0.length) (by rw [List.length_take]; lia)
    have eT : takesF g0 rem w = (fitAll g0 (w.take g0.length) && (decide (rem.dropLast.foldl (fun a g => adv g w a + g.length) g0.length + (rem.getLastD []).length ≤ w.length) && fitAll (rem.getLastD []) (w.drop (w.length - (rem.getLastD []).length)))) := by unfold takesF; rw [if_neg hr]
    rw [eT]
    cases hf : fitAll g0 (w.take g0.length) with
    | false =>
      rw [hf] at e9
      refine seq_gives ⟨r1, ?_⟩
      simp only [I1.gp, I1.gw, I1.ga, Option.bind_some, ip0, asPart, c0, e9, oTruth, Option.map_some, Bool.not_false, if_true, seqF]
      rfl
    | true =>
      rw [hf] at e9
      rw [Bool.true_and]
      refine seq_step (KI (.list ((g0 :: rem).map encG)) w g0.length) ⟨r1, by simp only [I1.gp, I1.gw, I1.ga, Option.bind_some, ip0, asPart, c0, e9, oTruth, Option.map_some, Bool.not_true, Bool.false_eq_true, if_false], I1⟩ fun r2 I2 => ?_
      clear I1
      have cm := cutL_mid (encG g0) (rem.map encG) (by simpa using hr) (by rw [List.length_cons, List.length_map]; lia)
      rw [← List.map_cons, ← List.map_dropLast] at cm
      have n1 : oNeg (.int 1) = some (.int (-1)) := rfl
      have lenw := len_T w (by lia)
      refine seq_step (KI (.list ((g0 :: rem).map encG)) w (rem.dropLast.foldl (fun a g => adv g w a + g.length) g0.length)) ?_ fun r3 I3 => ?_
      · simp only [I2.gp, Option.bind_some, asPart, n1, cm, asItems]
        refine for_fold (fun a r => KI (.list ((g0 :: rem).map encG)) w a r) encG (fun a g => adv g w a + g.length) (fun g => g.length ≤ 50 ∧ ∀ x ∈ g, x ∈ allX) (fun _ => 0) 60 (fun _ _ _ => Nat.zero_le _) (fun a g r I _ hg => ?_) rem.dropLast g0.length r2 (by rw [List.length_dropLast]; lia) (fun g hg => hx g (List.mem_cons_of_mem _ (List.dropLast_subset _ hg))) I2
        have K1 : KI (.list ((g0 :: rem).map encG)) w a ((r.kill "piece").put "piece" (.sh (encG g))) := ⟨get_sh (fun y => get_kp r "piece" y _) I.gp (by decide), get_sh (fun y => get_kp r "piece" y _) I.gw (by decide), get_sh (fun y => get_kp r "piece" y _) I.ga (by decide)⟩
        have K2 : Rho.get ((r.kill "piece").put "piece" (.sh (encG g))) "piece" = some (.sh (encG g)) := by rw [get_kp, if_pos rfl]
        generalize (r.kill "piece").put "piece" (.sh (encG g)) = q at K1 K2
        refine nx_step (fun r => KI (.list ((g0 :: rem).map encG)) w (adv g w a) r ∧ r.get "piece" = some (.sh (encG g))) (while_inv (α := Nat) (fun a r => KI (.list ((g0 :: rem).map encG)) w a r ∧ r.get "piece" = some (.sh (encG g))) (fun a => decide (a < w.length) && !fitAll g ((w.drop a).take g.length)) (· + 1) (adv g w) (fun a => w.length - a) (fun a r B => ?_) (fun a r B hc => ?_) (fun a hc => ?_) (fun a hc => ?_) (fun a hc => ?_) lim a q (by lia) ⟨K1, K2⟩) fun q2 B2 => ?_
        · have ei := oLt_int (a : Int) (w.length : Int)
          simp only [B.1.ga, B.1.gw, B.2, Option.bind_some, lenw, ei, asB]
          by_cases hlt : a < w.length
          · have cc := cut_any w a g.length (by lia)
            have ee := hcall g hg.1 hg.2 ((w.drop a).take g.length) (by rw [List.length_take, List.length_drop]; omega)
            rw [decide_eq_true hlt, if_pos (decide_eq_true (by lia))]
            simp only [asPart, Option.bind_some, encG_len g hg.1, oAdd_int, cc, ee, oTruth, Option.map_some, Bool.true_and]
            cases fitAll g ((w.drop a).take g.length) <;> rfl
          · rw [decide_eq_false hlt, if_neg (by rw [decide_eq_true_eq]; lia)]
            rfl
        · refine ⟨_, by simp only [seqF_id, B.1.ga, Option.bind_some, oAdd_int]; rfl, ⟨get_sh (fun y => get_kp r "at" y _) B.1.gp (by decide), get_sh (fun y => get_kp r "at" y _) B.1.gw (by decide), by rw [get_kp, if_pos rfl]; rfl⟩, get_sh (fun y => get_kp r "at" y _) B.2 (by decide)⟩
        · rw [Bool.and_eq_true, decide_eq_true_eq] at hc
          lia
        · rw [Bool.and_eq_true, decide_eq_true_eq, Bool.not_eq_true'] at hc
          conv => lhs; unfold adv
          rw [if_pos hc]
        · unfold adv
          rw [if_neg]
          intro hh
          rw [decide_eq_true hh.1, hh.2] at hc
          cases hc
        · refine ⟨_, by simp only [seqF_id, B2.1.ga, B2.2, Option.bind_some, encG_len g hg.1, oAdd_int]; rfl, ⟨get_sh (fun y => get_kp q2 "at" y _) B2.1.gp (by decide), get_sh (fun y => get_kp q2 "at" y _) B2.1.gw (by decide), by rw [get_kp, if_pos rfl]; rfl⟩⟩
      generalize rem.dropLast.foldl (fun a g => adv g w a + g.length) g0.length = at9 at *
      have hgl : rem.getLast? = some (rem.getLastD []) := by
        cases hg : rem.getLast? with
        | none => exact absurd (List.getLast?_eq_none_iff.mp hg) hr
        | some g => rw [List.getLastD_eq_getLast?, hg]; rfl
      have hml : rem.getLastD [] ∈ rem := List.mem_of_getLast? hgl
      obtain ⟨l1, x1⟩ := hx _ (List.mem_cons_of_mem _ hml)
      generalize rem.getLastD [] = l at *
      have il : oIdx (.list ((g0 :: rem).map encG)) (.int (-1)) = some (encG l) := last_idxD _ _ (by
        rw [List.getLast?_map, List.getLast?_cons, hgl]
        rfl) hpl
      have sb : ∀ a b : Int, oSub (.int a) (.int b) = some (.int (a - b)) := fun _ _ => rfl
      refine seq_put "back" (.sh (.int ((w.length : Int) - (l.length : Int)))) (by simp only [I3.gp, I3.gw, Option.bind_some, lenw, n1, il, encG_len l l1, sb]) fun r4 J4 => ?_
      have I4 : KI (.list ((g0 :: rem).map encG)) w at9 r4 := ⟨get_sh J4 I3.gp (by decide), get_sh J4 I3.gw (by decide), get_sh J4 I3.ga (by decide)⟩
      have b4 : r4.get "back" = some (.sh (.int ((w.length : Int) - (l.length : Int)))) := by rw [J4, if_pos rfl]
      clear J4 I3
      have le : oLe (.int (at9 : Int)) (.int ((w.length : Int) - (l.length : Int))) = some (.bool (decide (at9 + l.length ≤ w.length))) := by
        show some (D.bool (decide _)) = _
        congr 2
        rw [decide_eq_decide]
        lia
      refine seq_done ?_
      simp only [I4.gp, I4.gw, I4.ga, b4, Option.bind_some, le, oTruth]
      by_cases hle : at9 + l.length ≤ w.length
      · have cb := cut_rest w (w.length - l.length) (by lia)
        rw [show ((w.length - l.length : Nat) : Int) = (w.length : Int) - (l.length : Int) by lia] at cb
        have ee := hcall l l1 x1 (w.drop (w.length - l.length)) (by rw [List.length_drop]; lia)
        rw [decide_eq_true hle]
        simp only [if_true, n1, il, asPart, Option.bind_some, cb, ee, Bool.true_and]
      · rw [decide_eq_false hle]
        rfl
def E130 {P : Params} {c : Cx} (h : CF (KK P) c) : List D → Option D := runF ["pieces", "word"] (T_law_takes h (fal_ok h)).1
theorem tks_ok {P : Params} {c : Cx} (h : CF (KK P) c) : ActL c 3 (fun vs => call (.ref 130) vs) (E130 h) := (T_law_takes h (fal_ok h)).2 _ (runF_HF _ _)
theorem E130_of {P : Params} {c : Cx} (h : CF (KK P) c) (g0 : List (List Nat)) (rem : Segs) (hx : ∀ g ∈ g0 :: rem, g.length ≤ 50 ∧ ∀ x ∈ g, x ∈ allX) (hn : rem.length ≤ 50) (w : List Nat) (lw : w.length ≤ 50) : E130 h [.list ((g0 :: rem).map encG), encW w] = some (.bool (takesF g0 rem w)) :=
  runF_of rfl (takes_gives h g0 rem hx hn w lw _ rfl rfl)
end Mine
end SQ8

/-! Q9 -/
noncomputable section SQ9
namespace Mine
def mn2 (a b : Int) : Int := if b < a then b else a
def mn3 (a b x : Int) : Int := if b < a then (if x < b then x else b) else (if x < a then x else a)
def encO : Option (List Nat) → D
  | none => .none
  | some x => encW x
/-- one entry of the next row -/
def nextV (nm : List Nat) (turn : Int) (row : List Int) (part : Option (List Nat)) (k : Nat) (v : Int) : Int :=
  match part with
  | none => mn2 (row.getD (k + 1) 0) v
  | some x => mn3 (row.getD (k + 1) 0 + 2) (v + 2) (row.getD k 0 + (if fitX x (nm.getD k 0) then 0 else turn))
def nextL (nm : List Nat) (turn : Int) (row : List Int) (part : Option (List Nat)) : Nat → List Int
  | 0 => [match part with | none => row.getD 0 0 | some _ => row.getD 0 0 + 2]
  | k + 1 => nextL nm turn row part k ++ [nextV nm turn row part k ((nextL nm turn row part k).getD k 0)]
theorem nextL_len (nm : List Nat) (turn : Int) (row : List Int) (part : Option (List Nat)) : ∀ k, (nextL nm turn row part k).length = k + 1
  | 0 => rfl
  | k + 1 => by
    show (nextL nm turn row part k ++ [_]).length = _
    rw [List.length_append, nextL_len nm turn row part k]; rfl
structure XI (nm : List Nat) (turn : Int) (row : List Int) (part : Option (List Nat)) (k : Nat) (r : Rho) : Prop where
  gr : r.get "row" = some (.sh (.list (row.map .int)))
  gp : r.get "part" = some (.sh (encO part))
  gn : r.get "name" = some (.sh (.str (T nm)))
  gt : r.get "turn" = some (.sh (.int turn))
  go : r.get "new" = some (.own ((nextL nm turn row part k).map .int))
theorem next_gives {P : Params} {c : Cx} (h : CF (KK P) c) (nm : List Nat) (turn : Int) (row : List Int) (part : Option (List Nat)) (hp : ∀ x, part = some x → x ∈ allX) (hr : row.length = nm.length + 1) (hn : nm.length ≤ 50) (r0 : Rho)
    (g1 : r0.get "row" = some (.sh (.list (row.map .int)))) (g2 : r0.get "part" = some (.sh (encO part))) (g3 : r0.get "name" = some (.sh (encW nm))) (g4 : r0.get "turn" = some (.sh (.int turn))) :
    Gives ((T_law_next h (fit_ok h)).1 r0) (.list ((nextL nm turn row part nm.length).map .int)) := by
  have hlim := lim_eq
  unfold encW at g3
  unfold T_law_next packT
  dsimp only
  have ir : ∀ i : Nat, i < row.length → oIdx (.list (row.map .int)) (.int (i : Int)) = some (.int (row.getD i 0)) := fun i hi => own_idx row i hi (by lia)
  have ir0 := ir 0 (by lia)
  rw [show ((0 : Nat) : Int) = 0 from rfl] at ir0
  have isN : oIs (encO part) .none = some (.bool part.isNone) := by cases part <;> rfl
  have l1 : ∀ d : D, ([d] : List D).length ≤ lim := fun d => by simp only [List.length_cons, List.length_nil]; lia
  refine seq_step (XI nm turn row part 0) ⟨(r0.kill "new").put "new" (.own ((nextL nm turn row part 0).map .int)), ?_, ?_⟩ fun r1 I1 => ?_
  · simp only [g1, g2, Option.bind_some, isN, asB, ir0]
    cases part with
    | none => simp only [Option.isNone_none, if_true, Option.bind_some, if_pos (l1 _)]; rfl
    | some x => simp only [Option.isNone_some, Bool.false_eq_true, if_false, Option.bind_some, oAdd_int, if_pos (l1 _)]; rfl
  · constructor <;> first | exact kp_self _ _ _ | exact kp_any g1 rfl (by decide) | exact kp_any g2 rfl (by decide) | exact kp_any g3 rfl (by decide) | exact kp_any g4 rfl (by decide) | (simp (config := {decide := true}) only [get_kp, if_true, if_false, g1, g2, g3, g4, Option.map_some, kill_sh])
  clear g1 g2 g3 g4
  have lenn := len_T nm (by lia)
  have er := range_small nm.length (by lia)
  refine seq_step (XI nm turn row part nm.length) ?_ fun r2 I2 => ?_
  · simp only [I1.gn, Option.bind_some, lenn, er]
    refine for_range (XI nm turn row part) (fun k r I hk => ?_) r1 I1
    have K : XI nm turn row part k ((r.kill "j").put "j" (.sh (.int (0 + (k : Int))))) := by
      constructor <;> first | exact kp_self _ _ _ | exact kp_any I.gr rfl (by decide) | exact kp_any I.gp rfl (by decide) | exact kp_any I.gn rfl (by decide) | exact kp_any I.gt rfl (by decide) | exact kp_any I.go rfl (by decide) | (simp (config := {decide := true}) only [get_kp, if_true, if_false, I.gr, I.gp, I.gn, I.gt, I.go, Option.map_some, kill_sh, kill_own])
    have kj : Rho.get ((r.kill "j").put "j" (.sh (.int (0 + (k : Int))))) "j" = some (.sh (.int (k : Int))) := by rw [get_kp, if_pos rfl, Int.zero_add]
    generalize (r.kill "j").put "j" (.sh (.int (0 + (k : Int)))) = q at K kj
    have ll := nextL_len nm turn row part k
    have go : getOwn q "new" = some ((nextL nm turn row part k).map .int) := by unfold getOwn; rw [K.go]
    have io : oIdx (.list ((nextL nm turn row part k).map .int)) (.int (k : Int)) = some (.int ((nextL nm turn row part k).getD k 0)) := own_idx _ k (by lia) (by lia)
    have i1 := ir (k + 1) (by lia)
    rw [show ((k + 1 : Nat) : Int) = (k : Int) + 1 by lia] at i1
    have i0 := ir k (by lia)
    have hlt : ((nextL nm turn row part k).map D.int).length < lim := by rw [List.length_map, ll]; lia
    have app : ∀ (q' : Rho) (v : Int), XI nm turn row part k q' → nextV nm turn row part k ((nextL nm turn row part k).getD k 0) = v → XI nm turn row part (k + 1) (q'.put "new" (.own ((nextL nm turn row part k).map .int ++ [.int v]))) := fun q' v K' hv => by
      have e : (nextL nm turn row part (k + 1)).map D.int = (nextL nm turn row part k).map .int ++ [.int v] := by
        show (nextL nm turn row part k ++ [nextV nm turn row part k ((nextL nm turn row part k).getD k 0)]).map D.int = _
        rw [List.map_append, hv]
        rfl
      constructor <;> first | exact pt_self _ _ _ | exact pt_any K'.gr (by decide) | exact pt_any K'.gp (by decide) | exact pt_any K'.gn (by decide) | exact pt_any K'.gt (by decide) | exact pt_any e (by decide) | (simp (config := {decide := true}) only [Rho.get_put, if_true, if_false, K'.gr, K'.gp, K'.gn, K'.gt, e])
    simp only [seqF_id, K.gp, Option.bind_some, isN, asB]
    cases part with
    | none =>
      simp only [Option.isNone_none, if_true, seqF_id, go, K.gr, K.go, kj, Option.bind_some, oAdd_int, i1, io, oMin_two, flat?, if_pos hlt]
      exact ⟨_, rfl, app q _ K rfl⟩
    | some x =>
      simp only [Option.isNone_some, Bool.false_eq_true, if_false]
      have iy := idx_a nm k hk (by lia)
      have e9 := E111_of h x (hp x rfl) (nm.getD k 0)
      unfold encW at e9
      have ex : encO (some x) = .str (T x) := rfl
      refine nx_put "write" (.sh (.int (if fitX x (nm.getD k 0) then 0 else turn))) (by
        have kp := K.gp
        rw [ex] at kp
        simp only [kp, K.gn, K.gt, kj, Option.bind_some, iy, e9, oTruth]
        cases fitX x (nm.getD k 0) <;> rfl) fun q1 J1 => ?_
      have K1 : XI nm turn row (some x) k q1 := by
        constructor
        · rw [J1, if_neg (by decide), K.gr]; rfl
        · rw [J1, if_neg (by decide), K.gp]; rfl
        · rw [J1, if_neg (by decide), K.gn]; rfl
        · rw [J1, if_neg (by decide), K.gt]; rfl
        · rw [J1, if_neg (by decide), K.go]; rfl
      have kj1 := get_sh J1 kj (by decide)
      have kw : q1.get "write" = some (.sh (.int (if fitX x (nm.getD k 0) then 0 else turn))) := by rw [J1, if_pos rfl]
      have go1 : getOwn q1 "new" = some ((nextL nm turn row (some x) k).map .int) := by unfold getOwn; rw [K1.go]
      have m3 : ∀ a b d : Int, oMin3 [.int a, .int b, .int d] = some (.int (mn3 a b d)) := fun _ _ _ => rfl
      simp only [seqF_id, go1, K1.gr, K1.go, kj1, kw, Option.bind_some, oAdd_int, i1, i0, io, m3, flat?, if_pos hlt]
      exact ⟨_, rfl, app q1 _ K1 rfl⟩
  refine seq_done ?_
  simp only [I2.go, Option.bind_some]
def E137 {P : Params} {c : Cx} (h : CF (KK P) c) : List D → Option D := runF ["row", "part", "name", "turn"] (T_law_next h (fit_ok h)).1
theorem nxt_ok {P : Params} {c : Cx} (h : CF (KK P) c) : ActL c 2 (fun vs => call (.ref 137) vs) (E137 h) := (T_law_next h (fit_ok h)).2 _ (runF_HF _ _)
theorem E137_of {P : Params} {c : Cx} (h : CF (KK P) c) (nm : List Nat) (turn : Int) (row : List Int) (part : Option (List Nat)) (hp : ∀ x, part = some x → x ∈ allX) (hr : row.length = nm.length + 1) (hn : nm.length ≤ 50) :
    E137 h [.list (row.map .int), encO part, encW nm, .int turn] = some (.list ((nextL nm turn row part nm.length).map .int)) :=
  runF_of rfl (next_gives h nm turn row part hp hr hn _ rfl rfl rfl rfl)
end Mine
end SQ9

/-! P2 -/
noncomputable section SP2
namespace Mine
abbrev Pt := Option (List Nat)
/-- the words that parts take; the last part stands first -/
def LgR : List Pt → List Nat → Prop
  | [], w => w = []
  | none :: Q, w => ∃ u v, w = u ++ v ∧ LgR Q u
  | some x :: Q, w => ∃ u s, w = u ++ [s] ∧ fitX x s = true ∧ LgR Q u
/-- the rows; the last part stands first -/
def rowR (nm : List Nat) (turn : Int) : List Pt → List Int
  | [] => (List.range (nm.length + 1)).map fun (j : Nat) => 2 * (j : Int)
  | o :: Q => nextL nm turn (rowR nm turn Q) o nm.length
theorem mn2_eq (a b : Int) : mn2 a b = min a b := by
  unfold mn2
  by_cases h : b < a
  · rw [if_pos h, Int.min_eq_right (Int.le_of_lt h)]
  · rw [if_neg h, Int.min_eq_left (Int.not_lt.mp h)]
theorem mn3_eq (a b x : Int) : mn3 a b x = min a (min b x) := by
  unfold mn3
  split
  · rename_i h
    rw [Int.min_eq_right (Int.le_trans (Int.min_le_left _ _) (Int.le_of_lt h)), ← mn2_eq]
    rfl
  · rename_i h
    have h := Int.not_lt.mp h
    by_cases hx : x < a
    · rw [if_pos hx, Int.min_eq_right (Int.le_trans (Int.le_of_lt hx) h), Int.min_eq_right (Int.le_of_lt hx)]
    · rw [if_neg hx, Int.min_eq_left (Int.le_min.mpr ⟨h, Int.not_lt.mp hx⟩)]
theorem add_up {x a k : Int} (h : x ≤ a) (hk : 0 ≤ k) : x ≤ a + k := Int.le_trans h (Int.le_add_of_nonneg_right hk)
theorem add_r {a b k l : Int} (h : a ≤ b) (hk : k ≤ l) : a + k ≤ b + l := Int.add_le_add h hk
theorem min3_or (p q r : Int) : min p (min q r) = p ∨ min p (min q r) = q ∨ min p (min q r) = r := by
  rcases Int.le_total p (min q r) with h | h
  · exact .inl (Int.min_eq_left h)
  · rw [Int.min_eq_right h]
    rcases Int.le_total q r with h | h
    · exact .inr (.inl (Int.min_eq_left h))
    · exact .inr (.inr (Int.min_eq_right h))
theorem two_len (u : List Nat) (s : Nat) : 2 * ((u ++ [s]).length : Int) = 2 * (u.length : Int) + 2 := by
  rw [List.length_append, List.length_singleton, Int.natCast_add, Int.mul_add]
  rfl
section
variable {nm : List Nat} {turn : Int} {row : List Int} {o : Pt}
theorem nextL_pre : ∀ (n k : Nat), k ≤ n → (nextL nm turn row o n).getD k 0 = (nextL nm turn row o k).getD k 0
  | 0, k, h => by rw [Nat.le_zero.mp h]
  | n + 1, k, h => by
    by_cases hk : k = n + 1
    · rw [hk]
    · have hl := nextL_len nm turn row o n
      show ((nextL nm turn row o n) ++ [_]).getD k 0 = _
      rw [List.getD_eq_getElem?_getD, List.getElem?_append_left (by lia), ← List.getD_eq_getElem?_getD]
      exact nextL_pre n k (by lia)
theorem next_rec (n k : Nat) (h : k < n) : (nextL nm turn row o n).getD (k + 1) 0 = nextV nm turn row o k ((nextL nm turn row o n).getD k 0) := by
  have hl := nextL_len nm turn row o k
  rw [nextL_pre n (k + 1) h, nextL_pre n k (Nat.le_of_lt h)]
  show ((nextL nm turn row o k) ++ [_]).getD (k + 1) 0 = _
  rw [List.getD_eq_getElem?_getD, List.getElem?_append_right (by lia), hl, Nat.sub_self]
  rfl
theorem next_0 (n : Nat) : (nextL nm turn row o n).getD 0 0 = match o with | none => row.getD 0 0 | some _ => row.getD 0 0 + 2 := by
  rw [nextL_pre n 0 (Nat.zero_le _)]
  rfl
end
theorem row_len (nm : List Nat) (turn : Int) : ∀ Q, (rowR nm turn Q).length = nm.length + 1
  | [] => by show ((List.range (nm.length + 1)).map _).length = _; rw [List.length_map, List.length_range]
  | o :: Q => nextL_len nm turn (rowR nm turn Q) o nm.length
/-- two signs, and what a change of the one into the other costs -/
structure Two (p q : Nat) (turn : Int) : Prop where
  pq : ∀ x y, (x = p ∨ x = q) → (y = p ∨ y = q) → x ≠ y → kost x y = turn
  tp : 0 ≤ turn
theorem kost_self (x : Nat) : kost x x = 0 := kost_ok.zero x
theorem kost_nn (x y : Nat) : 0 ≤ kost x y := kost_ok.low x y
def Wd (p q : Nat) (w : List Nat) : Prop := ∀ y ∈ w, y = p ∨ y = q
theorem dist_nil_l (b : List Nat) : dist [] b = 2 * (b.length : Int) := dE_nil_l b
theorem dist_nil_r (a : List Nat) : dist a [] = 2 * (a.length : Int) := dE_nil_r a
theorem dist_snoc (x y : Nat) (a b : List Nat) : dist (a ++ [x]) (b ++ [y]) = min (dist a b + kost x y) (min (dist a (b ++ [y]) + 2) (dist (a ++ [x]) b + 2)) := dE_snoc x y a b
section
variable {p q : Nat} {turn : Int} {nm : List Nat}
theorem getD_mem2 (h : Wd p q nm) {j : Nat} (hj : j < nm.length) : nm.getD j 0 = p ∨ nm.getD j 0 = q := by
  refine h _ ?_
  rw [List.getD_eq_getElem?_getD, List.getElem?_eq_getElem hj]
  exact List.getElem_mem _
theorem row_low (t : Two p q turn) (hn : Wd p q nm) : ∀ (Q : List Pt) (w : List Nat), Wd p q w → LgR Q w → ∀ j, j ≤ nm.length → (rowR nm turn Q).getD j 0 ≤ dist (nm.take j) w
  | [], w, _, hw, j, hj => by
    have : w = [] := hw
    subst this
    rw [dist_nil_r, List.length_take, Nat.min_eq_left hj]
    show ((List.range (nm.length + 1)).map fun (j : Nat) => 2 * (j : Int)).getD j 0 ≤ _
    rw [List.getD_eq_getElem?_getD, List.getElem?_map, List.getElem?_range (by lia)]
    exact Int.le_refl _
  | none :: Q, w, hwd, hw, j, hj => by
    obtain ⟨u, v, rfl, hu⟩ := hw
    have ih := row_low t hn Q u (fun y hy => hwd y (List.mem_append_left _ hy)) hu
    show (nextL nm turn (rowR nm turn Q) none nm.length).getD j 0 ≤ _
    have n0 : (nextL nm turn (rowR nm turn Q) none nm.length).getD 0 0 = (rowR nm turn Q).getD 0 0 := next_0 _
    have nr : ∀ k, k < nm.length → (nextL nm turn (rowR nm turn Q) none nm.length).getD (k + 1) 0 = min ((rowR nm turn Q).getD (k + 1) 0) ((nextL nm turn (rowR nm turn Q) none nm.length).getD k 0) := fun k hk => by
      rw [next_rec _ k hk]
      exact mn2_eq _ _
    generalize nextL nm turn (rowR nm turn Q) none nm.length = V at *
    generalize rowR nm turn Q = R at *
    have key : ∀ (n : Nat) (v : List Nat), v.length = n → ∀ j, j ≤ nm.length → V.getD j 0 ≤ dist (nm.take j) (u ++ v) := by
      intro n
      induction n with
      | zero =>
        intro v hv j hj
        rw [List.length_eq_zero_iff.mp hv, List.append_nil]
        refine Int.le_trans ?_ (ih j hj)
        cases j with
        | zero => rw [n0]; exact Int.le_refl _
        | succ j => rw [nr j hj]; exact Int.min_le_left _ _
      | succ n ihn =>
        intro v hv j hj
        rcases List.eq_nil_or_concat v with rfl | ⟨v', s, rfl⟩
        · cases hv
        · rw [List.concat_eq_append] at hv ⊢
          have hv' : v'.length = n := by rw [List.length_append, List.length_singleton] at hv; lia
          rw [← List.append_assoc]
          induction j with
          | zero =>
            have := ihn v' hv' 0 (Nat.zero_le _)
            rw [List.take_zero, dist_nil_l] at this ⊢
            rw [two_len]
            exact add_up this (by decide)
          | succ j ihj =>
            have a1 := ihn v' hv' j (Nat.le_of_lt hj)
            have a2 := ihj (Nat.le_of_lt hj)
            have a3 := ihn v' hv' (j + 1) hj
            have a5 : V.getD (j + 1) 0 ≤ V.getD j 0 := by rw [nr j hj]; exact Int.min_le_right _ _
            rw [take_succ_get nm j hj] at a3 ⊢
            rw [dist_snoc]
            exact le3 (add_up (Int.le_trans a5 a1) (kost_nn _ _)) (add_up (Int.le_trans a5 a2) (by decide)) (add_up a3 (by decide))
    exact key v.length v rfl j hj
  | some x :: Q, w, hwd, hw, j, hj => by
    obtain ⟨u, s, rfl, hs, hu⟩ := hw
    have ih := row_low t hn Q u (fun y hy => hwd y (List.mem_append_left _ hy)) hu
    have hsp := hwd s (List.mem_append_right _ (List.mem_singleton.mpr rfl))
    show (nextL nm turn (rowR nm turn Q) (some x) nm.length).getD j 0 ≤ _
    have n0 : (nextL nm turn (rowR nm turn Q) (some x) nm.length).getD 0 0 = (rowR nm turn Q).getD 0 0 + 2 := next_0 _
    have nr : ∀ k, k < nm.length → (nextL nm turn (rowR nm turn Q) (some x) nm.length).getD (k + 1) 0 = min ((rowR nm turn Q).getD (k + 1) 0 + 2) (min ((nextL nm turn (rowR nm turn Q) (some x) nm.length).getD k 0 + 2) ((rowR nm turn Q).getD k 0 + (if fitX x (nm.getD k 0) then 0 else turn))) := fun k hk => by
      rw [next_rec _ k hk]
      exact mn3_eq _ _ _
    generalize nextL nm turn (rowR nm turn Q) (some x) nm.length = V at *
    generalize rowR nm turn Q = R at *
    induction j with
    | zero =>
      have := ih 0 (Nat.zero_le _)
      rw [List.take_zero, dist_nil_l] at this ⊢
      rw [n0, two_len]
      exact add_r this (Int.le_refl _)
    | succ j ihj =>
      have a1 := ih j (Nat.le_of_lt hj)
      have a2 := ihj (Nat.le_of_lt hj)
      have a3 := ih (j + 1) hj
      have a4 : (if fitX x (nm.getD j 0) then 0 else turn) ≤ kost (nm.getD j 0) s := by
        by_cases hf : fitX x (nm.getD j 0) = true
        · rw [if_pos hf]; exact kost_nn _ _
        · rw [if_neg hf, t.pq _ _ (getD_mem2 hn hj) hsp (fun e => hf (by rw [e]; exact hs))]
          exact Int.le_refl _
      rw [take_succ_get nm j hj] at a3 ⊢
      rw [dist_snoc, nr j hj]
      exact le3 (Int.le_trans (m3c _ _ _) (add_r a1 a4)) (Int.le_trans (m3b _ _ _) (add_r a2 (Int.le_refl _))) (Int.le_trans (m3a _ _ _) (add_r a3 (Int.le_refl _)))
def tok : List Pt → Nat
  | [] => 0
  | none :: Q => tok Q
  | some _ :: Q => tok Q + 1
def hasN : List Pt → Bool
  | [] => false
  | none :: _ => true
  | some _ :: Q => hasN Q
theorem row_best (t : Two p q turn) (hn : Wd p q nm) : ∀ (Q : List Pt), (∀ x, some x ∈ Q → ∃ s, (s = p ∨ s = q) ∧ fitX x s = true) → ∀ j, j ≤ nm.length →
    ∃ w, Wd p q w ∧ LgR Q w ∧ w.length ≤ tok Q + (if hasN Q then j else 0) ∧ dist (nm.take j) w ≤ (rowR nm turn Q).getD j 0
  | [], _, j, hj => by
    refine ⟨[], fun y hy => (nomatch hy), rfl, Nat.zero_le _, ?_⟩
    rw [dist_nil_r, List.length_take, Nat.min_eq_left hj]
    show _ ≤ ((List.range (nm.length + 1)).map fun (j : Nat) => 2 * (j : Int)).getD j 0
    rw [List.getD_eq_getElem?_getD, List.getElem?_map, List.getElem?_range (by lia)]
    exact Int.le_refl _
  | none :: Q, hf, j, hj => by
    have ih := row_best t hn Q fun x hx => hf x (List.mem_cons_of_mem _ hx)
    show ∃ w, Wd p q w ∧ LgR (none :: Q) w ∧ w.length ≤ tok Q + j ∧ dist (nm.take j) w ≤ (nextL nm turn (rowR nm turn Q) none nm.length).getD j 0
    have n0 : (nextL nm turn (rowR nm turn Q) none nm.length).getD 0 0 = (rowR nm turn Q).getD 0 0 := next_0 _
    have nr : ∀ k, k < nm.length → (nextL nm turn (rowR nm turn Q) none nm.length).getD (k + 1) 0 = min ((rowR nm turn Q).getD (k + 1) 0) ((nextL nm turn (rowR nm turn Q) none nm.length).getD k 0) := fun k hk => by
      rw [next_rec _ k hk]
      exact mn2_eq _ _
    generalize nextL nm turn (rowR nm turn Q) none nm.length = V at *
    have base : ∀ j, j ≤ nm.length → ∃ w, Wd p q w ∧ LgR (none :: Q) w ∧ w.length ≤ tok Q + j ∧ dist (nm.take j) w ≤ (rowR nm turn Q).getD j 0 := fun j hj => by
      obtain ⟨w, w1, w2, w3, w4⟩ := ih j hj
      refine ⟨w, w1, ⟨w, [], (List.append_nil w).symm, w2⟩, ?_, w4⟩
      split at w3 <;> lia
    induction j with
    | zero =>
      rw [n0]
      exact base 0 hj
    | succ j ihj =>
      rw [nr j hj]
      by_cases hle : (rowR nm turn Q).getD (j + 1) 0 ≤ V.getD j 0
      · rw [Int.min_eq_left hle]
        exact base (j + 1) hj
      · rw [Int.min_eq_right (by lia)]
        obtain ⟨w, w1, ⟨u, v, rfl, w2⟩, w3, w4⟩ := ihj (by lia)
        refine ⟨(u ++ v) ++ [nm.getD j 0], fun y hy => ?_, ⟨u, v ++ [nm.getD j 0], List.append_assoc _ _ _, w2⟩, ?_, ?_⟩
        · rcases List.mem_append.mp hy with h | h
          · exact w1 y h
          · rw [List.mem_singleton.mp h]; exact getD_mem2 hn hj
        · rw [List.length_append, List.length_singleton]; lia
        · rw [take_succ_get nm j (by lia)]
          have := dE_suf kost_ok (nm.take j) (u ++ v) [nm.getD j 0]
          exact Int.le_trans (Int.le_of_eq this) w4
  | some x :: Q, hf, j, hj => by
    have ih := row_best t hn Q fun x hx => hf x (List.mem_cons_of_mem _ hx)
    obtain ⟨s, hs1, hs2⟩ := hf x List.mem_cons_self
    show ∃ w, Wd p q w ∧ LgR (some x :: Q) w ∧ w.length ≤ tok Q + 1 + (if hasN Q then j else 0) ∧ dist (nm.take j) w ≤ (nextL nm turn (rowR nm turn Q) (some x) nm.length).getD j 0
    have n0 : (nextL nm turn (rowR nm turn Q) (some x) nm.length).getD 0 0 = (rowR nm turn Q).getD 0 0 + 2 := next_0 _
    have nr : ∀ k, k < nm.length → (nextL nm turn (rowR nm turn Q) (some x) nm.length).getD (k + 1) 0 = min ((rowR nm turn Q).getD (k + 1) 0 + 2) (min ((nextL nm turn (rowR nm turn Q) (some x) nm.length).getD k 0 + 2) ((rowR nm turn Q).getD k 0 + (if fitX x (nm.getD k 0) then 0 else turn))) := fun k hk => by
      rw [next_rec _ k hk]
      exact mn3_eq _ _ _
    generalize nextL nm turn (rowR nm turn Q) (some x) nm.length = V at *
    generalize rowR nm turn Q = R at *
    have ext : ∀ (u : List Nat) (s : Nat), Wd p q u → (s = p ∨ s = q) → Wd p q (u ++ [s]) := fun u s hu hs y hy => by
      rcases List.mem_append.mp hy with h | h
      · exact hu y h
      · rw [List.mem_singleton.mp h]; exact hs
    have ln : ∀ (u : List Nat) (s : Nat) {t i k : Nat}, u.length ≤ t + i → i ≤ k → (u ++ [s]).length ≤ t + 1 + k := fun u s {t i k} h1 h2 => by
      rw [List.length_append, List.length_singleton, Nat.add_right_comm]
      exact Nat.succ_le_succ (Nat.le_trans h1 (Nat.add_le_add_left h2 t))
    induction j with
    | zero =>
      obtain ⟨u, w1, w2, w3, w4⟩ := ih 0 hj
      refine ⟨u ++ [s], ext u s w1 hs1, ⟨u, s, rfl, hs2, w2⟩, ln u _ w3 (Nat.le_refl _), ?_⟩
      · rw [List.take_zero, dist_nil_l] at w4 ⊢
        rw [n0, two_len]
        exact add_r w4 (Int.le_refl _)
    | succ j ihj =>
      have a5 := nr j hj
      have hj' : (if hasN Q = true then j else 0) ≤ (if hasN Q = true then j + 1 else 0) := by split <;> lia
      rw [take_succ_get nm j (by lia)]
      have a6 := min3_or (R.getD (j + 1) 0 + 2) (V.getD j 0 + 2) (R.getD j 0 + (if fitX x (nm.getD j 0) then 0 else turn))
      rw [← a5] at a6
      rcases a6 with h1 | h1 | h3
      · obtain ⟨u, w1, w2, w3, w4⟩ := ih (j + 1) hj
        refine ⟨u ++ [s], ext u s w1 hs1, ⟨u, s, rfl, hs2, w2⟩, ln u _ w3 (Nat.le_refl _), ?_⟩
        rw [take_succ_get nm j hj] at w4
        rw [dist_snoc, h1]
        exact Int.le_trans (m3c _ _ _) (add_r w4 (Int.le_refl _))
      · obtain ⟨w, w1, ⟨u, s', rfl, hs', w2⟩, w3, w4⟩ := ihj (Nat.le_of_lt hj)
        refine ⟨u ++ [s'], w1, ⟨u, s', rfl, hs', w2⟩, Nat.le_trans w3 (Nat.add_le_add_left hj' _), ?_⟩
        rw [dist_snoc, h1]
        exact Int.le_trans (m3b _ _ _) (add_r w4 (Int.le_refl _))
      · obtain ⟨u, w1, w2, w3, w4⟩ := ih j (Nat.le_of_lt hj)
        have hc := getD_mem2 hn hj
        by_cases hfx : fitX x (nm.getD j 0) = true
        · rw [if_pos hfx] at h3
          refine ⟨u ++ [nm.getD j 0], ext u _ w1 hc, ⟨u, _, rfl, hfx, w2⟩, ln u _ w3 hj', ?_⟩
          rw [dist_snoc, h3]
          exact Int.le_trans (m3a _ _ _) (add_r w4 (Int.le_of_eq (kost_self _)))
        · rw [if_neg hfx] at h3
          refine ⟨u ++ [s], ext u s w1 hs1, ⟨u, s, rfl, hs2, w2⟩, ln u _ w3 hj', ?_⟩
          rw [dist_snoc, h3]
          exact Int.le_trans (m3a _ _ _) (add_r w4 (Int.le_of_eq (t.pq _ _ hc hs1 (fun e => hfx (by rw [e]; exact hs2)))))
end
end Mine
end SP2

/-! P3 -/
noncomputable section SP3
namespace Mine
theorem fitAll_len {xs : List (List Nat)} {w : List Nat} (h : fitAll xs w = true) : xs.length = w.length := by
  unfold fitAll at h
  rw [Bool.and_eq_true] at h
  exact beq_iff_eq.mp h.1
theorem fitAll_snoc (g : List (List Nat)) (x : List Nat) (v : List Nat) (s : Nat) : fitAll (g ++ [x]) (v ++ [s]) = (fitAll g v && fitX x s) := by
  unfold fitAll
  rw [List.length_append, List.length_append, List.length_singleton, List.length_singleton]
  by_cases h : g.length = v.length
  · rw [h, beq_self_eq_true, beq_self_eq_true, Bool.true_and, Bool.true_and, List.range_succ, List.all_append]
    have e1 : (g ++ [x]).getD v.length [] = x := by
      rw [List.getD_eq_getElem?_getD, List.getElem?_append_right (by lia), h, Nat.sub_self]; rfl
    have e2 : (v ++ [s]).getD v.length 0 = s := by
      rw [List.getD_eq_getElem?_getD, List.getElem?_append_right (by lia), Nat.sub_self]; rfl
    congr 1
    · rw [Bool.eq_iff_iff, List.all_eq_true, List.all_eq_true]
      have e3 : ∀ k, k ∈ List.range v.length → (g ++ [x]).getD k [] = g.getD k [] ∧ (v ++ [s]).getD k 0 = v.getD k 0 := fun k hk => by
        have hk := List.mem_range.mp hk
        refine ⟨?_, ?_⟩
        · rw [List.getD_eq_getElem?_getD, List.getElem?_append_left (by lia), ← List.getD_eq_getElem?_getD]
        · rw [List.getD_eq_getElem?_getD, List.getElem?_append_left hk, ← List.getD_eq_getElem?_getD]
      constructor
      · intro q k hk
        have := q k hk
        rwa [(e3 k hk).1, (e3 k hk).2] at this
      · intro q k hk
        rw [(e3 k hk).1, (e3 k hk).2]
        exact q k hk
    · show (fitX ((g ++ [x]).getD v.length []) ((v ++ [s]).getD v.length 0) && true) = _
      rw [e1, e2, Bool.and_true]
  · have h1 : (g.length + 1 == v.length + 1) = false := by rw [beq_eq_false_iff_ne]; lia
    have h2 : (g.length == v.length) = false := by rw [beq_eq_false_iff_ne]; exact h
    rw [h1, h2]
    rfl
theorem LgR_seg (R : List Pt) : ∀ (n : Nat) (g : List (List Nat)) (w : List Nat), g.length = n → (LgR ((g.map some).reverse ++ R) w ↔ ∃ u v, w = u ++ v ∧ LgR R u ∧ fitAll g v = true)
  | 0, g, w, hg => by
    rw [List.length_eq_zero_iff.mp hg]
    constructor
    · intro h
      exact ⟨w, [], (List.append_nil w).symm, h, rfl⟩
    · rintro ⟨u, v, rfl, h1, h2⟩
      have : v = [] := List.length_eq_zero_iff.mp (fitAll_len h2).symm
      rw [this, List.append_nil]
      exact h1
  | n + 1, g, w, hg => by
    rcases List.eq_nil_or_concat g with rfl | ⟨g', x, rfl⟩
    · cases hg
    · rw [List.concat_eq_append] at hg ⊢
      have hg' : g'.length = n := by rw [List.length_append, List.length_singleton] at hg; lia
      have e : ((g' ++ [x]).map some).reverse ++ R = some x :: ((g'.map some).reverse ++ R) := by simp
      rw [e]
      constructor
      · rintro ⟨a, s, rfl, hs, ha⟩
        obtain ⟨u, v, rfl, h1, h2⟩ := (LgR_seg R n g' a hg').mp ha
        refine ⟨u, v ++ [s], List.append_assoc _ _ _, h1, ?_⟩
        rw [fitAll_snoc, h2, hs]
        rfl
      · rintro ⟨u, v, rfl, h1, h2⟩
        rcases List.eq_nil_or_concat v with rfl | ⟨v', s, rfl⟩
        · have := fitAll_len h2
          rw [List.length_append, List.length_singleton] at this
          cases this
        · rw [List.concat_eq_append] at h2 ⊢
          rw [fitAll_snoc, Bool.and_eq_true] at h2
          exact ⟨u ++ v', s, (List.append_assoc _ _ _).symm, h2.2, (LgR_seg R n g' _ hg').mpr ⟨u, v', rfl, h1, h2.1⟩⟩
/-- the parts of the segments -/
def Qs : Segs → List Pt
  | [] => []
  | g :: rem => g.map some ++ rem.flatMap fun g => none :: g.map some
theorem Qs_snoc (g0 : List (List Nat)) (rs : Segs) (g : List (List Nat)) : (Qs ((g0 :: rs) ++ [g])).reverse = (g.map some).reverse ++ none :: (Qs (g0 :: rs)).reverse := by
  unfold Qs
  simp
theorem Qs_enc (sg : Segs) : encS .none sg = (Qs sg).map encO := by
  cases sg with
  | nil => rfl
  | cons g rem =>
    show g.map encW ++ rem.flatMap (fun g => D.none :: g.map encW) = (g.map some ++ rem.flatMap fun g => none :: g.map some).map encO
    rw [List.map_append, List.map_map, List.map_flatMap]
    have : (fun g : List (List Nat) => D.none :: g.map encW) = fun a => List.map encO (none :: List.map some a) := by
      funext g
      rw [List.map_cons, List.map_map]
      rfl
    rw [this]
    rfl
theorem LgR_first (g0 : List (List Nat)) : ∀ (n : Nat) (rs : Segs) (w : List Nat), rs.length = n → LgR (Qs (g0 :: rs)).reverse w → ∃ u v, w = u ++ v ∧ fitAll g0 u = true
  | 0, rs, w, hn, h => by
    rw [List.length_eq_zero_iff.mp hn] at h
    have e : (Qs [g0]).reverse = (g0.map some).reverse ++ [] := by unfold Qs; simp
    rw [e] at h
    obtain ⟨u, v, rfl, h1, h2⟩ := (LgR_seg [] g0.length g0 w rfl).mp h
    have : u = [] := h1
    subst this
    exact ⟨v, [], by simp, h2⟩
  | n + 1, rs, w, hn, h => by
    rcases List.eq_nil_or_concat rs with rfl | ⟨rs', g, rfl⟩
    · cases hn
    · rw [List.concat_eq_append] at hn h
      have hn' : rs'.length = n := by rw [List.length_append, List.length_singleton] at hn; lia
      rw [← List.cons_append, Qs_snoc] at h
      obtain ⟨a, b, rfl, h1, h2⟩ := (LgR_seg _ g.length g w rfl).mp h
      obtain ⟨c, d, rfl, h3⟩ := h1
      obtain ⟨u, v, rfl, h4⟩ := LgR_first g0 n rs' c hn' h3
      exact ⟨u, v ++ d ++ b, by simp, h4⟩
theorem adv_spec (g : List (List Nat)) (w : List Nat) : ∀ (n a : Nat), w.length - a ≤ n → a ≤ adv g w a ∧ (∀ k, a ≤ k → k < adv g w a → fitAll g ((w.drop k).take g.length) = false) ∧ (adv g w a < w.length → fitAll g ((w.drop (adv g w a)).take g.length) = true)
  | 0, a, h => by
    have e : adv g w a = a := by
      unfold adv
      rw [if_neg]
      intro q
      omega
    rw [e]
    exact ⟨Nat.le_refl _, fun k h1 h2 => by lia, fun h1 => by lia⟩
  | n + 1, a, h => by
    by_cases hc : a < w.length ∧ fitAll g ((w.drop a).take g.length) = false
    · have e : adv g w a = adv g w (a + 1) := by
        conv => lhs; unfold adv
        rw [if_pos hc]
      obtain ⟨h1, h2, h3⟩ := adv_spec g w n (a + 1) (by omega)
      rw [e]
      refine ⟨by lia, fun k k1 k2 => ?_, h3⟩
      by_cases hk : k = a
      · rw [hk]; exact hc.2
      · exact h2 k (by lia) k2
    · have e : adv g w a = a := by
        unfold adv
        rw [if_neg hc]
      rw [e]
      refine ⟨Nat.le_refl _, fun k h1 h2 => by lia, fun h1 => ?_⟩
      cases hf : fitAll g ((w.drop a).take g.length) with
      | true => rfl
      | false => exact absurd ⟨h1, hf⟩ hc
theorem take_pre {w u v : List Nat} {k : Nat} (hk : k ≤ w.length) (h : w.take k = u ++ v) : u = w.take u.length ∧ u.length + v.length = k ∧ w.drop u.length = v ++ w.drop k := by
  have e : w = (u ++ v) ++ w.drop k := by rw [← h, List.take_append_drop]
  have hl := congrArg List.length h
  rw [List.length_take, Nat.min_eq_left hk, List.length_append] at hl
  refine ⟨?_, hl.symm, ?_⟩
  · conv => rhs; rw [e, List.append_assoc, List.take_left]
  · conv => lhs; rw [e, List.append_assoc, List.drop_left]
/-- where the parts so far end first -/
def Ends0 (w : List Nat) (i : Segs) (a : Nat) : Prop := ∀ k, k ≤ w.length → (LgR (none :: (Qs i).reverse) (w.take k) ↔ a ≤ k)
theorem ends_first (w : List Nat) (g0 : List (List Nat)) (h : fitAll g0 (w.take g0.length) = true) : Ends0 w [g0] g0.length := by
  intro k hk
  have e : (Qs [g0]).reverse = (g0.map some).reverse ++ [] := by unfold Qs; simp
  have hl := fitAll_len h
  rw [List.length_take] at hl
  rw [e]
  constructor
  · rintro ⟨u, v, e1, hu⟩
    obtain ⟨a, b, rfl, h1, h2⟩ := (LgR_seg [] g0.length g0 u rfl).mp hu
    have : a = [] := h1
    subst this
    have hb := fitAll_len h2
    have := congrArg List.length e1
    rw [List.length_take, Nat.min_eq_left hk, List.length_append, List.nil_append] at this
    lia
  · intro hle
    refine ⟨w.take g0.length, (w.take k).drop g0.length, ?_, (LgR_seg [] g0.length g0 _ rfl).mpr ⟨[], w.take g0.length, rfl, rfl, h⟩⟩
    have := (List.take_append_drop g0.length (w.take k)).symm
    rw [List.take_take, Nat.min_eq_left hle] at this
    exact this
theorem endsA_step (w : List Nat) (g0 : List (List Nat)) (rs : Segs) (g : List (List Nat)) (hg : g ≠ []) (a : Nat) (h : Ends0 w (g0 :: rs) a) : Ends0 w ((g0 :: rs) ++ [g]) (adv g w a + g.length) := by
  intro k hk
  obtain ⟨s1, s2, s3⟩ := adv_spec g w w.length a (Nat.sub_le _ _)
  have hgl : 0 < g.length := List.length_pos_iff.mpr hg
  rw [Qs_snoc]
  constructor
  · rintro ⟨x, y, e1, hx⟩
    obtain ⟨u, v, rfl, h1, h2⟩ := (LgR_seg _ g.length g x rfl).mp hx
    rw [List.append_assoc] at e1
    obtain ⟨q1, q2, q3⟩ := take_pre hk e1
    have hv := fitAll_len h2
    rw [List.length_append] at q2
    have hu : a ≤ u.length := (h u.length (by lia)).mp (by rw [← q1]; exact h1)
    have hf : fitAll g ((w.drop u.length).take g.length) = true := by
      rw [q3, List.append_assoc, hv, List.take_left]
      exact h2
    have : ¬ u.length < adv g w a := fun w' => by
      rw [s2 u.length hu w'] at hf
      cases hf
    lia
  · intro hle
    have hlt : adv g w a < w.length := by lia
    have hf := s3 hlt
    have e2 : w.take k = (w.take (adv g w a) ++ (w.drop (adv g w a)).take g.length) ++ (w.take k).drop (adv g w a + g.length) := by
      have := (List.take_append_drop (adv g w a + g.length) (w.take k)).symm
      rw [List.take_take, Nat.min_eq_left hle, List.take_add] at this
      exact this
    exact ⟨_, _, e2, (LgR_seg _ g.length g _ rfl).mpr ⟨_, _, rfl, (h _ (Nat.le_of_lt hlt)).mpr s1, hf⟩⟩
theorem ends_all (w : List Nat) (g0 : List (List Nat)) : ∀ (rs rs0 : Segs) (a : Nat), (∀ g ∈ rs, g ≠ []) → Ends0 w (g0 :: rs0) a → Ends0 w (g0 :: (rs0 ++ rs)) (rs.foldl (fun a g => adv g w a + g.length) a)
  | [], rs0, a, _, h => by rw [List.append_nil]; exact h
  | g :: rs, rs0, a, hne, h => by
    have h1 := endsA_step w g0 rs0 g (hne g List.mem_cons_self) a h
    have := ends_all w g0 rs (rs0 ++ [g]) _ (fun g hg => hne g (List.mem_cons_of_mem _ hg)) h1
    rw [List.append_assoc] at this
    exact this
theorem takes_iff (g0 : List (List Nat)) (rem : Segs) (hr : remOk rem) (w : List Nat) : takesF g0 rem w = true ↔ LgR (Qs (g0 :: rem)).reverse w := by
  unfold takesF
  rcases List.eq_nil_or_concat rem with rfl | ⟨rs, l, rfl⟩
  · rw [if_pos rfl]
    have e : (Qs [g0]).reverse = (g0.map some).reverse ++ [] := by unfold Qs; simp
    rw [e, LgR_seg [] g0.length g0 w rfl]
    constructor
    · intro h
      exact ⟨[], w, rfl, rfl, h⟩
    · rintro ⟨u, v, rfl, h1, h2⟩
      have : u = [] := h1
      subst this
      exact h2
  · rw [List.concat_eq_append] at hr ⊢
    unfold remOk at hr
    rw [List.dropLast_concat] at hr
    rw [if_neg (by simp), List.dropLast_concat, List.getLastD_concat, Bool.and_eq_true, Bool.and_eq_true, decide_eq_true_eq]
    constructor
    · rintro ⟨h1, h2, h3⟩
      have E := ends_all w g0 rs [] _ hr (ends_first w g0 h1)
      rw [List.nil_append] at E
      rw [← List.cons_append, Qs_snoc]
      refine (LgR_seg _ l.length l w rfl).mpr ⟨w.take (w.length - l.length), w.drop (w.length - l.length), (List.take_append_drop _ _).symm, (E _ (Nat.sub_le _ _)).mpr (by omega), h3⟩
    · intro h
      have hf : fitAll g0 (w.take g0.length) = true := by
        obtain ⟨u, v, rfl, h1⟩ := LgR_first g0 _ _ w rfl h
        rw [fitAll_len h1, List.take_left]
        exact h1
      refine ⟨hf, ?_⟩
      have E := ends_all w g0 rs [] _ hr (ends_first w g0 hf)
      rw [List.nil_append] at E
      rw [← List.cons_append, Qs_snoc] at h
      obtain ⟨u, v, rfl, h1, h2⟩ := (LgR_seg _ l.length l w rfl).mp h
      have hl := fitAll_len h2
      have h4 := (E u.length (by simp)).mp (by rw [List.take_left]; exact h1)
      rw [List.length_append, hl]
      refine ⟨by lia, ?_⟩
      rw [Nat.add_sub_cancel, List.drop_left]
      exact h2
end Mine
end SP3

/-! FL2 -/
set_option maxHeartbeats 4000000
noncomputable section SFL2
namespace Mine

section
variable {P : Params} {c : Cx}

def packQ {K : Frag} {n : Nat} (_h : CF K c) {fa : Addr} {ob : Obj} {fd : FuncData} {body : List Stmt} {f : Rho → Option Rho} {lf : Rho → Option D} {l : Expr} {xr xa xb : Str} {ps : Arguments} {lb : Expr} {lsc : Scope} {p1 p2 p3 p4 p5 p6 p7 : Pos}
    (_hob : K.lookup fa = some ob) (_hd : ob.data = .func fd) (_hbody : fd.body = .stmts body)
    (t : TrPre c n fd.scope body f [.Return (some (.Compare l [.Eq] [.Call (.Name xr p1) [.Lambda ps lb lsc p2, .Name xa p3, .Name xb p4] [] p5] p6)) p7]) (u : TrE c n fd.scope l lf) :
    (f : Rho → Option Rho) ×' (lf : Rho → Option D) ×' (TrPre c n fd.scope body f [.Return (some (.Compare l [.Eq] [.Call (.Name xr p1) [.Lambda ps lb lsc p2, .Name xa p3, .Name xb p4] [] p5] p6)) p7] ∧ TrE c n fd.scope l lf) := ⟨f, lf, t, u⟩

def Tlaw (h : CF (KK P) c) {F_law_pattern : List D → Option D} (h_law_pattern : ActL c 8 (fun vs => call (.ref 99) vs) F_law_pattern) {F_translate : List D → Option D} (h_translate : ActL c 8 (fun vs => call (.ref 76) vs) F_translate) {Ftranslate : List D → Option D} (htranslate : ActL c 8 (fun vs => call (.ref 57) vs) Ftranslate) {F_law_pieces : List D → Option D} (h_law_pieces : ActL c 8 (fun vs => call (.ref 118) vs) F_law_pieces) {F_law_words : List D → Option D} (h_law_words : ActL c 8 (fun vs => call (.ref 104) vs) F_law_words) {F_law_takes : List D → Option D} (h_law_takes : ActL c 8 (fun vs => call (.ref 130) vs) F_law_takes) {F_levenshtein_distance : List D → Option D} (h_levenshtein_distance : ActL c 8 (fun vs => call (.ref 45) vs) F_levenshtein_distance) :=
  packQ (n := 8) (c := c) (fa := 142) h rfl rfl rfl
    (pre_cons (trS_assign (tr_if (trT_cmp (tr_name _ _ rfl rfl) (tr_list trEs_nil) act_ne) (tr_cut (tr_name _ _ rfl rfl) (trP_none (b := true)) (trP_some (tr_int _ _ _))) (tr_list (trEs_cons (tr_int _ _ _) trEs_nil))) (by first | exact .inl rfl | exact .inr rfl)) (pre_cons (trS_assign (tr_bin (tr_int _ _ _) (tr_bin (tr_callB (tr_built _ _ _ _ rfl (h.gn _ rfl) (h.b _ _ rfl (by decide)) rfl rfl) (trEs_cons (tr_name _ _ rfl rfl) trEs_nil) act_sum (plain_cons plain_nil)) (tr_int _ _ _) act_mod) act_add) (by first | exact .inl rfl | exact .inr rfl)) (pre_cons (trS_assign (tr_if (trT_cmp (tr_name _ _ rfl rfl) (tr_int _ _ _) act_eq) (tr_str _ _ _) (tr_str _ _ _)) (by first | exact .inl rfl | exact .inr rfl)) (pre_cons (trS_assign (tr_cutS (tr_meth (tr_str _ _ _) (trEs_cons (trF_m (trF_comp ["pair"] (trI_of (tr_name _ _ rfl rfl)) (trTs_one (trT_cmp (tr_bin (tr_bin (tr_name _ _ rfl rfl) (tr_int _ _ _) act_div) (tr_int _ _ _) act_mod) (tr_int _ _ _) act_lt)) (tr_idx (tr_name _ _ rfl rfl) (tr_bin (tr_bin (tr_name _ _ rfl rfl) (tr_int _ _ _) act_div) (tr_int _ _ _) act_mod)))) trEs_nil) GM.join act_join (plain_cons plain_nil) (fun _ => rfl)) (trP_none (b := true)) (trP_some (tr_int _ _ _))) (by first | exact .inl rfl | exact .inr rfl)) (pre_cons (trS_assign (tr_callF (tr_glob _ _ _ _ rfl (h.g _ _ rfl) rfl rfl) (trEs_cons (tr_name _ _ rfl rfl) (trEs_cons (tr_name _ _ rfl rfl) trEs_nil)) (h.ft _ _ rfl) rfl h_law_pattern (plain_cons (plain_cons plain_nil))) (by first | exact .inl rfl | exact .inr rfl)) (pre_cons (trS_assign (tr_callF (tr_glob _ _ _ _ rfl (h.g _ _ rfl) rfl rfl) (trEs_cons (tr_name _ _ rfl rfl) (trEs_cons (tr_none _ _) (trEs_cons (tr_str _ _ _) trEs_nil))) (h.ft _ _ rfl) rfl h_translate (plain_cons (plain_cons (plain_cons plain_nil)))) (by first | exact .inl rfl | exact .inr rfl)) (pre_cons (trS_assign (tr_callF (tr_glob _ _ _ _ rfl (h.g _ _ rfl) rfl rfl) (trEs_cons (tr_name _ _ rfl rfl) trEs_nil) (h.ft _ _ rfl) rfl htranslate (plain_cons plain_nil)) (by first | exact .inl rfl | exact .inr rfl)) (pre_cons (trS_assign (tr_callF (tr_glob _ _ _ _ rfl (h.g _ _ rfl) rfl rfl) (trEs_cons (tr_name _ _ rfl rfl) trEs_nil) (h.ft _ _ rfl) rfl h_law_pieces (plain_cons plain_nil)) (by first | exact .inl rfl | exact .inr rfl)) (pre_cons (trS_assign (tr_bin (tr_callB (tr_built _ _ _ _ rfl (h.gn _ rfl) (h.b _ _ rfl (by decide)) rfl rfl) (trEs_cons (trF_m (trF_comp [] (trI_of (tr_name _ _ rfl rfl)) (trTs_one (trT_cmp (tr_name _ _ rfl rfl) (tr_none _ _) act_isNot)) (tr_name _ _ rfl rfl))) trEs_nil) act_len (plain_cons plain_nil)) (tr_if (trT_cmp (tr_str _ _ _) (tr_name _ _ rfl rfl) act_in) (tr_callB (tr_built _ _ _ _ rfl (h.gn _ rfl) (h.b _ _ rfl (by decide)) rfl rfl) (trEs_cons (tr_name _ _ rfl rfl) trEs_nil) act_len (plain_cons plain_nil)) (tr_int _ _ _)) act_add) (by first | exact .inl rfl | exact .inr rfl)) (pre_cons (trS_assignK (trF_m (trF_comp ["pieces"] (trI_of (tr_callF (tr_glob _ _ _ _ rfl (h.g _ _ rfl) rfl rfl) (trEs_cons (tr_name _ _ rfl rfl) (trEs_cons (tr_name _ _ rfl rfl) trEs_nil)) (h.ft _ _ rfl) rfl h_law_words (plain_cons (plain_cons plain_nil)))) (trTs_one (trT_of (tr_callF (tr_glob _ _ _ _ rfl (h.g _ _ rfl) rfl rfl) (trEs_cons (tr_name _ _ rfl rfl) (trEs_cons (tr_name _ _ rfl rfl) trEs_nil)) (h.ft _ _ rfl) rfl h_law_takes (plain_cons (plain_cons plain_nil))))) (tr_name _ _ rfl rfl))) rfl) (pre_cons (trS_if (trT_or (trT_cmp (tr_cut (tr_name _ _ rfl rfl) (trP_none (b := true)) (trP_some (tr_int _ _ _))) (tr_str _ _ _) act_ne) (trT_or (trT_cmp (tr_cut (tr_name _ _ rfl rfl) (trP_some (tr_un (tr_int _ _ _) act_neg)) (trP_none (b := true))) (tr_str _ _ _) act_ne) (trT_or (trT_cmp (tr_name _ _ rfl rfl) (tr_list trEs_nil) act_eq) trT_or0))) (trSs_cons (trS_ret (TrE.b (tr_bool _ _ _))) trSs_nil) trSs_nil) (pre_cons (trS_assignC ["name", "taken"] (trI_range (tr_built _ _ _ _ rfl (h.gn _ rfl) (h.b _ _ rfl (by decide)) rfl rfl) (trEs_cons (tr_bin (tr_callB (tr_built _ _ _ _ rfl (h.gn _ rfl) (h.b _ _ rfl (by decide)) rfl rfl) (trEs_cons (tr_name _ _ rfl rfl) trEs_nil) act_len (plain_cons plain_nil)) (tr_int _ _ _) act_add) trEs_nil) (plain_cons plain_nil)) trTs_nil (trF_m (trF_comp ["j", "name"] (trI_of (tr_name _ _ rfl rfl)) trTs_nil (tr_callF (tr_glob _ _ _ _ rfl (h.g _ _ rfl) rfl rfl) (trEs_cons (tr_cut (tr_name _ _ rfl rfl) (trP_none (b := true)) (trP_some (tr_name _ _ rfl rfl))) (trEs_cons (tr_name _ _ rfl rfl) (trEs_cons (tr_bin (tr_int _ _ _) (tr_bin (tr_name _ _ rfl rfl) (tr_callB (tr_built _ _ _ _ rfl (h.gn _ rfl) (h.b _ _ rfl (by decide)) rfl rfl) (trEs_cons (tr_name _ _ rfl rfl) trEs_nil) act_len (plain_cons plain_nil)) act_add) act_mul) trEs_nil))) (h.ft _ _ rfl) rfl h_levenshtein_distance (plain_cons (plain_cons (plain_cons plain_nil))))))) (pre_cons (trS_if (trT_cmp (tr_bool _ _ _) (trF_m (trF_comp2 [] (trI_of (tr_name _ _ rfl rfl)) trTs_nil (trI_of (tr_name _ _ rfl rfl)) trTs_nil (tr_cmp (tr_callT (tr_built _ _ _ _ rfl (h.gn _ rfl) (h.b _ _ rfl (by decide)) rfl rfl) (trEs_cons (tr_name _ _ rfl rfl) trEs_nil) act_type (plain_cons plain_nil)) (tr_built _ _ _ _ rfl (h.gn _ rfl) (h.b _ _ rfl (by decide)) rfl rfl) act_is))) act_in) (trSs_cons (trS_ret (TrE.b (tr_bool _ _ _))) trSs_nil) trSs_nil) (pre_cons (trS_assignC [] (trI_range (tr_built _ _ _ _ rfl (h.gn _ rfl) (h.b _ _ rfl (by decide)) rfl rfl) (trEs_cons (tr_bin (tr_callB (tr_built _ _ _ _ rfl (h.gn _ rfl) (h.b _ _ rfl (by decide)) rfl rfl) (trEs_cons (tr_name _ _ rfl rfl) trEs_nil) act_len (plain_cons plain_nil)) (tr_int _ _ _) act_add) trEs_nil) (plain_cons plain_nil)) trTs_nil (tr_bin (tr_int _ _ _) (tr_name _ _ rfl rfl) act_mul)) pre_nil))))))))))))))
    (trF_m (trF_comp [] (trI_of (tr_name _ _ rfl rfl)) trTs_nil (tr_callB (tr_built _ _ _ _ rfl (h.gn _ rfl) (h.b _ _ rfl (by decide)) rfl rfl) (trEs_cons (tr_name _ _ rfl rfl) trEs_nil) act_min (plain_cons plain_nil))))

end
end Mine
end SFL2

/-! Q10 -/
noncomputable section SQ10
namespace Mine
/-! ### equal data is equal -/
def Good (k : Nat) (d : D) : Prop := ∃ p, d.py = some p ∧ p.canLay0 = true ∧ p.depth ≤ k
theorem good_int (i : Int) : Good 0 (.int i) := ⟨_, rfl, rfl, Nat.le_refl _⟩
theorem good_W {l : List Nat} (h : ∀ c ∈ l, c < 128) : Good 0 (encW l) := by
  refine ⟨.str (T l), rfl, ?_, Nat.le_refl _⟩
  show (l.toArray.all fun x => decide (x < 0x110000)) = true
  simp only [List.all_toArray, List.all_eq_true, decide_eq_true_eq]
  intro c hc
  have := h c hc
  lia
theorem goods {k : Nat} : ∀ {l : List D}, (∀ d ∈ l, Good k d) → ∃ ps, D.pys l = some ps ∧ PyData.canLayAll0 ps = true ∧ PyData.depthAll ps ≤ k ∧ ps.length = l.length
  | [], _ => ⟨[], rfl, rfl, Nat.zero_le _, rfl⟩
  | d :: l, h => by
    obtain ⟨p, h1, h2, h3⟩ := h d List.mem_cons_self
    obtain ⟨ps, g1, g2, g3, g4⟩ := goods fun d hd => h d (List.mem_cons_of_mem _ hd)
    refine ⟨p :: ps, ?_, ?_, ?_, congrArg (· + 1) g4⟩
    · unfold D.pys
      rw [h1, g1]
      rfl
    · show (PyData.canLay0 p && PyData.canLayAll0 ps) = true
      rw [h2, g2]
      rfl
    · exact Nat.max_le.mpr ⟨h3, g3⟩
theorem shaped_list {ps : List PyData} (h2 : PyData.canLayAll0 ps = true) (h3 : PyData.depthAll ps ≤ 0) : SeqAt.shaped (.list ps) = true := by
  unfold SeqAt.shaped
  have e1 : PyData.canLay0 (.list ps) = true := h2
  have e2 : PyData.depth (.list ps) ≤ 1 := Nat.succ_le_succ h3
  rw [e1, Bool.true_and, decide_eq_true_eq]
  lia
theorem py_list {l : List D} {ps : List PyData} (h : D.pys l = some ps) : D.py (.list l) = some (.list ps) := by
  unfold D.py
  rw [h]
  rfl
theorem eq_self {l : List D} (h : ∀ d ∈ l, Good 0 d) : oEq (.list l) (.list l) = some (.bool true) := by
  obtain ⟨ps, g1, g2, g3, _⟩ := goods h
  unfold oEq
  simp only [py_list g1, Option.bind_some, shaped_list g2 g3, Bool.and_self, if_true]
  rw [SeqAt.eqv_refl (.list ps) g2]
theorem sh_nil : SeqAt.shaped (.list []) = true := by decide
theorem eqv_nil (ps : List PyData) : PyData.eqv (.list ps) (.list []) = ps.isEmpty := by cases ps <;> rfl
theorem cmp_nil {l : List D} (h : ∀ d ∈ l, Good 0 d) : oEq (.list l) (.list []) = some (.bool l.isEmpty) ∧ oNe (.list l) (.list []) = some (.bool (!l.isEmpty)) := by
  obtain ⟨ps, g1, g2, g3, g4⟩ := goods h
  have hn : D.py (.list []) = some (.list []) := rfl
  have he : ps.isEmpty = l.isEmpty := by
    cases ps with
    | nil => cases l with
      | nil => rfl
      | cons _ _ => cases g4
    | cons _ _ => cases l with
      | nil => cases g4
      | cons _ _ => rfl
  constructor
  · unfold oEq
    simp only [py_list g1, hn, Option.bind_some, shaped_list g2 g3, sh_nil, Bool.and_self, if_true, eqv_nil, he]
  · unfold oNe
    simp only [py_list g1, hn, Option.bind_some, shaped_list g2 g3, sh_nil, Bool.and_self, if_true, eqv_nil, he]
theorem good_ints (ns : List Int) : ∀ d ∈ ns.map D.int, Good 0 d := fun d hd => by
  obtain ⟨n, _, rfl⟩ := List.mem_map.mp hd
  exact good_int n
theorem ints_of : ∀ l : List Int, intsOf (l.map .int) = some l
  | [] => rfl
  | x :: l => by
    rw [List.map_cons]
    show (intsOf (l.map .int)).map (x :: ·) = _
    rw [ints_of l]
    rfl
/-! ### statements ahead of the last -/
theorem pre_put {f : Rho → Option (Rho × Fl)} {g : Rho → Option Rho} {r : Rho} {K : Rho → Prop} (x : Str) (e : Ent) (hf : f r = some ((r.kill x).put x e, .next)) (h2 : ∀ r1 : Rho, (∀ y, r1.get y = if y = x then some e else (r.get y).map (Ent.kill x)) → ∃ r', g r1 = some r' ∧ K r') : ∃ r', preF f g r = some r' ∧ K r' := by
  unfold preF
  rw [hf]
  exact h2 _ fun y => get_kp r x y e
theorem pre_skip {f : Rho → Option (Rho × Fl)} {g : Rho → Option Rho} {r : Rho} {K : Rho → Prop} (hf : f r = some (r, .next)) (h2 : ∃ r', g r = some r' ∧ K r') : ∃ r', preF f g r = some r' ∧ K r' := by
  unfold preF
  rw [hf]
  exact h2
/-! ### the numbers, the two signs, the name -/
def nums2 (ns : List Int) : List Int := if ns = [] then [3] else ns.take 8
def turnF' (ns : List Int) : Int := 1 + (nums2 ns).sum.fmod 2
def sgnQ (ns : List Int) : Nat := if turnF' ns = 2 then 98 else 65
def nameX (q : Nat) (x : Int) : Nat := if (x.fdiv 8).fmod 3 = 0 then 97 else q
def nameF (ns : List Int) : List Nat := (((nums2 ns).filter fun x => decide ((x.fdiv 8).fmod 3 < 2)).map (nameX (sgnQ ns))).take 2
theorem sgnQ_pq (ns : List Int) : PQ 97 (sgnQ ns) := by
  refine ⟨rfl, ?_⟩
  unfold sgnQ
  split
  · exact .inl rfl
  · exact .inr rfl
theorem turn_cases (ns : List Int) : (turnF' ns = 1 ∧ sgnQ ns = 65) ∨ (turnF' ns = 2 ∧ sgnQ ns = 98) := by
  obtain ⟨k, hk, hl⟩ := fmod_nat (nums2 ns).sum 2 (by decide)
  have hk' : (nums2 ns).sum.fmod 2 = (k : Int) := hk
  unfold sgnQ
  have e : turnF' ns = 1 + (k : Int) := by unfold turnF'; rw [hk']
  rw [e]
  match k, hl with
  | 0, _ => exact .inl ⟨rfl, rfl⟩
  | 1, _ => exact .inr ⟨rfl, rfl⟩
theorem k_ab : kost 97 98 = 2 := by kernel_rfl
theorem k_aA : kost 97 65 = 1 := by kernel_rfl
theorem two_ok (ns : List Int) : Two 97 (sgnQ ns) (turnF' ns) := by
  rcases turn_cases ns with ⟨h1, h2⟩ | ⟨h1, h2⟩
  · rw [h1, h2]
    refine ⟨fun x y hx hy hne => ?_, by decide⟩
    rcases hx with rfl | rfl <;> rcases hy with rfl | rfl
    · exact absurd rfl hne
    · exact k_aA
    · exact (kost_ok.symm _ _).trans k_aA
    · exact absurd rfl hne
  · rw [h1, h2]
    refine ⟨fun x y hx hy hne => ?_, by decide⟩
    rcases hx with rfl | rfl <;> rcases hy with rfl | rfl
    · exact absurd rfl hne
    · exact k_ab
    · exact (kost_ok.symm _ _).trans k_ab
    · exact absurd rfl hne
theorem name_wd (ns : List Int) : Wd 97 (sgnQ ns) (nameF ns) := fun y hy => by
  obtain ⟨x, _, rfl⟩ := List.mem_map.mp (List.mem_of_mem_take hy)
  unfold nameX
  split
  · exact .inl rfl
  · exact .inr rfl
theorem name_len (ns : List Int) : (nameF ns).length ≤ 2 := by unfold nameF; rw [List.length_take]; omega
theorem nums_len (ns : List Int) : (nums2 ns).length ≤ 8 := by
  unfold nums2
  split
  · simp
  · rw [List.length_take]; lia
/-! ### what the parts are -/
theorem tk_allX {p q : Nat} (h : PQ p q) (ns : List Int) : ∀ t ∈ patT p q ns, t.ok := (patT_ok0 h ns ([], 3) fun t ht => nomatch ht).1
theorem pat_len {p q : Nat} (h : PQ p q) (ns : List Int) : (patT p q ns).length ≤ ns.length := by
  have := (patT_ok0 h ns ([], 3) fun _ ht => nomatch ht).2
  rw [List.length_nil, Nat.zero_add] at this
  exact this
/-- each part is one of the pattern's -/
def partsX (p q : Nat) : List (List Nat) := [[46], [p], [q], [91, p, q, 93], [91, 94, p, 93], [91, 94, q, 93]]
def okS (p q : Nat) (t : Tk) : Prop := t ≠ .star → t.txt ∈ partsX p q
def isSt : Tk → Bool
  | .star => true
  | _ => false
def okSB (p q : Nat) (t : Tk) : Bool := isSt t || (partsX p q).contains t.txt
theorem okSB_of {p q : Nat} {t : Tk} (h : okSB p q t = true) : okS p q t := fun hne => by
  unfold okSB at h
  rw [Bool.or_eq_true] at h
  rcases h with h | h
  · cases t with
    | star => exact absurd rfl hne
    | _ => cases h
  · exact List.contains_iff_mem.mp h
theorem itemT_S {p q : Nat} (h : PQ p q) (x : Int) : ∀ t ∈ itemT p q x, okS p q t := by
  obtain ⟨rfl, rfl | rfl⟩ := h
  · exact fun t ht => okSB_of (List.all_eq_true.mp (itemT_all (f := fun l => l.all (okSB 97 98)) rfl x) t ht)
  · exact fun t ht => okSB_of (List.all_eq_true.mp (itemT_all (f := fun l => l.all (okSB 97 65)) rfl x) t ht)
theorem patT_S {p q : Nat} (h : PQ p q) : ∀ (ns : List Int) (s : List Tk × Nat), (∀ t ∈ s.1, okS p q t) → ∀ t ∈ (ns.foldl (stepP p q) s).1, okS p q t
  | [], _, hs => hs
  | x :: ns, s, hs => by
    rw [List.foldl_cons]
    refine patT_S h ns _ fun t ht => ?_
    unfold stepP at ht
    split at ht
    · rcases List.mem_append.mp ht with w | w
      · exact hs t w
      · intro hne; exact absurd (List.mem_singleton.mp w) hne
    · split at ht
      · exact (List.mem_append.mp ht).elim (hs t) (itemT_S h x t)
      · exact hs t ht
theorem segT_S {p q : Nat} : ∀ (ts : List Tk) (s : Segs × List (List Nat)), (∀ t ∈ ts, okS p q t) → (∀ g ∈ segs s, ∀ x ∈ g, x ∈ partsX p q) → ∀ g ∈ segs (ts.foldl addS s), ∀ x ∈ g, x ∈ partsX p q
  | [], _, _, h => h
  | t :: ts, (i, l), ht, h => by
    rw [List.foldl_cons]
    refine segT_S ts _ (fun t' q => ht t' (List.mem_cons_of_mem _ q)) ?_
    have key : t ≠ .star → ∀ g ∈ segs (i, l ++ [t.txt]), ∀ x ∈ g, x ∈ partsX p q := fun hne g hg x hx => by
      rcases List.mem_append.mp hg with w | w
      · exact h g (List.mem_append_left _ w) x hx
      · rw [List.mem_singleton.mp w] at hx
        rcases List.mem_append.mp hx with w | w
        · exact h l (List.mem_append_right _ (List.mem_singleton.mpr rfl)) x w
        · rw [List.mem_singleton.mp w]
          exact ht t List.mem_cons_self hne
    cases t with
    | star =>
      unfold addS
      dsimp only
      split
      · exact h
      · intro g hg x hx
        rcases List.mem_append.mp hg with w | w
        · exact h g w x hx
        · rw [List.mem_singleton.mp w] at hx; cases hx
    | one c => exact key (fun e => nomatch e)
    | quest => exact key (fun e => nomatch e)
    | br s => exact key (fun e => nomatch e)
theorem partsX_all {p q : Nat} (h : PQ p q) : ∀ x ∈ partsX p q, x ∈ allX ∧ ∃ s, (s = p ∨ s = q) ∧ fitX x s = true := by
  obtain ⟨rfl, rfl | rfl⟩ := h
  · have : ∀ x ∈ partsX 97 98, x ∈ allX ∧ (fitX x 97 = true ∨ fitX x 98 = true) := by decide
    intro x hx
    obtain ⟨h1, h2 | h2⟩ := this x hx
    · exact ⟨h1, 97, .inl rfl, h2⟩
    · exact ⟨h1, 98, .inr rfl, h2⟩
  · have : ∀ x ∈ partsX 97 65, x ∈ allX ∧ (fitX x 97 = true ∨ fitX x 65 = true) := by decide
    intro x hx
    obtain ⟨h1, h2 | h2⟩ := this x hx
    · exact ⟨h1, 97, .inl rfl, h2⟩
    · exact ⟨h1, 65, .inr rfl, h2⟩
theorem Qs_mem {sg : Segs} {x : List Nat} (h : some x ∈ Qs sg) : ∃ g ∈ sg, x ∈ g := by
  cases sg with
  | nil => cases h
  | cons g rem =>
    rcases List.mem_append.mp h with w | w
    · obtain ⟨y, hy, e⟩ := List.mem_map.mp w
      cases e
      exact ⟨g, List.mem_cons_self, hy⟩
    · obtain ⟨g', hg, w⟩ := List.mem_flatMap.mp w
      rcases List.mem_cons.mp w with e | w
      · cases e
      · obtain ⟨y, hy, e⟩ := List.mem_map.mp w
        cases e
        exact ⟨g', List.mem_cons_of_mem _ hg, hy⟩
theorem tok_eq : ∀ R : List Pt, tok R = (R.filter (·.isSome)).length
  | [] => rfl
  | none :: R => tok_eq R
  | some x :: R => congrArg (· + 1) (tok_eq R)
theorem tok_Qs (sg : Segs) : tok (Qs sg).reverse = sg.flatten.length := by
  rw [tok_eq, List.filter_reverse, List.length_reverse]
  cases sg with
  | nil => rfl
  | cons g rem =>
    have e1 : ∀ g : List (List Nat), ((g.map some).filter (fun o : Pt => o.isSome)).length = g.length := fun g => by
      rw [List.filter_eq_self.mpr, List.length_map]
      intro o ho
      obtain ⟨y, _, rfl⟩ := List.mem_map.mp ho
      rfl
    show ((g.map some ++ rem.flatMap fun g => none :: g.map some).filter _).length = _
    rw [List.filter_append, List.length_append, e1, List.flatten_cons, List.length_append]
    congr 1
    induction rem with
    | nil => rfl
    | cons g' rem ih =>
      rw [List.flatMap_cons, List.filter_append, List.length_append, ih, List.flatten_cons, List.length_append]
      congr 1
      exact e1 g'
theorem hasN_mem : ∀ R : List Pt, hasN R = true → none ∈ R
  | none :: _, _ => List.mem_cons_self
  | some _ :: R, h => List.mem_cons_of_mem _ (hasN_mem R h)
theorem no_star : ∀ (ts : List Tk) (l : List (List Nat)), Tk.star ∉ ts → (ts.foldl addS ([], l)).1 = []
  | [], _, _ => rfl
  | t :: ts, l, h => by
    have hr : Tk.star ∉ ts := fun q => h (List.mem_cons_of_mem _ q)
    rw [List.foldl_cons]
    cases t with
    | star => exact absurd List.mem_cons_self h
    | one c => exact no_star ts _ hr
    | quest => exact no_star ts _ hr
    | br s => exact no_star ts _ hr
theorem has_star (ts : List Tk) (h : hasN (Qs (segT ts)).reverse = true) : (srcs ts).contains 42 = true := by
  rw [List.contains_iff_mem]
  have hm : Tk.star ∈ ts := Classical.byContradiction fun hn => by
    have e := no_star ts [] hn
    have hq := hasN_mem _ h
    rw [List.mem_reverse] at hq
    unfold segT segs at hq
    rw [e] at hq
    unfold Qs at hq
    simp at hq
  unfold srcs
  exact List.mem_flatMap.mpr ⟨_, hm, List.mem_singleton.mpr rfl⟩
end Mine
end SQ10

/-! Q11 -/
noncomputable section SQ11
namespace Mine
theorem cut_lastK (a b : List Nat) (h0 : 0 < b.length) : cutS (T (a ++ b)) (some (-((b.length : Nat) : Int))) none = T b := by
  unfold cutS cutL
  have h2 := clip_neg (a ++ b).length b.length h0
  have e2 : clipAt (T (a ++ b)).cps.toList.length (-((b.length : Nat) : Int)) = a.length := by
    show clipAt (a ++ b).length (-((b.length : Nat) : Int)) = _
    rw [h2, List.length_append]; lia
  simp only [Option.elim, e2]
  show (⟨(((a ++ b).drop a.length).take ((a ++ b).length - a.length)).toArray⟩ : Str) = _
  rw [List.drop_left, List.length_append, show a.length + b.length - a.length = b.length by lia, List.take_length]
  rfl
section
variable {P : Params} {c : Cx} (h : CF (KK P) c) (H : LH c)
def PkLaw := Tlaw h (ActL.le (pat_ok h) (Nat.le_add_left 1 7)) (ActL.le (tra_ok h H) (Nat.le_add_left 2 6)) (ActL.le (trl_ok h H) (Nat.le_add_left 3 5)) (ActL.le (pcs_ok h) (Nat.le_add_left 1 7)) (ActL.le (wrd_ok h) (Nat.le_add_left 1 7)) (ActL.le (tks_ok h) (Nat.le_add_left 3 5)) (ActL.le (lev_ok h) (Nat.le_add_left 2 6))
def tsOf (ns : List Int) : List Tk := patT 97 (sgnQ ns) (nums2 ns)
def QOf (ns : List Int) : List Pt := Qs (segT (tsOf ns))
def firstD (ns : List Int) : List Int := rowR (nameF ns) (turnF' ns) []
/-- what the law compares -/
def rowsD (ns : List Int) : List Int := rowR (nameF ns) (turnF' ns) (QOf ns).reverse
theorem law_pre (ns : List Int) (hlen : ns.length ≤ 1000) (r0 : Rho) (g1 : r0.get "script" = some (.sh (.list (ns.map .int)))) :
    ∃ r', (PkLaw h H).1 r0 = some r' ∧ (PkLaw h H).2.1 r' = some (.list ((rowsD ns).map .int)) ∧ r'.get "parts" = some (.sh (.list ((QOf ns).map encO))) ∧ r'.get "first" = some (.sh (.list ((firstD ns).map .int))) ∧
      r'.get "name" = some (.sh (encW (nameF ns))) ∧ r'.get "turn" = some (.sh (.int (turnF' ns))) := by
  have hlim := lim_eq
  have hnum := nums_len ns
  have hpq := sgnQ_pq ns
  unfold PkLaw Tlaw packQ
  dsimp only
  have l1 : ∀ a : D, ([a] : List D).length ≤ lim := fun a => by simp only [List.length_cons, List.length_nil]; lia
  have l0 : ([] : List D).length ≤ lim := by simp
  have cutI : ∀ (l : List Int) (k : Nat), l.length ≤ lim → oCut (.list (l.map .int)) none (some (k : Int)) = some (.list ((l.take k).map .int)) := fun l k hl => by
    unfold oCut
    dsimp only
    rw [if_pos (by rw [List.length_map]; exact hl)]
    unfold cutL
    simp only [Option.elim, List.drop_zero, Nat.sub_zero]
    rw [clip_pos, List.map_take]
    by_cases h3 : k ≤ (l.map D.int).length
    · rw [Nat.min_eq_left h3]
    · rw [Nat.min_eq_right (by lia), List.take_of_length_le (Nat.le_refl _), List.take_of_length_le (by lia)]
  refine pre_put "numbers" (.sh (.list ((nums2 ns).map .int))) ?_ fun r1 I1 => ?_
  · have e := (cmp_nil (good_ints ns)).2
    unfold nums2
    by_cases hn : ns = []
    · subst hn
      simp only [List.map_nil, List.isEmpty_nil, Bool.not_true] at e
      simp only [g1, List.map_nil, Option.bind_some, if_pos l0, e, asB, Bool.false_eq_true, if_false, if_pos (l1 _), if_true, List.map_cons]
    · have hE : (ns.map D.int).isEmpty = false := by rw [List.isEmpty_eq_false_iff]; simpa using hn
      rw [hE] at e
      have ec := cutI ns 8 (by lia)
      rw [show ((8 : Nat) : Int) = 8 from rfl] at ec
      simp only [g1, Option.bind_some, if_pos l0, e, Bool.not_false, asB, if_true, asPart, ec, if_neg hn]
  have a1 : r1.get "numbers" = some (.sh (.list ((nums2 ns).map .int))) := by rw [I1, if_pos rfl]
  clear I1 g1
  have hsum : oSum2 [.list ((nums2 ns).map .int)] = some (.int (nums2 ns).sum) := by unfold oSum2; dsimp only; rw [ints_of]; rfl
  refine pre_put "turn" (.sh (.int (turnF' ns))) (by simp only [a1, Option.bind_some, hsum, oModS _ 2 (by decide), oAdd_int]; rfl) fun r2 I2 => ?_
  have b1 := get_sh I2 a1 (by decide)
  have b2 : r2.get "turn" = some (.sh (.int (turnF' ns))) := by rw [I2, if_pos rfl]
  clear I2 a1
  have sab : ("ab" : Str) = T [97, 98] := by decide
  have saA : ("aA" : Str) = T [97, 65] := by decide
  refine pre_put "pair" (.sh (.str (T [97, sgnQ ns]))) (by
    simp only [b2, Option.bind_some, oEq_int, asB, sab, saA]
    unfold sgnQ
    by_cases ht : turnF' ns = 2
    · rw [if_pos (beq_iff_eq.mpr ht), if_pos ht]; rfl
    · rw [if_neg (fun w => ht (beq_iff_eq.mp w)), if_neg ht]; rfl) fun r3 I3 => ?_
  have c1 := get_sh I3 b1 (by decide)
  have c2 := get_sh I3 b2 (by decide)
  have c3 : r3.get "pair" = some (.sh (.str (T [97, sgnQ ns]))) := by rw [I3, if_pos rfl]
  clear I3 b1 b2
  have hnl := name_len ns
  refine pre_put "name" (.sh (.str (T (nameF ns)))) ?_ fun r4 I4 => ?_
  · rw [compO_map (enc := D.int) (fun x => decide ((x.fdiv 8).fmod 3 < 2)) (fun x => encW [nameX (sgnQ ns) x]) [("pair", .sh (.str (T [97, sgnQ ns])))] (nums2 ns) (by simp only [c1, Option.bind_some, asItems]) (by unfold capO; rw [c3]; rfl) (by rfl) (by rfl) (fun x hx => by
      have d8 := oDivS x 8 (by decide)
      have m3 := oModS (x.fdiv 8) 3 (by decide)
      simp only [get_here, Option.bind_some, d8, m3, oLt_int, asB]) (fun x hx hp => by
      have d8 := oDivS x 8 (by decide)
      have m3 := oModS (x.fdiv 8) 3 (by decide)
      have hp := of_decide_eq_true hp
      obtain ⟨k, hk, hl⟩ := fmod_nat (x.fdiv 8) 3 (by decide)
      have hk' : (x.fdiv 8).fmod 3 = (k : Int) := hk
      have i0 : oIdx (.str (T [97, sgnQ ns])) (.int 0) = some (encW [97]) := idx_pos [97, sgnQ ns] 0 97 rfl (by rw [hlim]; simp)
      have i1 : oIdx (.str (T [97, sgnQ ns])) (.int 1) = some (encW [sgnQ ns]) := idx_pos [97, sgnQ ns] 1 (sgnQ ns) rfl (by rw [hlim]; simp)
      have g0 : Rho.get [("x", Ent.sh (.int x)), ("pair", .sh (.str (T [97, sgnQ ns])))] "pair" = some (.sh (.str (T [97, sgnQ ns]))) := rfl
      simp only [get_here, g0, Option.bind_some, d8, m3]
      rw [hk'] at hp ⊢
      unfold nameX
      rw [hk']
      match k, hl with
      | 0, _ => exact i0
      | 1, _ => exact i1
      | 2, _ => exact absurd hp (by decide)) (by lia)]
    generalize hW : ((nums2 ns).filter fun x => decide ((x.fdiv 8).fmod 3 < 2)).map (nameX (sgnQ ns)) = W
    have hWl : W.length ≤ 8 := by rw [← hW, List.length_map]; exact Nat.le_trans (List.length_filter_le _ _) hnum
    have e : ((nums2 ns).filter fun x => decide ((x.fdiv 8).fmod 3 < 2)).map (fun x => encW [nameX (sgnQ ns) x]) = (W.map fun c => [c]).map encW := by
      rw [← hW, List.map_map, List.map_map]
      rfl
    have ef : (W.map fun c => [c]).flatten = W := by
      clear hW hWl e
      induction W with
      | nil => rfl
      | cons x l ih => rw [List.map_cons, List.flatten_cons, ih]; rfl
    have hj := oJoin_W (W.map fun c => [c]) (by rw [ef]; lia)
    rw [ef, ← emp_eq] at hj
    have hc := cut_fst W 2 (by lia)
    rw [show ((2 : Nat) : Int) = 2 from rfl] at hc
    have en : nameF ns = W.take 2 := by unfold nameF; rw [hW]
    rw [e, en]
    simp only [Option.map_some, Option.bind_some, hj, strOnly, asPart, hc]
  have d1 := get_sh I4 c1 (by decide)
  have d2 := get_sh I4 c2 (by decide)
  have d3 := get_sh I4 c3 (by decide)
  have d4 : r4.get "name" = some (.sh (.str (T (nameF ns)))) := by rw [I4, if_pos rfl]
  clear I4 c1 c2 c3
  have hts := tk_allX hpq (nums2 ns)
  have htl := pat_len hpq (nums2 ns)
  have hsl := srcs_le (patT 97 (sgnQ ns) (nums2 ns)) hts
  have hSX := segT_S (p := 97) (q := sgnQ ns) (patT 97 (sgnQ ns) (nums2 ns)) ([], []) (patT_S hpq (nums2 ns) ([], 3) fun t ht => nomatch ht) (fun g hg x hx => by rw [List.mem_singleton.mp hg] at hx; cases hx)
  have hSO := segT_ok (patT 97 (sgnQ ns) (nums2 ns)) hts
  have e99 := E99_of h hpq (nums2 ns) (by lia)
  have e76 := E76_of h H _ hts (by lia) .none (.inl rfl)
  have e57 := E57_of h H _ hts (by lia) (by lia)
  obtain ⟨g0, rem, hseg⟩ := segT_cons (patT 97 (sgnQ ns) (nums2 ns))
  have hrem := segT_rem _ hts hseg
  have hstar := has_star (patT 97 (sgnQ ns) (nums2 ns))
  have hQ : QOf ns = Qs (g0 :: rem) := by unfold QOf tsOf; rw [hseg]
  have hseg' : segs ((patT 97 (sgnQ ns) (nums2 ns)).foldl addS ([], [])) = g0 :: rem := hseg
  have hsz2 := hSO.ln
  rw [hseg'] at hSX hsz2
  have hx4 := hSO.tx
  rw [hseg'] at hx4
  rw [hseg] at e76 e57 hstar
  rw [Qs_enc] at e76
  have hfin : ∀ (w : List Nat), Wd 97 (sgnQ ns) w → (takesF g0 rem w = true ↔ LgR (Qs (g0 :: rem)).reverse w) := fun w _ => takes_iff g0 rem hrem w
  have hR : ∀ x, some x ∈ (Qs (g0 :: rem)).reverse → ∃ s, (s = 97 ∨ s = sgnQ ns) ∧ fitX x s = true := fun x hx => by
    obtain ⟨g, hg, hxg⟩ := Qs_mem (List.mem_reverse.mp hx)
    exact (partsX_all hpq x (hSX g hg x hxg)).2
  have hbest := row_best (two_ok ns) (name_wd ns) _ hR
  have hlow := row_low (two_ok ns) (name_wd ns) (Qs (g0 :: rem)).reverse
  have hrow : rowsD ns = rowR (nameF ns) (turnF' ns) (Qs (g0 :: rem)).reverse := by unfold rowsD; rw [hQ]
  have htok := tok_Qs (g0 :: rem)
  generalize hts' : patT 97 (sgnQ ns) (nums2 ns) = ts at *
  have hfl : (g0 :: rem).flatten.length + (rem.length + 1) ≤ 9 := by rw [List.length_cons] at hsz2; lia
  refine pre_put "pattern" (.sh (.str (T (srcs ts)))) (by simp only [d1, d3, Option.bind_some]; unfold encW at e99; simp only [e99, Option.bind_some]) fun r5 I5 => ?_
  have f2 := get_sh I5 d2 (by decide)
  have f3 := get_sh I5 d3 (by decide)
  have f4 := get_sh I5 d4 (by decide)
  have f5 : r5.get "pattern" = some (.sh (.str (T (srcs ts)))) := by rw [I5, if_pos rfl]
  clear I5 d1 d2 d3 d4 e99
  unfold encW at e76 e57
  refine pre_put "parts" (.sh (.list ((QOf ns).map encO))) (by rw [hQ]; simp only [f5, Option.bind_some, e76]) fun r6 I6 => ?_
  have k2 := get_sh I6 f2 (by decide)
  have k3 := get_sh I6 f3 (by decide)
  have k4 := get_sh I6 f4 (by decide)
  have k5 := get_sh I6 f5 (by decide)
  have k6 : r6.get "parts" = some (.sh (.list ((QOf ns).map encO))) := by rw [I6, if_pos rfl]
  clear I6 f2 f3 f4 f5 e76
  refine pre_put "text" (.sh (.str (T (txtOf (g0 :: rem))))) (by simp only [k5, Option.bind_some, e57]) fun r7 I7 => ?_
  have m2 := get_sh I7 k2 (by decide)
  have m3 := get_sh I7 k3 (by decide)
  have m4 := get_sh I7 k4 (by decide)
  have m5 := get_sh I7 k5 (by decide)
  have m6 := get_sh I7 k6 (by decide)
  have m7 : r7.get "text" = some (.sh (.str (T (txtOf (g0 :: rem))))) := by rw [I7, if_pos rfl]
  clear I7 k2 k3 k4 k5 k6 e57
  have hxa : ∀ g ∈ g0 :: rem, ∀ x ∈ g, x ∈ allX := fun g hg x hx => (partsX_all hpq x (hSX g hg x hx)).1
  have hgl : ∀ g ∈ g0 :: rem, g.length ≤ 50 := fun g hg => by
    obtain ⟨a, b, e⟩ := List.append_of_mem hg
    have : (g0 :: rem).flatten.length = a.flatten.length + (g.length + b.flatten.length) := by rw [e, List.flatten_append, List.flatten_cons, List.length_append, List.length_append]
    lia
  have hbody : (g0.flatten ++ outR rem).length ≤ 200 := by
    have e1 := flat_len g0 (hx4 g0 List.mem_cons_self)
    have e2 := outR_len rem fun g hg => hx4 g (List.mem_cons_of_mem _ hg)
    rw [List.flatten_cons, List.length_append] at hfl
    rw [List.length_append]
    lia
  have e118 := E118_of h g0 rem hxa (by lia)
  unfold encW at e118
  refine pre_put "pieces" (.sh (.list ((g0 :: rem).map encG))) (by simp only [m7, Option.bind_some, e118]) fun r8 I8 => ?_
  have n2 := get_sh I8 m2 (by decide)
  have n3 := get_sh I8 m3 (by decide)
  have n4 := get_sh I8 m4 (by decide)
  have n5 := get_sh I8 m5 (by decide)
  have n6 := get_sh I8 m6 (by decide)
  have n7 := get_sh I8 m7 (by decide)
  have n8 : r8.get "pieces" = some (.sh (.list ((g0 :: rem).map encG))) := by rw [I8, if_pos rfl]
  clear I8 m2 m3 m4 m5 m6 m7 e118
  have isnt : ∀ o : Pt, oIsNot (encO o) .none = some (.bool o.isSome) := fun o => by cases o <;> rfl
  have htokQ : ((QOf ns).filter (fun o : Pt => o.isSome)).length = tok (Qs (g0 :: rem)).reverse := by rw [hQ, tok_eq, List.filter_reverse, List.length_reverse]
  have hQl : (QOf ns).length ≤ 20 := by
    have e1 := congrArg List.length (Qs_enc (g0 :: rem))
    rw [List.length_map] at e1
    have e2 : (encS .none (g0 :: rem)).length = g0.length + (rem.flatten.length + rem.length) := by
      show (g0.map encW ++ encR .none rem).length = _
      rw [List.length_append, List.length_map, encR_len]
    rw [List.flatten_cons, List.length_append] at hfl
    rw [hQ]
    lia
  have hin := in_one 42 (srcs ts)
  obtain ⟨sz, hsz⟩ : ∃ sz, sz = tok (Qs (g0 :: rem)).reverse + (if (srcs ts).contains 42 then (nameF ns).length else 0) := ⟨_, rfl⟩
  have hszl : sz ≤ 12 := by
    rw [htok] at hsz
    have : (if (srcs ts).contains 42 = true then (nameF ns).length else 0) ≤ 2 := by split <;> lia
    lia
  have lenN := len_T (nameF ns) (by lia)
  refine pre_put "size" (.sh (.int (sz : Int))) ?_ fun r9 I9 => ?_
  · rw [compO_map (enc := encO) (fun o : Pt => o.isSome) encO [] (QOf ns) (by simp only [n6, Option.bind_some, asItems]) (by rfl) (by rfl) (by rfl) (fun o ho => by simp only [get_here, Option.bind_some, isnt, asB]) (fun o ho _ => by simp only [get_here]) (by lia)]
    have e1 := len_L (((QOf ns).filter fun o : Pt => o.isSome).map encO) (by rw [List.length_map]; have := List.length_filter_le (fun o : Pt => o.isSome) (QOf ns); lia)
    rw [List.length_map, htokQ] at e1
    simp only [Option.map_some, Option.bind_some, e1, n5, star, hin, asB]
    rw [hsz]
    by_cases hc : (srcs ts).contains 42 = true
    · rw [hc]
      simp only [if_true, n4, Option.bind_some, lenN, oAdd_int]
      rfl
    · rw [Bool.eq_false_iff.mpr hc]
      simp only [Bool.false_eq_true, if_false, Option.bind_some, oAdd_int]
      rfl
  have o2 := get_sh I9 n2 (by decide)
  have o3 := get_sh I9 n3 (by decide)
  have o4 := get_sh I9 n4 (by decide)
  have o6 := get_sh I9 n6 (by decide)
  have o7 := get_sh I9 n7 (by decide)
  have o8 := get_sh I9 n8 (by decide)
  have o9 : r9.get "size" = some (.sh (.int (sz : Int))) := by rw [I9, if_pos rfl]
  clear I9 n2 n3 n4 n5 n6 n7 n8
  have hwl := words_len 97 (sgnQ ns) sz
  have hw2 : 2 ^ (sz + 1) ≤ 2 ^ 13 := Nat.pow_le_pow_right (by decide) (by lia)
  have e104 := E104_of h 97 (sgnQ ns) sz hszl
  unfold encW at e104
  obtain ⟨tk, htk⟩ : ∃ tk, tk = (wordsF 97 (sgnQ ns) sz).filter (takesF g0 rem) := ⟨_, rfl⟩
  refine pre_put "taken" (.sh (.list (tk.map encW))) ?_ fun r10 I10 => ?_
  · rw [compO_map (enc := encW) (takesF g0 rem) encW [("pieces", .sh (.list ((g0 :: rem).map encG)))] (wordsF 97 (sgnQ ns) sz) (by simp only [o3, o9, Option.bind_some, e104, asItems]; rfl) (by unfold capO; rw [o8]; rfl) (by rfl) (by rfl) (fun w hw => by
      have hwm := ((words_mem 97 (sgnQ ns) sz w).mp hw).1
      have e130 := E130_of h g0 rem (fun g hg => ⟨hgl g hg, hxa g hg⟩) (by lia) w (by lia)
      have gp : Rho.get [("word", Ent.sh (encW w)), ("pieces", .sh (.list ((g0 :: rem).map encG)))] "pieces" = some (.sh (.list ((g0 :: rem).map encG))) := rfl
      simp only [get_here, gp, Option.bind_some, e130, oTruth]) (fun w hw _ => by simp only [get_here]) (by lia), ← htk]
    rfl
  have p2 := get_sh I10 o2 (by decide)
  have p4 := get_sh I10 o4 (by decide)
  have p6 := get_sh I10 o6 (by decide)
  have p7 := get_sh I10 o7 (by decide)
  have p10 : r10.get "taken" = some (.sh (.list (tk.map encW))) := by rw [I10, if_pos rfl]
  clear I10 o2 o3 o4 o6 o7 o8 o9
  have htkw : ∀ w ∈ tk, w.length ≤ 12 ∧ Wd 97 (sgnQ ns) w ∧ LgR (Qs (g0 :: rem)).reverse w := fun w hw => by
    rw [htk] at hw
    obtain ⟨q1, q2⟩ := List.mem_filter.mp hw
    obtain ⟨q3, q4⟩ := (words_mem 97 (sgnQ ns) sz w).mp q1
    exact ⟨by lia, q4, (hfin w q4).mp q2⟩
  have htkl : tk.length ≤ 2 ^ 13 := by rw [htk]; have := List.length_filter_le (takesF g0 rem) (wordsF 97 (sgnQ ns) sz); lia
  have htkb : ∀ j, j ≤ (nameF ns).length → ∃ w ∈ tk, dist ((nameF ns).take j) w ≤ (rowsD ns).getD j 0 := fun j hj => by
    obtain ⟨w, w1, w2, w3, w4⟩ := hbest j hj
    refine ⟨w, ?_, by rw [hrow]; exact w4⟩
    rw [htk]
    refine List.mem_filter.mpr ⟨(words_mem 97 (sgnQ ns) sz w).mpr ⟨?_, w1⟩, (hfin w w1).mpr w2⟩
    rw [hsz]
    refine Nat.le_trans w3 (Nat.add_le_add_left ?_ _)
    by_cases hN : hasN (Qs (g0 :: rem)).reverse = true
    · rw [if_pos hN, if_pos (hstar hN)]
      exact hj
    · rw [if_neg hN]
      exact Nat.zero_le _
  have htkne : tk ≠ [] := by
    obtain ⟨w, hw, _⟩ := htkb 0 (Nat.zero_le _)
    intro e
    rw [e] at hw
    cases hw
  have lx : (txtOf (g0 :: rem)).length ≤ lim := by
    show (pre4 ++ (g0.flatten ++ outR rem) ++ suf3).length ≤ lim
    have h4 : pre4.length = 4 := rfl
    have h3 : suf3.length = 3 := rfl
    rw [List.length_append, List.length_append]
    lia
  have x4 := cut_fst (txtOf (g0 :: rem)) 4 lx
  rw [show ((4 : Nat) : Int) = 4 from rfl] at x4
  have x4' : (txtOf (g0 :: rem)).take 4 = pre4 := by
    show (pre4 ++ (g0.flatten ++ outR rem) ++ suf3).take 4 = pre4
    rw [List.append_assoc]
    exact List.take_left (l₁ := pre4)
  have x3 : oCut (.str (T (txtOf (g0 :: rem)))) (some (-3)) none = some (.str (T suf3)) := by
    rw [cut_ok _ _ _ lx]
    have := cut_lastK (pre4 ++ (g0.flatten ++ outR rem)) suf3 (by decide)
    rw [show (-((suf3.length : Nat) : Int)) = -3 from rfl] at this
    exact congrArg (fun u => some (D.str u)) this
  have ne_s : ∀ a : List Nat, oNe (.str (T a)) (.str (T a)) = some (.bool false) := fun a => by
    rw [oNe_str, bne_self_eq_false]
  have hgood : ∀ d ∈ tk.map encW, Good 0 d := fun d hd => by
    obtain ⟨w, hw, rfl⟩ := List.mem_map.mp hd
    refine good_W fun y hy => ?_
    have := (htkw w hw).2.1 y hy
    rcases hpq with ⟨_, q | q⟩ <;> lia
  have etk := (cmp_nil hgood).1
  have etk' : (tk.map encW).isEmpty = false := by rw [List.isEmpty_eq_false_iff]; simpa using htkne
  rw [etk'] at etk
  refine pre_skip (by simp only [p7, p10, Option.bind_some, asPart, x4, x4', pre4_eq, ne_s, asB, Bool.false_eq_true, if_false, neg3, x3, suf3_eq, if_pos l0, etk]) ?_
  have er := range_small ((nameF ns).length + 1) (by lia)
  rw [show (((nameF ns).length + 1 : Nat) : Int) = ((nameF ns).length : Int) + 1 by lia] at er
  obtain ⟨rowV, hrowV⟩ : ∃ rowV : Nat → List Int, rowV = fun j => tk.map fun w => dist ((nameF ns).take j) w := ⟨_, rfl⟩
  refine pre_put "told" (.sh (.list ((List.range ((nameF ns).length + 1)).map fun j => .list ((rowV j).map .int)))) ?_ fun r11 I11 => ?_
  · rw [compO_all (enc := fun (j : Nat) => D.int (0 + (j : Int))) (fun j => .list ((rowV j).map .int)) [("name", .sh (.str (T (nameF ns)))), ("taken", .sh (.list (tk.map encW)))] (List.range ((nameF ns).length + 1)) (by simp only [p4, Option.bind_some, lenN, oAdd_int, er]) (by unfold capO; rw [p4]; dsimp only; unfold capO; rw [p10]; rfl) (by rfl) (by rfl) (fun j hj => ?_) (by rw [List.length_range]; lia)]
    · rfl
    · have hj := List.mem_range.mp hj
      have gt : Rho.get [("j", Ent.sh (D.int (0 + (j : Int)))), ("name", .sh (.str (T (nameF ns)))), ("taken", .sh (.list (tk.map encW)))] "taken" = some (.sh (.list (tk.map encW))) := rfl
      have ct := cut_fst (nameF ns) j (by lia)
      rw [compO_all (enc := encW) (fun w => .int (dist ((nameF ns).take j) w)) [("j", .sh (D.int (0 + (j : Int)))), ("name", .sh (.str (T (nameF ns))))] tk (by simp only [gt, Option.bind_some, asItems]) (by rfl) (by rfl) (by rfl) (fun w hw => ?_) (by lia)]
      · rw [hrowV, List.map_map]
        rfl
      · have hw12 := (htkw w hw).1
        have lenW := len_T w (by lia)
        have gj : Rho.get [("word", Ent.sh (encW w)), ("j", .sh (D.int (0 + (j : Int)))), ("name", .sh (.str (T (nameF ns))))] "j" = some (.sh (.int (j : Int))) := by
          show some (Ent.sh (D.int (0 + (j : Int)))) = _
          rw [Int.zero_add]
        have gn : Rho.get [("word", Ent.sh (encW w)), ("j", .sh (D.int (0 + (j : Int)))), ("name", .sh (.str (T (nameF ns))))] "name" = some (.sh (.str (T (nameF ns)))) := rfl
        have gw : Rho.get [("word", Ent.sh (encW w)), ("j", .sh (D.int (0 + (j : Int)))), ("name", .sh (.str (T (nameF ns))))] "word" = some (.sh (.str (T w))) := rfl
        have hd := dist_hi ((nameF ns).take j) w
        rw [List.length_take, Nat.min_eq_left (by lia)] at hd
        have hF : F45 [.str (T ((nameF ns).take j)), .str (T w), .int (2 * ((j : Int) + (w.length : Int)))] = some (.int (dist ((nameF ns).take j) w)) := by
          rw [F45_T _ _ _ (by rw [List.length_take]; lia) (by lia), lev_far _ _ _ (by rw [List.length_take]; lia) (by lia) hd]
        simp only [gj, gn, gw, Option.bind_some, asPart, ct, lenW, oAdd_int, mul_small 2 _ (by decide), hF]
  have q2 := get_sh I11 p2 (by decide)
  have q4 := get_sh I11 p4 (by decide)
  have q6 := get_sh I11 p6 (by decide)
  have q11 : r11.get "told" = some (.sh (.list ((List.range ((nameF ns).length + 1)).map fun j => .list ((rowV j).map .int)))) := by rw [I11, if_pos rfl]
  clear I11 p2 p4 p6 p7 p10
  have ty_i : ∀ i : Int, oType [.int i] = some (.ty "int") := fun _ => rfl
  have isy : oIs (.ty "int") (.ty "int") = some (.bool true) := rfl
  have hrl : ∀ j, (rowV j).length = tk.length := fun j => by rw [hrowV, List.length_map]
  refine pre_skip ?_ ?_
  · rw [compO_for (enc1 := fun j => D.list ((rowV j).map .int)) (enc2 := D.int) (fun _ _ => D.bool true) [] (List.range ((nameF ns).length + 1)) rowV (by simp only [q11, Option.bind_some, asItems]) (by rfl) (by rfl) (by rfl) (by rfl) (by decide) (fun j hj => by simp only [get_here, Option.bind_some, asItems]) (fun j hj v hv => by simp only [get_here, Option.bind_some, ty_i, isy]) ?_]
    · have e1 : ((List.range ((nameF ns).length + 1)).flatMap fun j => (rowV j).map fun _ => D.bool true) = ((List.range ((nameF ns).length + 1)).flatMap rowV).map fun _ => D.bool true := by rw [List.map_flatMap]
      have hb := bools_map (fun _ : Int => true) ((List.range ((nameF ns).length + 1)).flatMap rowV)
      rw [e1]
      have hany : ((((List.range ((nameF ns).length + 1)).flatMap rowV).map fun _ => true).any (· == false)) = false := by
        rw [List.any_eq_false]
        intro b hb'
        obtain ⟨_, _, rfl⟩ := List.mem_map.mp hb'
        decide
      simp only [Option.map_some, Option.bind_some, oIn, hb, hany, asB, Bool.false_eq_true, if_false]
    · have : ∀ l : List Nat, (l.flatMap fun j => (rowV j).map fun _ => D.bool true).length = l.length * tk.length := by
        intro l
        induction l with
        | nil => simp
        | cons a l ih => rw [List.flatMap_cons, List.length_append, List.length_map, hrl, ih, List.length_cons, Nat.add_mul, Nat.one_mul, Nat.add_comm]
      rw [this, List.length_range]
      have : ((nameF ns).length + 1) * tk.length ≤ 3 * 2 ^ 13 := Nat.mul_le_mul (by lia) htkl
      lia
  refine pre_put "first" (.sh (.list ((firstD ns).map .int))) ?_ fun r12 I12 => ?_
  · rw [compO_all (enc := fun (j : Nat) => D.int (0 + (j : Int))) (fun j => .int (2 * (j : Int))) [] (List.range ((nameF ns).length + 1)) (by simp only [q4, Option.bind_some, lenN, oAdd_int, er]) (by rfl) (by rfl) (by rfl) (fun j hj => by simp only [get_here, Option.bind_some, mul_small 2 _ (by decide), Int.zero_add]) (by rw [List.length_range]; lia)]
    unfold firstD rowR
    rw [List.map_map]
    rfl
  refine ⟨r12, rfl, ?_, get_sh I12 q6 (by decide), by rw [I12, if_pos rfl], get_sh I12 q4 (by decide), get_sh I12 q2 (by decide)⟩
  have s11 := get_sh I12 q11 (by decide)
  clear I12 q2 q4 q6 q11
  have hmin : ∀ j ∈ List.range ((nameF ns).length + 1), oMin [.list ((rowV j).map .int)] = some (.int ((rowsD ns).getD j 0)) := fun j hj => by
    have hj := List.mem_range.mp hj
    unfold oMin
    dsimp only
    rw [ints_of, Option.bind_some, min_of (M := (rowsD ns).getD j 0)]
    · rfl
    · obtain ⟨w, hw, hle⟩ := htkb j (by lia)
      obtain ⟨_, z1, z2⟩ := htkw w hw
      have := hlow w z1 z2 j (by lia)
      rw [← hrow] at this
      have he : (rowsD ns).getD j 0 = dist ((nameF ns).take j) w := by lia
      rw [he, hrowV]
      exact List.mem_map.mpr ⟨w, hw, rfl⟩
    · intro v hv
      rw [hrowV] at hv
      obtain ⟨w, hw, rfl⟩ := List.mem_map.mp hv
      obtain ⟨_, z1, z2⟩ := htkw w hw
      rw [hrow]
      exact hlow w z1 z2 j (by lia)
  rw [compO_all (enc := fun j => D.list ((rowV j).map .int)) (fun j => .int ((rowsD ns).getD j 0)) [] (List.range ((nameF ns).length + 1)) (by simp only [s11, Option.bind_some, asItems]) (by rfl) (by rfl) (by rfl) (fun j hj => by simp only [get_here, Option.bind_some, hmin j hj]) (by rw [List.length_range]; lia)]
  have hlenR : (rowsD ns).length = (nameF ns).length + 1 := by rw [hrow]; exact row_len _ _ _
  have : (List.range ((nameF ns).length + 1)).map (fun j => D.int ((rowsD ns).getD j 0)) = (rowsD ns).map .int := by
    refine List.ext_getElem (by rw [List.length_map, List.length_map, List.length_range, hlenR]) fun i h1 h2 => ?_
    rw [List.length_map] at h2
    rw [List.getElem_map, List.getElem_map, List.getElem_range, List.getD_eq_getElem?_getD, List.getElem?_eq_getElem h2]
    rfl
  rw [this]
  rfl
end
end Mine
end SQ11

/-! Q12 -/
noncomputable section SQ12
namespace Mine
section
variable {P : Params} {c : Cx} (h : CF (KK P) c)
/-- the lambda, as plain data -/
def Flam (nm turn : D) : List D → Option D
  | [row, part] => E137 h [row, part, nm, turn]
  | _ => none
theorem redF_list {fa : Addr} {F : List D → Option D} {q l : List D} {d : D} (hf : foldD F (.list l) q = some d) : runF ["function", "sequence", "initial"] (redF fa F) [.adr fa, .list q, .list l] = some d := by
  refine runF_of rfl ⟨[], ?_⟩
  show redF fa F [("function", .sh (.adr fa)), ("sequence", .sh (.list q)), ("initial", .sh (.list l))] = _
  unfold redF
  have e1 : Rho.get [("function", Ent.sh (.adr fa)), ("sequence", .sh (.list q)), ("initial", .sh (.list l))] "function" = some (.sh (.adr fa)) := rfl
  have e2 : Rho.get [("function", Ent.sh (.adr fa)), ("sequence", .sh (.list q)), ("initial", .sh (.list l))] "sequence" = some (.sh (.list q)) := rfl
  have e3 : Rho.get [("function", Ent.sh (.adr fa)), ("sequence", .sh (.list q)), ("initial", .sh (.list l))] "initial" = some (.sh (.list l)) := rfl
  rw [e1, e2, e3]
  show (if fa = fa then (foldD F (.list l) q).map fun d => (([], .ret d) : Rho × Fl) else none) = _
  rw [if_pos rfl, hf]
  rfl
theorem fold_lam (nm : List Nat) (turn : Int) (hn : nm.length ≤ 50) : ∀ (Q R : List Pt), (∀ x, some x ∈ Q → x ∈ allX) → foldD (Flam h (encW nm) (.int turn)) (.list ((rowR nm turn R).map .int)) (Q.map encO) = some (.list ((rowR nm turn (Q.reverse ++ R)).map .int))
  | [], R, _ => rfl
  | o :: Q, R, hx => by
    rw [List.map_cons]
    unfold foldD
    have e : Flam h (encW nm) (.int turn) [.list ((rowR nm turn R).map .int), encO o] = some (.list ((rowR nm turn (o :: R)).map .int)) :=
      E137_of h nm turn (rowR nm turn R) o (fun x hxo => hx x (by rw [hxo]; exact List.mem_cons_self)) (row_len nm turn R) hn
    rw [e, Option.bind_some, fold_lam nm turn hn Q (o :: R) fun x q => hx x (List.mem_cons_of_mem _ q), List.reverse_cons, List.append_assoc]
    rfl
theorem red_gives {a : Addr} {ob : Obj} {fd : FuncData} (ns : List Int) (hob : c.FT a = some ob) (hfd : ob.data = .func fd) (hF : ActL c 3 (fun vs => call (.ref a) vs) (Flam h (encW (nameF ns)) (.int (turnF' ns)))) :
    ∃ F, ActL c 8 (fun vs => call (.ref 92) vs) F ∧ F [.adr a, .list ((QOf ns).map encO), .list ((firstD ns).map .int)] = some (.list ((rowsD ns).map .int)) := by
  refine ⟨_, ActL.le ((Treduce (n := 3) h hob hfd hF).2 _ (runF_HF _ _)) (Nat.le_add_left 4 4), redF_list (fa := a) ?_⟩
  have hnl := name_len ns
  have hpq := sgnQ_pq ns
  have := fold_lam h (nameF ns) (turnF' ns) (by omega) (QOf ns) [] fun x hx => by
    obtain ⟨g, hg, hxg⟩ := Qs_mem hx
    have hSX := segT_S (p := 97) (q := sgnQ ns) (patT 97 (sgnQ ns) (nums2 ns)) ([], []) (patT_S hpq (nums2 ns) ([], 3) fun t ht => nomatch ht) (fun g hg x hx => by rw [List.mem_singleton.mp hg] at hx; cases hx)
    exact (partsX_all hpq x (hSX g hg x hxg)).1
  rw [List.append_nil] at this
  exact this
theorem lam_ok {a : Addr} {ob : Obj} {nm qual : Str} {params : Arguments} {body : Expr} {scope : Scope} {cl : List (Str × Addr)} {pm cv ctv : Value} {args : Rho → Option (List D)} (ns : List Int)
    (hob : c.FT a = some ob) (hd : ob.data = .func (kla_fn nm qual params body scope cl pm cv ctv)) (hcr : ∀ h, Glo c h → h.CodeRec cv qual)
    (CL : ClOk c scope cl [("name", encW (nameF ns)), ("turn", .int (turnF' ns))])
    (hbind : ∀ vals, vals.length = (["row", "part"] : List Str).length → bindArgs (kla_fn nm qual params body scope cl pm cv ctv) ⟨vals, []⟩ = pure ((["row", "part"] : List Str).zip vals))
    (hloc : ∀ x ∈ (["row", "part"] : List Str), scope.names.lookup x = some .local) (hcell : ∀ x ∈ scope.names, x.2 ≠ .cell)
    (t : TrE c 2 scope body (fun r => (args r).bind (E137 h)))
    (hargs : ∀ d1 d2 d3 d4, args [("row", .sh d1), ("part", .sh d2), ("name", .sh d3), ("turn", .sh d4)] = some [d1, d2, d3, d4])
    (hco : scope.isCoroutine = false := by rfl) (hgen : scope.isGenerator = false := by rfl) (hk : scope.kind = .function := by rfl) :
    ActL c 3 (fun vs => call (.ref a) vs) (Flam h (encW (nameF ns)) (.int (turnF' ns))) := by
  refine act_lam (names := ["row", "part"]) (caps := [("name", .sh (encW (nameF ns))), ("turn", .sh (.int (turnF' ns)))]) hob hd hcr (by decide) hbind hloc hcell CL.hcl CL.hci (fun x e q => ?_) t (fun ds d hF => ?_) hco hgen hk
  · have hx : ∃ d, e = .sh d ∧ List.lookup x [("name", encW (nameF ns)), ("turn", .int (turnF' ns))] = some d := by
      unfold Rho.get at q
      rw [List.lookup_cons] at q ⊢
      cases hb : x == ("name" : Str) with
      | true => rw [hb] at q; cases q; exact ⟨_, rfl, rfl⟩
      | false =>
        rw [hb] at q
        dsimp only at q ⊢
        rw [List.lookup_cons] at q ⊢
        cases hb2 : x == ("turn" : Str) with
        | true => rw [hb2] at q; cases q; exact ⟨_, rfl, rfl⟩
        | false => rw [hb2] at q; cases q
    obtain ⟨d, rfl, hd⟩ := hx
    obtain ⟨q1, b, oc, v, q2, q3, q4, q5⟩ := CL.hcap x d hd
    exact ⟨q1, b, oc, v, d, q2, q3, q4, rfl, q5⟩
  · unfold Flam at hF
    split at hF
    · rename_i row part
      refine ⟨rfl, ?_⟩
      have e : args ((["row", "part"] : List Str).zip (List.map Ent.sh [row, part]) ++ ([("name", .sh (encW (nameF ns))), ("turn", .sh (.int (turnF' ns)))] : Rho)) = some [row, part, encW (nameF ns), .int (turnF' ns)] := hargs _ _ _ _
      show (args _).bind (E137 h) = some d
      rw [e]
      exact hF
    · cases hF
end
end Mine
end SQ12

/-! Q13 -/
set_option maxHeartbeats 2000000
noncomputable section SQ13
namespace Mine
def scL : Scope := match PySem.Challenge.pw_in0219_02.main.body[(27 : Nat)]? with
  | some (.FunctionDef _ _ _ _ _ _ sc _ _ _) => sc
  | _ => default
def bodyL : List Stmt := match PySem.Challenge.pw_in0219_02.main.body[(27 : Nat)]? with
  | some (.FunctionDef _ _ b _ _ _ _ _ _ _) => b
  | _ => default
theorem free_ok {names ns : List (Str × NameKind)} (h : (names.all fun p => p.2 != .free || ns.lookup p.1 == some .cell) = true) : ∀ p ∈ names, p.2 = .free → ns.lookup p.1 = some .cell := fun p hp e => by
  have := List.all_eq_true.mp h p hp
  rw [e] at this
  simpa using this
theorem nocell_ok {names : List (Str × NameKind)} (h : (names.all fun p => p.2 != .cell) = true) : ∀ p ∈ names, p.2 ≠ .cell := fun p hp e => by
  have := List.all_eq_true.mp h p hp
  rw [e] at this
  simp at this
theorem look2 {x y : Str} {a b d : D} {u : Str} (h : List.lookup u [(x, a), (y, b)] = some d) : (u = x ∧ d = a) ∨ (u = y ∧ d = b) := by
  rw [List.lookup_cons] at h
  cases hb : u == x with
  | true => rw [hb] at h; cases h; exact .inl ⟨beq_iff_eq.mp hb, rfl⟩
  | false =>
    rw [hb] at h
    dsimp only at h
    rw [List.lookup_cons] at h
    cases hb2 : u == y with
    | true => rw [hb2] at h; cases h; exact .inr ⟨beq_iff_eq.mp hb2, rfl⟩
    | false => rw [hb2] at h; cases h
theorem look139 (P : Params) : (KK P).lookup 139 = none := by kernel_rfl
theorem law_run {P : Params} {c : Cx} (h : CF (KK P) c) (H : LH c) (h139 : c.FT 139 = some (tabObj #[])) (hcd : ∀ h, Glo c h → CodeHd h 141 139) (hbi : ∀ h, Glo c h → h.BuiltinsAt c.mg 139)
    {prog : Program} {w : World} {A : Around} {E : Value → Shared → Prop} {X0 : List Addr} {s0 : Shared} {env : Env} {gd : List (Addr × Obj)} {hid : List (Value × D)} {ow : List (Str × Addr)} {s : Shared} {Q : Flow → Shared → Prop} {ns : List Int}
    (hl : ns.length ≤ 1000) (hA : AOk 8 A) (hs : env.scope = scL) (hcode : env.code = .ref 141) (hfn : FnOk c env) (S : St c X0 s0 env gd hid ow [("script", .sh (.list (ns.map .int)))] s) (hzX : 139 ∈ X0)
    (hq : ∀ s', (∃ hh tk, s' = { s0 with heap := hh, toks := tk }) → (∀ b o, b ≠ 139 → b ∉ c.Z → s0.heap.get? b = some o → s'.heap.get? b = some o) → (∀ y, y = 139 ∨ y ∈ c.Z → tabOk s'.heap y) → Q (.ret (.bool true)) s') :
    wpAny (model prog w) A (execs bodyL env) Q E s := by
  obtain ⟨r', e1, e2, p1, p2, p3, p4⟩ := law_pre h H ns hl [("script", .sh (.list (ns.map .int)))] rfl
  refine (PkLaw h H).2.2.1 hA hs hfn S e1 fun s' ow' S' => ?_
  refine last_reduce (z := 139) (ca := 141) (fr := 92) (caps := [("name", encW (nameF ns)), ("turn", .int (turnF' ns))]) (PkLaw h H).2.2.2 (tr_glob _ _ _ _ rfl (h.g _ _ rfl) rfl rfl) (h.ft 92 _ rfl) rfl (by decide) h139 hcd hbi (by decide) (by decide) (by decide)
    (fun _ => rfl) (free_ok rfl) rfl (plain_cons (plain_cons (plain_cons plain_nil))) (fun _ => rfl) (by decide) (by decide) hA hs hcode hfn.ne S' hzX e2 p1 p2 (fun x d q => ?_) (fun ex a ob cl pm cv ctv qual hft hob hd hcr CL => ?_) (eq_self (good_ints _)) hq
  · rcases look2 q with ⟨rfl, rfl⟩ | ⟨rfl, rfl⟩
    · exact ⟨p3, trivial, rfl, rfl⟩
    · exact ⟨p4, trivial, rfl, rfl⟩
  · have h2 : CF (KK P) (cx2 c 139 ex) := ⟨h.g, h.gn, h.b, fun a o e => hft a o (h.ft a o e) fun w => by rw [w, look139] at e; cases e⟩
    refine red_gives h2 ns hob hd (lam_ok h2 ns hob hd hcr CL (fun vals hl => bnd2 vals hl fun _ _ => rfl) (by decide) (nocell_ok rfl) (tr_callF (tr_glob _ _ _ _ rfl (h2.g _ _ rfl) rfl rfl) (trEs_cons (tr_name _ _ rfl rfl) (trEs_cons (tr_name _ _ rfl rfl) (trEs_cons (tr_name _ _ rfl rfl) (trEs_cons (tr_name _ _ rfl rfl) trEs_nil)))) (h2.ft _ _ rfl) rfl (nxt_ok h2) (plain_cons (plain_cons (plain_cons (plain_cons plain_nil))))) (fun _ _ _ _ => rfl))
end Mine
end SQ13

/-! C2 -/
noncomputable section SC2
namespace Mine
def cx0 (P : Params) (mg mb : Str → Option Value) : Cx := ⟨[71], mg, mb, fun a => if a = 139 then some (tabObj #[]) else (KK P).lookup a⟩
theorem mem_look {a : Addr} {o : Obj} : ∀ {l : List (Addr × Obj)}, l.lookup a = some o → (a, o) ∈ l
  | [], h => nomatch h
  | (b, q) :: l, h => by
    rw [List.lookup_cons] at h
    cases hb : a == b with
    | true =>
      rw [hb] at h
      cases h
      rw [beq_iff_eq.mp hb]
      exact List.mem_cons_self
    | false =>
      rw [hb] at h
      exact List.mem_cons_of_mem _ (mem_look h)
theorem look71 (P : Params) : (KK P).lookup 71 = none := by kernel_rfl
section
variable {P : Params} {s₁ : Shared} {mg mb : Str → Option Value} {h₁ : Heap} {tk₁ : Nat} {p : Program} {loose : List Str} {mean : ExcName → Option Value}
abbrev gh (h : Heap) : Heap := ghostOf h [(75, 71), (141, 139)]
theorem unhide {h : Heap} {l : List (Addr × Addr)} {b : Addr} {o : Obj} (e : (ghostOf h l).get? b = some o) : h.get? b = some o := of_hideAll _ e
theorem ft0 {a : Addr} {o : Obj} (e : (KK P).lookup a = some o) : (cx0 P mg mb).FT a = some o := by
  show (if a = 139 then some (tabObj #[]) else (KK P).lookup a) = some o
  rw [if_neg (fun w => by rw [w, look139] at e; cases e)]
  exact e
theorem cf0 (X' : (KK P).In (gh s₁.heap)) (T' : Top p loose mean mg mb (gh s₁.heap)) : CF (KK P) (cx0 P mg mb) where
  g := fun n v e => mg_of X' T'.g e
  gn := fun n e => mg_none_of X' T'.g e
  b := fun n v e hn => (T'.builtins n hn).trans e
  ft := fun a o e => ft0 e
theorem glo0 (X' : (KK P).In (gh s₁.heap)) (T' : Top p loose mean mg mb (gh s₁.heap)) (h71 : s₁.heap.get? 71 = some (tabObj #[])) (h139 : s₁.heap.get? 139 = some (tabObj #[])) : Glo (cx0 P mg mb) s₁.heap where
  g := T'.g.at fun o e => unhide e
  b := T'.b.at fun o e => unhide e
  lim := by
    obtain ⟨mc, n, e⟩ := T'.nolimit
    exact ⟨mc, n.at fun o e => unhide e, e⟩
  obs := fun a o e => by
    have e' : (if a = 139 then some (tabObj #[]) else (KK P).lookup a) = some o := e
    split at e'
    · rename_i w
      cases e'
      rw [w]; exact h139
    · exact unhide (X' a o e')
  zl := fun z hz => ⟨#[], by rw [List.mem_singleton.mp hz]; exact h71, trivial⟩
  ok := ⟨by show _ ∉ [71]; decide, by show _ ∉ [71]; decide, by show _ ∉ [71]; decide, fun a o e q => by
    have e' : (if a = 139 then some (tabObj #[]) else (KK P).lookup a) = some o := e
    rw [List.mem_singleton.mp q, if_neg (by decide), look71] at e'
    cases e'⟩
theorem gIn {h : Heap} (G : Glo (cx0 P mg mb) h) : (KK P).In h := fun a o e => G.obs a o (ft0 e)
theorem head75 (P : Params) : codeHdIn (KK P) 75 71 = true := by kernel_rfl
theorem head141 (P : Params) : codeHdIn (KK P) 141 139 = true := by kernel_rfl
theorem look4 (P : Params) : (KK P).lookup 4 = some { cls := Value.type "module", dict := some 0 } := by kernel_rfl
theorem fn75 (P : Params) : ((KK P).all fun p => match p.2.data with
    | .func fd => (match fd.code with | .ref 75 => true | _ => false) || !(decide (fd.scope = scT))
    | _ => true) = true := by kernel_rfl
theorem bi0 (hb : mg "__builtins__" = some (.ref 4)) {h : Heap} (G : Glo (cx0 P mg mb) h) (z : Addr) (h1 : (4 : Addr) ≠ z) : h.BuiltinsAt (cx0 P mg mb).mg z := ⟨4, _, hb, by decide, by decide, h1, gIn G 4 _ (look4 P), rfl, rfl, rfl⟩
theorem LH0 (hb : mg "__builtins__" = some (.ref 4)) : LH (cx0 P mg mb) where
  L := { Z := rfl
         hd := fun h G => codeHd_of_K (gIn G) (head75 P)
         bi := fun h G => bi0 hb G 71 (by decide) }
  pat := fun h G => by
    have e1 := gIn G 50 _ (show (KK P).lookup 50 = _ by rfl)
    have e2 := gIn G 49 _ (show (KK P).lookup 49 = _ by rfl)
    exact ⟨_, 49, _, _, _, _, e1, rfl, rfl, rfl, rfl, rfl, rfl, e2, rfl, by kernel_rfl⟩
  fn := fun fa ob fd e hd hs => by
    have e' : (if fa = 139 then some (tabObj #[]) else (KK P).lookup fa) = some ob := e
    split at e'
    · cases e'
      cases hd
    · have q := List.all_eq_true.mp (fn75 P) (fa, ob) (mem_look e')
      dsimp only at q
      rw [hd] at q
      dsimp only at q
      rw [decide_eq_true hs, Bool.not_true, Bool.or_false] at q
      split at q
      · assumption
      · cases q
theorem st2 {m : Str → Option Value} {a : Addr} {L : Nat} {vs : List Value} {ns : List Int} {o1 o2 o3 o4 o5 : Obj} {v1 v2 v3 v4 v5 : Option Value} {env : Env}
    (X' : (KK P).In (gh s₁.heap)) (T' : Top p loose mean mg mb (gh s₁.heap)) (hL0 : L = s₁.heap.objs.size)
    (F' : Fr (gh s₁.heap) L h₁ m) (hm : m "script" = some (.ref a))
    (c1 : h₁.get? (L + 1) = some o1) (c2 : h₁.get? (L + 1 + 1) = some o2) (c3 : h₁.get? (L + 1 + 1 + 1) = some o3) (c4 : h₁.get? (L + 1 + 1 + 1 + 1) = some o4) (c5 : h₁.get? (L + 1 + 1 + 1 + 1 + 1) = some o5)
    (d1 : o1.data = .cell v1) (d2 : o2.data = .cell v2) (d3 : o3.data = .cell v3) (d4 : o4.data = .cell v4) (d5 : o5.data = .cell v5)
    (h71 : s₁.heap.get? 71 = some (tabObj #[])) (h71' : h₁.get? 71 = some (tabObj #[])) (h139 : s₁.heap.get? 139 = some (tabObj #[])) (h139' : h₁.get? 139 = some (tabObj #[])) (hL : s₁.heap.IsList a vs.toArray) (hI : IntsAre vs ns)
    (k1 : env.scope.kind = .function) (k2 : env.globals = mainGlobals) (k3 : env.builtins = builtinsNs) (k4 : env.locals = L)
    (k5 : env.cells = [(("turn" : Str), L + 1 + 1 + 1 + 1 + 1), ("name", L + 1 + 1 + 1 + 1), ("taken", L + 1 + 1 + 1), ("pieces", L + 1 + 1), ("pair", L + 1)])
    (k6 : env.kindOf "script" = some .local) (k7 : ∀ x, env.kindOf x = some .cell → ∃ b, env.cells.lookup x = some b) :
    St (cx0 P mg mb) [71, 139] s₁ env [] [] [] [("script", .sh (.list (ns.map .int)))] { s₁ with heap := h₁, toks := tk₁ } := by
  have hkeep : ∀ b o, s₁.heap.get? b = some o → h₁.get? b = some o := fun b o e => by
    by_cases hb : b = 71
    · subst hb
      rw [h71] at e
      cases e
      exact h71'
    · by_cases hb2 : b = 139
      · subst hb2
        rw [h139] at e
        cases e
        exact h139'
      · exact F'.keep b o (ghost_ne e (by simpa using ⟨hb, hb2⟩))
  have hx : Ext (cx0 P mg mb) s₁.heap h₁ := Ext.of hkeep
  have hsz : (71 : Nat) < s₁.heap.objs.size := Heap.lt_size h71
  have hnl : ∀ b, L ≤ b → ¬ live s₁.heap b := fun b hb l => absurd l.lt (Nat.not_lt.mpr (hL0 ▸ hb))
  have hcl : ∀ q ∈ env.cells, (L + 1 : Nat) ≤ (q.2 : Nat) ∧ ∃ oc vc, h₁.get? q.2 = some oc ∧ oc.data = .cell vc := fun q hq => by
    rw [k5] at hq
    simp only [List.mem_cons, List.not_mem_nil, or_false] at hq
    rcases hq with rfl | rfl | rfl | rfl | rfl
    · exact ⟨by dsimp only; lia, _, _, c5, d5⟩
    · exact ⟨by dsimp only; lia, _, _, c4, d4⟩
    · exact ⟨by dsimp only; lia, _, _, c3, d3⟩
    · exact ⟨by dsimp only; lia, _, _, c2, d2⟩
    · exact ⟨Nat.le_refl _, _, _, c1, d1⟩
  have hap : env.cells.Pairwise fun x y => x.2 ≠ y.2 := by
    rw [k5]
    simp only [List.pairwise_cons, List.mem_cons, List.not_mem_nil, or_false, forall_eq_or_imp, forall_eq, false_imp_iff, implies_true, List.Pairwise.nil, and_true, ne_eq]
    have e : ∀ a b : Nat, b < a → ¬ @Eq Addr a b := fun a b hb w => Nat.ne_of_gt hb w
    refine ⟨⟨e _ _ ?_, e _ _ ?_, e _ _ ?_, e _ _ ?_⟩, ⟨e _ _ ?_, e _ _ ?_, e _ _ ?_⟩, ⟨e _ _ ?_, e _ _ ?_⟩, e _ _ ?_⟩ <;> lia
  have hl' : h₁.IsList a vs.toArray := IsList.at hL fun o e => hkeep a o e
  have haz : a ∉ XX [] [71, 139] := fun q => by
    obtain ⟨o, ho, hc, _⟩ := hL
    have q' : a = 71 ∨ a = 139 := by simpa [XX] using q
    rcases q' with q' | q'
    · rw [q', h71] at ho
      cases ho
      cases hc
    · rw [q', h139] at ho
      cases ho
      cases hc
  have hrs : ∀ {vs : List Value} {ns : List Int}, IntsAre vs ns → Rs (LP h₁ (XX [] [71, 139])) vs (ns.map .int) := by
    intro vs ns h
    induction h with
    | nil => exact .nil
    | cons _ _ _ ih => exact .cons .int ih
  refine ⟨k1, k2, k3, ⟨h₁, tk₁, rfl⟩, glo0 X' T' h71 h139, hx, fun z hz => by rw [List.mem_singleton.mp hz]; exact List.mem_cons_self, fun x hx => ?_, ⟨m, k4 ▸ F'.ns⟩, fun h => ?_, ?_, fun x b q => ?_, fun x y b q1 q2 => name_of_addr hap (mem_of_lookup q1) (mem_of_lookup q2), fun _ x b _ q => ?_, fun _ x q => k7 x q, fun p hp => (nomatch hp), fun p hp => (nomatch hp), .nil, .nil, fun p hp => (nomatch hp), fun x e q => ?_⟩
  · rcases List.mem_cons.mp hx with rfl | hx
    · exact live.of h71
    · rw [List.mem_singleton.mp hx]; exact live.of h139
  · have this : env.locals = (71 : Nat) := List.mem_singleton.mp h
    have k4' : env.locals = (s₁.heap.objs.size : Nat) := k4.trans hL0
    rw [this] at k4'
    exact absurd k4' (Nat.ne_of_lt hsz)
  · rw [k4]
    exact hnl _ (Nat.le_refl _)
  · obtain ⟨h1, oc, vc, h2, h3⟩ := hcl _ (mem_of_lookup q)
    exact ⟨⟨vc, oc, h2, h3⟩, fun h => by
      have q : @Eq Nat b 71 := List.mem_singleton.mp h
      have h1' : @LE.le Nat _ (L + 1) b := h1
      have h0 : @Eq Nat L s₁.heap.objs.size := hL0
      lia⟩
  · exact hnl _ (Nat.le_of_succ_le (hcl _ (mem_of_lookup q)).1)
  · unfold Rho.get at q
    rw [List.lookup_cons] at q
    cases hb : x == ("script" : Str) with
    | true =>
      rw [hb] at q
      cases q
      rw [beq_iff_eq.mp hb]
      exact ⟨.ref a, .inl ⟨k6, m, k4 ▸ F'.ns, hm⟩, .list ⟨hl', haz⟩ (hrs hI)⟩
    | false =>
      rw [hb] at q
      cases q
theorem look142 (P : Params) : (KK P).lookup 142 = some (fob 27 (sv "law_in0219_02" 571) (Value.none) 141) := by kernel_rfl
theorem law142 : ∃ fd, (fob 27 (sv "law_in0219_02" 571) (Value.none) 141).data = .func fd ∧ fd.code = .ref 141 ∧ scL = fd.scope := ⟨_, rfl, rfl, rfl⟩
theorem ghostZ {h : Heap} {o : Obj} {b : Addr} (hb : b = 71 ∨ b = 139) (e : (gh h).get? b = some o) : False := by
  have q : (gh h).get? b = none := hideAll_none _ (by
    rcases hb with rfl | rfl
    · exact List.mem_cons_self
    · exact List.mem_cons_of_mem _ (List.mem_singleton.mpr rfl))
  rw [q] at e
  cases e
theorem cells_have {names : List (Str × NameKind)} {cells : List (Str × Addr)} (h : (names.all fun p => p.2 != .cell || (cells.lookup p.1).isSome) = true) {x : Str} (q : names.lookup x = some .cell) : ∃ b, cells.lookup x = some b := by
  have := List.all_eq_true.mp h (x, .cell) (mem_of_lookup q)
  exact Option.isSome_iff_exists.mp (by simpa using this)
end
end Mine
set_option maxHeartbeats 8000000 in
theorem PySem.Challenge.cw_in0219_02_holds : PySem.Challenge.rw_in0219_02.Holds := by
  refine holds_law Mine.wellsaid fun said => ?_
  refine holds_open (q := Mine.qv) (loose := Mine.loose) (Xt := Mine.xt) (XP := XL Mine.qv []) (Yf := Hook.obs (kmHook Mine.KK Mine.ats Mine.ats_ok [71, 139])) (Ya := Hook.val (kmHook Mine.KK Mine.ats Mine.ats_ok [71, 139])) (YP := Hook.says (kmHook Mine.KK Mine.ats Mine.ats_ok [71, 139])) (N := 4100) Mine.leftT (Hook.of _) (Hook.keeps _) (fun s e => xl_of s (Bool.and_eq_true_iff.mp e).1) XL.keeps (by rfl) (by rfl) (by rfl) (fun s e => recFacts_of (Bool.and_eq_true_iff.mp e).2) (by rfl) said (by decide +kernel) ⟨rfl, rfl, rfl, rfl, rfl, by decide +kernel⟩ ?hw ?hc
  case hw => w_witness2
  clear said
  k_fill
  intro w s₀ s₁ mg mb G Y fa o pm cd doc dV kV ho hd hcd hD hmg hg args vals as hpre hlay hrd hwl hlo
  have KX := km_in_of Y
  km_tabs Y
  have X := (Ground.X G).1
  have V := (Ground.X G).2
  refine Ground.open G ?_
  intro T B D TE TW
  try (refine guard_noD D (by decide +kernel) ?_; clear D)
  have hsv : ∃ o' fd, (Mine.KK w.params).lookup fa = some o' ∧ o'.data = .func fd ∧ cd = fd.code ∧ Mine.scL = fd.scope := by
    have e1 := mg_of KX T.g (n := "law") (v := .ref 142) (by kernel_rfl)
    have e2 : fa = 142 := by
      have := hmg.symm.trans e1
      cases this
      rfl
    subst e2
    have e3 := KX 142 _ (Mine.look142 _)
    have e4 := Option.some.inj (ho.symm.trans e3)
    obtain ⟨fd, f1, f2, f3⟩ := Mine.law142
    refine ⟨_, fd, Mine.look142 _, f1, ?_, f3⟩
    rw [e4, f1] at hd
    rw [f2]
    exact (congrArg FuncData.code (Data.func.inj hd)).symm.trans f2
  km_lay T hmg ho hd cd
  clear hmg
  wrow_args hpre hlay hrd hwl hlo
  all_goals (
    first | refine callC_kw (enter_call ?_) | refine enter_call ?_
    w_top on
    kn_posts
    w_call any ho hd hcd hD T F
    clear hd
    kn_ghosts F T
    k_drop
    skip)
  rename_i ns hs0 hlay0 hL0 hr0 hl20 z1 z2 z3 z4 z5 hLst ra0 w10 r00 hI0 hra hc1 hc2 h1 tk1 o5 o4 o3 o2 o1 d5 d4 d3 d2 d1 XC X' T' K' F' chd N' l0
  have hl : ns.length ≤ 1000 := by lia
  have h71 := hT8 71 (List.mem_cons_self)
  have h139 := hT8 139 (List.mem_cons_of_mem _ List.mem_cons_self)
  have hb4 : _ = some (Value.ref 4) := mg_of X' T'.g (n := "__builtins__") (v := .ref 4) (by kernel_rfl)
  have nw := fun q hq => (N' q hq).1
  refine Mine.law_run (Mine.cf0 X' T') (Mine.LH0 hb4) rfl (fun h G => codeHd_of_K (Mine.gIn G) (Mine.head141 _)) (fun h G => Mine.bi0 hb4 G 139 (by decide)) hl ?hA rfl rfl ?hF
    (Mine.st2 X' T' rfl F' rfl (nw _ (List.mem_cons_of_mem _ (List.mem_cons_of_mem _ (List.mem_cons_of_mem _ (List.mem_cons_of_mem _ List.mem_cons_self))))) (nw _ (List.mem_cons_of_mem _ (List.mem_cons_of_mem _ (List.mem_cons_of_mem _ List.mem_cons_self)))) (nw _ (List.mem_cons_of_mem _ (List.mem_cons_of_mem _ List.mem_cons_self))) (nw _ (List.mem_cons_of_mem _ List.mem_cons_self)) (nw _ List.mem_cons_self)
      d1 d2 d3 d4 d5 h71 (nw (71, _) (List.mem_cons_of_mem _ (List.mem_cons_of_mem _ (List.mem_cons_of_mem _ (List.mem_cons_of_mem _ (List.mem_cons_of_mem _ List.mem_cons_self)))))) h139 (nw (139, _) (List.mem_cons_of_mem _ (List.mem_cons_of_mem _ (List.mem_cons_of_mem _ (List.mem_cons_of_mem _ (List.mem_cons_of_mem _ (List.mem_cons_of_mem _ List.mem_cons_self))))))) hLst hI0 rfl rfl rfl rfl rfl rfl ?k7)
    (List.mem_cons_of_mem _ List.mem_cons_self) fun s' hsame hk htab => ?hQ
  case hA => exact ⟨rfl, by show callerA.depth + 1 + 8 < 990; decide, by show callerA.units + 3 + 20 * 8 + 200 < 9900; decide⟩
  case k7 =>
    intro x q
    exact Mine.cells_have rfl q
  case hF =>
    obtain ⟨o', fd, v1, v2, v3, v4⟩ := hsv
    exact ⟨fa, o', fd, rfl, Mine.ft0 v1, v2, v3, v4⟩
  case hQ =>
    obtain ⟨hh, tk, es⟩ := hsame
    refine ⟨⟨.inl ⟨.bool true, .bool true, [], rfl, fun _ => rfl, .bool _, ?_, fun _ => ⟨.nil, fun _ q => nomatch q⟩⟩, fun b o hb => ?_, ?_, ?_⟩, ?_, ?_, trivial⟩
    · wrow_post
    · exact hk b o (fun q => Mine.ghostZ (.inr q) hb) (fun q => Mine.ghostZ (.inl (List.mem_singleton.mp q)) hb) (Mine.unhide hb)
    · rw [es]
    · rw [es]; exact hg
    · obtain ⟨ps, q1, _⟩ := htab 71 (.inr List.mem_cons_self)
      exact ⟨ps, q1⟩
    · obtain ⟨ps, q1, _⟩ := htab 139 (.inl rfl)
      exact ⟨ps, q1⟩
end SC2
