import PyProof.Rows.All
import Wide.All
import OpenK.AllK
import Wide.FinOn
import KE.LcTurns
import KE.KSortTup
import PySem.Challenge.RW_rs0185_01
set_option Elab.async false
set_option autoImplicit false
set_option linter.unusedVariables false
namespace Mine
open PySem PySem.Spec PySem.Calls PyProof.Rows PySem.W

/-- data -/
inductive D where
  | none | bool (b : Bool) | int (i : Int) | str (x : Str)
  | tup (ds : List D) | list (ds : List D)
  | ws (cs : List Int) (b nt : Int)
  | val (v : Value)
  | fn (fd : FuncData)
  | sl (ns : List Int)
deriving Inhabited

/-- the two code tables that may grow -/
def tb (b : Addr) : Prop := b = 153 ∨ b = 165

def normD (cs : List Int) (b : Int) : D := .tup [.tup (cs.map .int), .int b]

/-- the class's address -/
def wsCls : Value := .ref 83

inductive Rd (X : Addr → Prop) (h : Heap) : Value → D → Prop
  | none : Rd X h .none .none
  | bool (b) : Rd X h (.bool b) (.bool b)
  | int (i t) : Rd X h (.int i t) (.int i)
  | str (x t) : Rd X h (.str x t) (.str x)
  | list {a vs n ds} : ¬ X a → h.get? a = some { cls := .type "list", data := .seq vs n } → vs.toList.length = ds.length →
      (∀ (i : Nat) v d, vs.toList[i]? = some v → ds[i]? = some d → Rd X h v d) → Rd X h (.ref a) (.list ds)
  | tup {a o vs n ds} : ¬ X a → h.get? a = some o → o.cls = .type "tuple" → o.data = .seq vs n → vs.toList.length = ds.length →
      (∀ (i : Nat) v d, vs.toList[i]? = some v → ds[i]? = some d → Rd X h v d) → Rd X h (.ref a) (.tup ds)
  | ws {a da es ep sl cs b nt vn tn} : ¬ X a → ¬ X da → h.get? a = some ⟨.ref 83, some da, .plain, sl⟩ → h.get? da = some (dictOf es ep) → getL "norm" es = some (some vn) → getL "nt" es = some (some (.int nt tn)) →
      getL "equal" es = some Option.none → getL "indent_level" es = some Option.none → Rd X h vn (normD cs b) → Rd X h (.ref a) (.ws cs b nt)
  | val (v) : Rd X h v (.val v)
  | fn {f fo fd k oc vs q t} : ¬ X f → h.get? f = some fo → fo.data = .func fd → fd.code = .ref k → ¬ X k → h.get? k = some oc → oc.data = .fields vs → vs[1]? = some (.str q t) → fd.qualname = q → Rd X h (.ref f) (.fn fd)
  | sl {a o vs n ns} : ¬ X a → h.get? a = some o → o.cls = .type "list" → o.data = .seq vs n → IntsAre vs.toList ns → Rd X h (.ref a) (.sl ns)

def RdAll (X : Addr → Prop) (h : Heap) (vs : List Value) (ds : List D) : Prop :=
  vs.length = ds.length ∧ ∀ (i : Nat) v d, vs[i]? = some v → ds[i]? = some d → Rd X h v d

section
variable {X X' : Addr → Prop} {h h' : Heap} {v : Value} {d : D} {vs ws : List Value} {ds es : List D}

theorem Rd.mono (k : ∀ b o, ¬ X b → h.get? b = some o → h'.get? b = some o) (r : Rd X h v d) : Rd X h' v d := by
  induction r with
  | none => exact .none
  | bool b => exact .bool b
  | int i t => exact .int i t
  | str x t => exact .str x t
  | val v => exact .val v
  | fn hx h1 h2 h3 hy h4 h5 h6 h7 => exact .fn hx (k _ _ hx h1) h2 h3 hy (k _ _ hy h4) h5 h6 h7
  | sl hx h1 h2 h3 h4 => exact .sl hx (k _ _ hx h1) h2 h3 h4
  | list hx h1 h4 _ ih => exact .list hx (k _ _ hx h1) h4 ih
  | tup hx h1 h2 h3 h4 _ ih => exact .tup hx (k _ _ hx h1) h2 h3 h4 ih
  | ws hx hy h1 h2 h3 h4 h5 h6 _ ih => exact .ws hx hy (k _ _ hx h1) (k _ _ hy h2) h3 h4 h5 h6 ih

theorem Rd.less (k : ∀ a, X' a → X a) (r : Rd X h v d) : Rd X' h v d := by
  induction r with
  | none => exact .none
  | bool b => exact .bool b
  | int i t => exact .int i t
  | str x t => exact .str x t
  | val v => exact .val v
  | fn hx h1 h2 h3 hy h4 h5 h6 h7 => exact .fn (fun q => hx (k _ q)) h1 h2 h3 (fun q => hy (k _ q)) h4 h5 h6 h7
  | sl hx h1 h2 h3 h4 => exact .sl (fun q => hx (k _ q)) h1 h2 h3 h4
  | list hx h1 h4 _ ih => exact .list (fun q => hx (k _ q)) h1 h4 ih
  | tup hx h1 h2 h3 h4 _ ih => exact .tup (fun q => hx (k _ q)) h1 h2 h3 h4 ih
  | ws hx hy h1 h2 h3 h4 h5 h6 _ ih => exact .ws (fun q => hx (k _ q)) (fun q => hy (k _ q)) h1 h2 h3 h4 h5 h6 ih

theorem Rd.more (k : ∀ a, X' a → X a ∨ h.get? a = Option.none) (r : Rd X h v d) : Rd X' h v d := by
  have k' : ∀ a o, ¬ X a → h.get? a = some o → ¬ X' a := fun a o hx e q => by
    rcases k a q with q | q
    · exact hx q
    · rw [e] at q; cases q
  induction r with
  | none => exact .none
  | bool b => exact .bool b
  | int i t => exact .int i t
  | str x t => exact .str x t
  | val v => exact .val v
  | fn hx h1 h2 h3 hy h4 h5 h6 h7 => exact .fn (k' _ _ hx h1) h1 h2 h3 (k' _ _ hy h4) h4 h5 h6 h7
  | sl hx h1 h2 h3 h4 => exact .sl (k' _ _ hx h1) h1 h2 h3 h4
  | list hx h1 h4 _ ih => exact .list (k' _ _ hx h1) h1 h4 ih
  | tup hx h1 h2 h3 h4 _ ih => exact .tup (k' _ _ hx h1) h1 h2 h3 h4 ih
  | ws hx hy h1 h2 h3 h4 h5 h6 _ ih => exact .ws (k' _ _ hx h1) (k' _ _ hy h2) h1 h2 h3 h4 h5 h6 ih

theorem RdAll.mono (k : ∀ b o, ¬ X b → h.get? b = some o → h'.get? b = some o) (r : RdAll X h vs ds) : RdAll X h' vs ds := ⟨r.1, fun i v d a b => (r.2 i v d a b).mono k⟩
theorem RdAll.less (k : ∀ a, X' a → X a) (r : RdAll X h vs ds) : RdAll X' h vs ds := ⟨r.1, fun i v d a b => (r.2 i v d a b).less k⟩
theorem RdAll.more (k : ∀ a, X' a → X a ∨ h.get? a = Option.none) (r : RdAll X h vs ds) : RdAll X' h vs ds := ⟨r.1, fun i v d a b => (r.2 i v d a b).more k⟩
theorem RdAll.nil : RdAll X h [] [] := ⟨rfl, fun i v d a _ => by simp at a⟩
theorem RdAll.cons (r : Rd X h v d) (k : RdAll X h vs ds) : RdAll X h (v :: vs) (d :: ds) := by
  refine ⟨by rw [List.length_cons, List.length_cons, k.1], fun i u e a b => ?_⟩
  cases i with
  | zero => simp at a b; subst a; subst b; exact r
  | succ i => exact k.2 i u e (by simpa using a) (by simpa using b)
theorem RdAll.head {v : Value} {vs : List Value} {d : D} {ds : List D} (k : RdAll X h (v :: vs) (d :: ds)) : Rd X h v d := k.2 0 v d rfl rfl
theorem RdAll.tail {v : Value} {vs : List Value} {d : D} {ds : List D} (k : RdAll X h (v :: vs) (d :: ds)) : RdAll X h vs ds :=
  ⟨by have := k.1; simpa using this, fun i u e a b => k.2 (i + 1) u e (by simpa using a) (by simpa using b)⟩
theorem RdAll.append (r : RdAll X h vs ds) (k : RdAll X h ws es) : RdAll X h (vs ++ ws) (ds ++ es) := by
  refine ⟨by rw [List.length_append, List.length_append, r.1, k.1], fun i v d a b => ?_⟩
  by_cases hi : i < vs.length
  · rw [List.getElem?_append_left hi] at a
    rw [List.getElem?_append_left (r.1 ▸ hi)] at b
    exact r.2 i v d a b
  · have hi' : vs.length ≤ i := Nat.le_of_not_lt hi
    rw [List.getElem?_append_right hi'] at a
    rw [List.getElem?_append_right (r.1 ▸ hi'), ← r.1] at b
    exact k.2 _ v d a b
theorem RdAll.one (r : Rd X h v d) : RdAll X h [v] [d] := .cons r .nil
theorem RdAll.list {a : Addr} {n : Nat} (hx : ¬ X a) (e : h.get? a = some { cls := .type "list", data := .seq vs.toArray n }) (r : RdAll X h vs ds) : Rd X h (.ref a) (.list ds) :=
  .list hx e (by simpa using r.1) (by simpa using r.2)
theorem RdAll.tup {a : Addr} {o : Obj} {n : Nat} (hx : ¬ X a) (e : h.get? a = some o) (hc : o.cls = .type "tuple") (hd : o.data = .seq vs.toArray n) (r : RdAll X h vs ds) : Rd X h (.ref a) (.tup ds) :=
  .tup hx e hc hd (by simpa using r.1) (by simpa using r.2)
theorem Rd.listInv (r : Rd X h v (.list ds)) : ∃ a vs n, v = .ref a ∧ ¬ X a ∧ h.get? a = some { cls := .type "list", data := .seq vs n } ∧ RdAll X h vs.toList ds := by
  cases r with
  | list hx h1 h4 h5 => exact ⟨_, _, _, rfl, hx, h1, h4, h5⟩
theorem Rd.tupInv (r : Rd X h v (.tup ds)) : ∃ a o vs n, v = .ref a ∧ ¬ X a ∧ h.get? a = some o ∧ o.cls = .type "tuple" ∧ o.data = .seq vs n ∧ RdAll X h vs.toList ds := by
  cases r with
  | tup hx h1 h2 h3 h4 h5 => exact ⟨_, _, _, _, rfl, hx, h1, h2, h3, h4, h5⟩
theorem Rd.slInv {ns : List Int} (r : Rd X h v (.sl ns)) : ∃ a o vs n, v = .ref a ∧ ¬ X a ∧ h.get? a = some o ∧ o.cls = .type "list" ∧ o.data = .seq vs n ∧ IntsAre vs.toList ns := by
  cases r with
  | sl hx h1 h2 h3 h4 => exact ⟨_, _, _, _, rfl, hx, h1, h2, h3, h4⟩
theorem Rd.intInv {i : Int} (r : Rd X h v (.int i)) : ∃ t, v = .int i t := by cases r with | int i t => exact ⟨t, rfl⟩
theorem Rd.boolInv {i : Bool} (r : Rd X h v (.bool i)) : v = .bool i := by cases r with | bool i => rfl
theorem Rd.strInv {i : Str} (r : Rd X h v (.str i)) : ∃ t, v = .str i t := by cases r with | str i t => exact ⟨t, rfl⟩
theorem Rd.noneInv (r : Rd X h v .none) : v = .none := by cases r with | none => rfl
theorem RdAll.nilInv (r : RdAll X h vs []) : vs = [] := List.length_eq_zero_iff.mp r.1
theorem RdAll.consInv {d : D} {ds : List D} (r : RdAll X h vs (d :: ds)) : ∃ v us, vs = v :: us ∧ Rd X h v d ∧ RdAll X h us ds := by
  cases vs with
  | nil => exact absurd r.1 (by simp)
  | cons v us => exact ⟨v, us, rfl, r.head, r.tail⟩
theorem RdAll.get (r : RdAll X h vs ds) {i : Nat} {d : D} (e : ds[i]? = some d) : ∃ v, vs[i]? = some v ∧ Rd X h v d := by
  obtain ⟨hi, _⟩ := List.getElem?_eq_some_iff.mp e
  have hi' : i < vs.length := r.1 ▸ hi
  exact ⟨vs[i], List.getElem?_eq_getElem hi', r.2 i _ d (List.getElem?_eq_getElem hi') e⟩
theorem RdAll.ints {ns : List Int} : ∀ {vs : List Value}, RdAll X h vs (ns.map .int) → IntsAre vs ns := by
  induction ns with
  | nil => intro vs r; rw [r.nilInv]; exact .nil
  | cons n ns ih =>
    intro vs r
    obtain ⟨v, us, rfl, r1, r2⟩ := RdAll.consInv r
    obtain ⟨t, rfl⟩ := r1.intInv
    exact .cons n t (ih r2)
theorem RdAll.ofInts {ns : List Int} {vs : List Value} (r : IntsAre vs ns) : RdAll X h vs (ns.map .int) := by
  induction r with
  | nil => exact .nil
  | cons n t _ ih => exact .cons (.int n t) ih
theorem RdAll.take (n : Nat) (r : RdAll X h vs ds) : RdAll X h (vs.take n) (ds.take n) := by
  refine ⟨by rw [List.length_take, List.length_take, r.1], fun i v d a b => ?_⟩
  by_cases hi : i < n
  · exact r.2 i v d (by rw [List.getElem?_take_of_lt hi] at a; exact a) (by rw [List.getElem?_take_of_lt hi] at b; exact b)
  · rw [List.getElem?_take_eq_none (Nat.le_of_not_lt hi)] at a; cases a
theorem RdAll.drop (n : Nat) (r : RdAll X h vs ds) : RdAll X h (vs.drop n) (ds.drop n) := by
  refine ⟨by rw [List.length_drop, List.length_drop, r.1], fun i v d a b => ?_⟩
  exact r.2 (n + i) v d (by rw [List.getElem?_drop] at a; exact a) (by rw [List.getElem?_drop] at b; exact b)
theorem RdAll.reverse (r : RdAll X h vs ds) : RdAll X h vs.reverse ds.reverse := by
  induction vs generalizing ds with
  | nil => have : ds = [] := List.length_eq_zero_iff.mp r.1.symm
           subst this; exact .nil
  | cons v vs ih =>
    cases ds with
    | nil => exact absurd r.1 (by simp)
    | cons d ds =>
      rw [List.reverse_cons, List.reverse_cons]
      exact (ih r.tail).append (.one r.head)
end

/-- a code table's object -/
def tabO (ps : Array Value) : Obj := { cls := .none, data := .fields ps }

/-- all that was stands, but for X; the two tables stand anyhow -/
structure Kp (X : Addr → Prop) (h h' : Heap) : Prop where
  keep : ∀ b o, ¬ X b → ¬ tb b → h.get? b = some o → h'.get? b = some o
  tabs : ∀ b ps, tb b → h.get? b = some (tabO ps) → h'.get? b = some (tabO ps)

def noX : Addr → Prop := fun _ => False

theorem Kp.refl {X : Addr → Prop} (h : Heap) : Kp X h h := ⟨fun _ _ _ _ e => e, fun _ ps _ e => e⟩
theorem Kp.trans {X : Addr → Prop} {h₁ h₂ h₃ : Heap} (a : Kp X h₁ h₂) (b : Kp X h₂ h₃) : Kp X h₁ h₃ :=
  ⟨fun c o hx ht e => b.keep c o hx ht (a.keep c o hx ht e), fun c ps ht e => b.tabs c _ ht (a.tabs c ps ht e)⟩
theorem Kp.wide {X X' : Addr → Prop} {h h' : Heap} (k : ∀ a, X a → X' a) (a : Kp X h h') : Kp X' h h' := ⟨fun b o hx => a.keep b o (fun q => hx (k b q)), a.tabs⟩
theorem Kp.all {X : Addr → Prop} {h h' : Heap} (ht : ∀ b, tb b → ¬ X b) (k : ∀ b o, ¬ X b → h.get? b = some o → h'.get? b = some o) : Kp X h h' :=
  ⟨fun b o hx _ e => k b o hx e, fun b ps hb e => k b _ (ht b hb) e⟩
theorem Kp.every {X : Addr → Prop} {h h' : Heap} (k : ∀ b o, h.get? b = some o → h'.get? b = some o) : Kp X h h' :=
  ⟨fun b o _ _ e => k b o e, fun b ps _ e => k b _ e⟩
/-- from noX: all but X, where what is not in X was there -/
theorem Kp.narrow {X X' : Addr → Prop} {h h' : Heap} (k : ∀ a, X a → X' a ∨ h.get? a = Option.none) (a : Kp X h h') : Kp X' h h' :=
  ⟨fun b o hx ht e => a.keep b o (fun q => by rcases k b q with q | q; exact hx q; rw [e] at q; cases q) ht e, a.tabs⟩

/-- the generators there were stand; new ones may be -/
def GensOk (a b : Array GenState) : Prop := (AllBare a → AllBare b) ∧ a.size ≤ b.size ∧ ∀ g, g < a.size → b[g]? = a[g]?
theorem GensOk.refl (a : Array GenState) : GensOk a a := ⟨fun x => x, Nat.le_refl _, fun _ _ => rfl⟩
theorem GensOk.trans {a b c : Array GenState} (x : GensOk a b) (y : GensOk b c) : GensOk a c :=
  ⟨fun z => y.1 (x.1 z), Nat.le_trans x.2.1 y.2.1, fun g hg => (y.2.2 g (Nat.lt_of_lt_of_le hg x.2.1)).trans (x.2.2 g hg)⟩
structure Gw (X : Addr → Prop) (s s' : Shared) : Prop where
  kp : Kp X s.heap s'.heap
  os : s'.os = s.os
  bare : GensOk s.gens s'.gens
theorem Gw.refl {X : Addr → Prop} (s : Shared) : Gw X s s := ⟨.refl _, rfl, .refl _⟩
theorem Gw.trans {X : Addr → Prop} {s₁ s₂ s₃ : Shared} (a : Gw X s₁ s₂) (b : Gw X s₂ s₃) : Gw X s₁ s₃ := ⟨a.kp.trans b.kp, b.os.trans a.os, a.bare.trans b.bare⟩
theorem Gw.wide {X X' : Addr → Prop} {s s' : Shared} (k : ∀ a, X a → X' a) (a : Gw X s s') : Gw X' s s' := ⟨a.kp.wide k, a.os, a.bare⟩
theorem Gw.none {X : Addr → Prop} {s s' : Shared} (a : Gw noX s s') : Gw X s s' := a.wide fun _ q => q.elim
theorem Gw.narrow {X X' : Addr → Prop} {s s' : Shared} (k : ∀ a, X a → X' a ∨ s.heap.get? a = Option.none) (a : Gw X s s') : Gw X' s s' := ⟨a.kp.narrow k, a.os, a.bare⟩
theorem Gw.heap {X : Addr → Prop} {s : Shared} {h' : Heap} {tk : Nat} (k : Kp X s.heap h') : Gw X s { s with heap := h', toks := tk } := ⟨k, rfl, .refl _⟩
theorem Gw.same {X : Addr → Prop} {s : Shared} {tk : Nat} : Gw X s { s with toks := tk } := ⟨.refl _, rfl, .refl _⟩
theorem Gw.every {X : Addr → Prop} {s : Shared} {h' : Heap} {tk : Nat} (k : ∀ b o, s.heap.get? b = some o → h'.get? b = some o) : Gw X s { s with heap := h', toks := tk } := .heap (.every k)
theorem Gw.push {X : Addr → Prop} {s : Shared} {o : Obj} : Gw X s { s with heap := s.heap.push o } := ⟨.every fun _ _ e => Heap.get?_push_of_some _ e, rfl, .refl _⟩

/-- what the top left lies below -/
def low : Nat := 169
/-- X holds the tables, and else things of the call's own alone -/
structure XT (X : Addr → Prop) : Prop where
  tbs : ∀ b, tb b → X b
  hi : ∀ a, X a → tb a ∨ low ≤ a
theorem Rd.gw {X : Addr → Prop} {s s' : Shared} {v : Value} {d : D} (xt : XT X) (g : Gw X s s') (r : Rd X s.heap v d) : Rd X s'.heap v d :=
  r.mono fun b o hx e => g.kp.keep b o hx (fun t => hx (xt.tbs b t)) e
theorem RdAll.gw {X : Addr → Prop} {s s' : Shared} {v : List Value} {d : List D} (xt : XT X) (g : Gw X s s') (r : RdAll X s.heap v d) : RdAll X s'.heap v d :=
  r.mono fun b o hx e => g.kp.keep b o hx (fun t => hx (xt.tbs b t)) e

/-- what the walk knows of every heap behind the top: a fact that stands while nothing but the tables turns, and says what the tables are -/
structure Known (G : Heap → Prop) : Prop where
  keeps : ∀ h h', G h → Kp noX h h' → G h'
  table : ∀ h, G h → ∀ b, tb b → ∃ ps, h.get? b = some (tabO ps)
  apart : ∀ X h h', (∀ a, X a → tb a ∨ low ≤ a) → G h → Kp X h h' → G h'
  big : ∀ h, G h → low ≤ h.objs.size

structure EnvOk (X : Addr → Prop) (env : Env) (h : Heap) (ρ : Str → Option D) : Prop where
  kind : env.scope.kind = .function
  glob : env.globals = mainGlobals
  blt : env.builtins = builtinsNs
  xt : XT X
  al : ∀ a, X a → ∃ o, h.get? a = some o
  ntb : ¬ tb env.locals
  locX : X env.locals
  loc : ∃ m, h.Ns env.locals m ∧ ∀ x d, ρ x = some d → env.kindOf x = some .local → ∃ v, m x = some v ∧ Rd X h v d
  cel : ∀ x d, ρ x = some d → env.kindOf x ≠ some .local → (env.kindOf x = some .cell ∨ (env.kindOf x = some .free ∧ (x == ("__classdict__" : Str)) = false)) ∧ ∃ c v, env.cells.lookup x = some c ∧ h.IsCell c (some v) ∧ Rd X h v d
  cells : ∀ p ∈ env.cells, X p.2 ∧ p.2 ≠ env.locals ∧ ¬ tb p.2 ∧ ∃ v, h.IsCell p.2 v
  apart : env.cells.Pairwise fun x y => x.2 ≠ y.2
  gl : ∀ x d, ρ x = some d → (x == ("__debug__" : Str)) = false
  hasC : ∀ x, env.kindOf x = some .cell → (env.cells.lookup x).isSome = true

theorem EnvOk.gw {G : Heap → Prop} (KG : Known G) {X : Addr → Prop} {env : Env} {s s' : Shared} {ρ : Str → Option D} (e : EnvOk X env s.heap ρ) (g : Gw noX s s') (hG : G s.heap) : EnvOk X env s'.heap ρ := by
  have kc : ∀ c v, ¬ tb c → s.heap.IsCell c v → s'.heap.IsCell c v := fun c v ht ⟨o, ho, hd⟩ => ⟨o, g.kp.keep c o (fun q => q) ht ho, hd⟩
  refine ⟨e.kind, e.glob, e.blt, e.xt, fun a ha => ?_, e.ntb, e.locX, ?_, fun x d hx hk => ?_, fun p hp => ?_, e.apart, e.gl, e.hasC⟩
  · by_cases ht : tb a
    · obtain ⟨ps, hp⟩ := KG.table _ (KG.keeps _ _ hG g.kp) a ht
      exact ⟨_, hp⟩
    · obtain ⟨o, ho⟩ := e.al a ha
      exact ⟨o, g.kp.keep a o (fun q => q) ht ho⟩
  · obtain ⟨m, hn, hm⟩ := e.loc
    refine ⟨m, hn.at' fun o ho => g.kp.keep _ o (fun q => q) e.ntb ho, fun x d hx hk => ?_⟩
    obtain ⟨v, hv, r⟩ := hm x d hx hk
    exact ⟨v, hv, r.gw e.xt g.none⟩
  · obtain ⟨hk', c, v, hc, hv, r⟩ := e.cel x d hx hk
    exact ⟨hk', c, v, hc, kc c _ (e.cells _ (mem_of_lookup hc)).2.2.1 hv, r.gw e.xt g.none⟩
  · obtain ⟨h1, h2, h3, v, h4⟩ := e.cells p hp
    exact ⟨h1, h2, h3, v, kc _ _ h3 h4⟩

theorem EnvOk.sub {X : Addr → Prop} {env : Env} {h : Heap} {ρ ρ' : Str → Option D} (e : EnvOk X env h ρ) (hs : ∀ x d, ρ' x = some d → ρ x = some d) : EnvOk X env h ρ' := by
  obtain ⟨m, hn, hm⟩ := e.loc
  exact ⟨e.kind, e.glob, e.blt, e.xt, e.al, e.ntb, e.locX, ⟨m, hn, fun x d hx => hm x d (hs x d hx)⟩, fun x d hx => e.cel x d (hs x d hx), e.cells, e.apart, fun x d hx => e.gl x d (hs x d hx), e.hasC⟩

section
variable {prog : Program} {w : World} {A : Around} {s : Shared} {X : Addr → Prop} {env : Env} {ρ : Str → Option D}
abbrev noE : Value → Shared → Prop := fun _ _ => False
theorem wp_up {α : Type} {t : Sem α} {Q Q' : α → Shared → Prop} {E : Value → Shared → Prop} (h : wpAny (model prog w) A t Q noE s) (k : ∀ a s', Q a s' → Q' a s') : wpAny (model prog w) A t Q' E s :=
  wpAny_mono h k fun _ _ x => x.elim
theorem load_ok {x : Str} {d : D} {Q : Value → Shared → Prop} {E : Value → Shared → Prop} (e : EnvOk X env s.heap ρ) (hx : ρ x = some d) (h : ∀ v, Rd X s.heap v d → Q v s) : wpAny (model prog w) A (loadName env x) Q E s := by
  by_cases hk : env.kindOf x = some .local
  · obtain ⟨m, hn, hm⟩ := e.loc
    obtain ⟨v, hv, r⟩ := hm x d hx hk
    exact wpAny_loadName_local e.kind hk hn hv (h v r)
  · obtain ⟨hk' | ⟨hk', hc'⟩, c, v, hc, hv, r⟩ := e.cel x d hx hk
    · exact wpAny_loadName_cell e.kind hk' hc hv (h v r)
    · exact wpAny_loadName_free e.kind hk' hc hv (h v r) hc'
end

def upd (ρ : Str → Option D) (x : Str) (d : D) : Str → Option D := fun y => if y = x then some d else ρ y

section
variable {prog : Program} {w : World} {A : Around} {s : Shared} {X : Addr → Prop} {env : Env} {ρ : Str → Option D}
/-- a store to a name of the frame's own -/
theorem store_ok {x : Str} {v : Value} {d : D} {Q : Unit → Shared → Prop} {E : Value → Shared → Prop} (e : EnvOk X env s.heap ρ) (r : Rd X s.heap v d)
    (hk' : env.kindOf x = some .local ∨ env.kindOf x = some .cell) (hd : (x == ("__debug__" : Str)) = false)
    (h : ∀ s', EnvOk X env s'.heap (upd ρ x d) → Gw (fun a => a = env.locals ∨ ∃ c, env.cells.lookup x = some c ∧ a = c) s s' → Q () s') : wpAny (model prog w) A (storeName env x v) Q E s := by
  have hk : env.kindOf x = some .local ∨ (env.kindOf x = some .cell ∧ (env.cells.lookup x).isSome = true) := hk'.imp id fun q => ⟨q, e.hasC x q⟩
  obtain ⟨m, hn, hm⟩ := e.loc
  have gd : ∀ y d', upd ρ x d y = some d' → (y == ("__debug__" : Str)) = false := fun y d' hy => by
    by_cases hyx : y = x
    · rw [hyx]; exact hd
    · exact e.gl y d' (by simpa [upd, hyx] using hy)
  rcases hk with hk | ⟨hk, hc⟩
  · refine wpAny_storeName_local hk hn (fun h' hn' hs => ?_) (by rw [e.kind]; rfl)
    have kx : ∀ b o, ¬ X b → s.heap.get? b = some o → h'.get? b = some o := fun b o hx q => hs.extBut b o (fun z => hx (z ▸ e.locX)) q
    refine h _ ⟨e.kind, e.glob, e.blt, e.xt, fun a ha => ?_, e.ntb, e.locX, ⟨_, hn', fun y d' hy hyk => ?_⟩, fun y d' hy hyk => ?_, fun p hp => ?_, e.apart, gd, e.hasC⟩ ?_
    · by_cases haL : a = env.locals
      · obtain ⟨o, _, _, ho, _⟩ := hn'; exact ⟨o, haL ▸ ho⟩
      · obtain ⟨o, ho⟩ := e.al a ha; exact ⟨o, hs.extBut a o haL ho⟩
    · by_cases hyx : y = x
      · subst hyx
        have : d' = d := by simp [upd] at hy; exact hy.symm
        subst this
        exact ⟨v, by simp, r.mono kx⟩
      · obtain ⟨u, hu, ru⟩ := hm y d' (by simpa [upd, hyx] using hy) hyk
        exact ⟨u, by simp [hyx, hu], ru.mono kx⟩
    · have hyx : y ≠ x := fun z => hyk (z ▸ hk)
      obtain ⟨h1, c, u, h2, h3, h4⟩ := e.cel y d' (by simpa [upd, hyx] using hy) hyk
      exact ⟨h1, c, u, h2, h3.sameBut hs (e.cells _ (mem_of_lookup h2)).2.1, h4.mono kx⟩
    · obtain ⟨h1, h2, h3, u, h4⟩ := e.cells p hp
      exact ⟨h1, h2, h3, u, h4.sameBut hs h2⟩
    · exact .heap (.all (fun b hb => fun q => by
          rcases q with q | ⟨c, q1, q2⟩
          · exact e.ntb (q ▸ hb)
          · exact (e.cells _ (mem_of_lookup q1)).2.2.1 (q2 ▸ hb)) fun b o hb q => hs.extBut b o (fun z => hb (.inl z)) q)
  · obtain ⟨c, hc⟩ := Option.isSome_iff_exists.mp hc
    obtain ⟨cX, cL, ct, u, cu⟩ := e.cells _ (mem_of_lookup hc)
    dsimp only at cX cL ct cu
    have hkl : env.kindOf x ≠ some .local := by rw [hk]; decide
    refine wpAny_storeName_cell e.kind hk hc cu fun h' hc' hs => ?_
    have kx : ∀ b o, ¬ X b → s.heap.get? b = some o → h'.get? b = some o := fun b o hx q => hs.extBut b o (fun z => hx (z ▸ cX)) q
    refine h _ ⟨e.kind, e.glob, e.blt, e.xt, fun a ha => ?_, e.ntb, e.locX, ⟨m, hn.sameBut hs (Ne.symm cL), fun y d' hy hyk => ?_⟩, fun y d' hy hyk => ?_, fun p hp => ?_, e.apart, gd, e.hasC⟩ ?_
    · by_cases hac : a = c
      · obtain ⟨o, ho, _⟩ := hc'; exact ⟨o, hac ▸ ho⟩
      · obtain ⟨o, ho⟩ := e.al a ha; exact ⟨o, hs.extBut a o hac ho⟩
    · have hyx : y ≠ x := fun z => hkl (z ▸ hyk)
      obtain ⟨u, hu, ru⟩ := hm y d' (by simpa [upd, hyx] using hy) hyk
      exact ⟨u, hu, ru.mono kx⟩
    · by_cases hyx : y = x
      · subst hyx
        have : d' = d := by simp [upd] at hy; exact hy.symm
        subst this
        exact ⟨.inl hk, c, v, hc, hc', r.mono kx⟩
      · obtain ⟨h1, c', u, h2, h3, h4⟩ := e.cel y d' (by simpa [upd, hyx] using hy) hyk
        have hcc : c' ≠ c := fun z => hyx (name_of_addr e.apart (mem_of_lookup h2) (z ▸ mem_of_lookup hc))
        exact ⟨h1, c', u, h2, h3.sameBut hs hcc, h4.mono kx⟩
    · obtain ⟨h1, h2, h3, u', h4⟩ := e.cells p hp
      by_cases hpc : p.2 = c
      · exact ⟨h1, h2, h3, some v, hpc ▸ hc'⟩
      · exact ⟨h1, h2, h3, u', h4.sameBut hs hpc⟩
    · refine ⟨.all (fun b hb => fun q => by
          rcases q with q | ⟨c', q1, q2⟩
          · exact e.ntb (q ▸ hb)
          · exact (e.cells _ (mem_of_lookup q1)).2.2.1 (q2 ▸ hb)) fun b o hb q => hs.extBut b o (fun z => hb (.inr ⟨c, hc, z⟩)) q, rfl, .refl _⟩
end
end Mine
namespace Mine
open PySem PySem.Spec PySem.Calls PyProof.Rows PySem.W

structure Cx where
  prog : Program
  w : World
  A : Around
  G : Heap → Prop
  K : Frag

/-- an expression, in a frame of this scope that knows these names, is this datum -/
def Ev (c : Cx) (sc : Scope) (ρ : Str → Option D) (e : Expr) (d : D) : Prop :=
  ∀ (X : Addr → Prop) (env : Env) (s : Shared), env.scope = sc → c.G s.heap → EnvOk X env s.heap ρ →
    wpAny (model c.prog c.w) c.A (eval e env) (fun v s' => Gw noX s s' ∧ Rd X s'.heap v d) noE s
def Evs (c : Cx) (sc : Scope) (ρ : Str → Option D) (es : List Expr) (ds : List D) : Prop :=
  ∀ (X : Addr → Prop) (env : Env) (pos : Pos) (s : Shared), env.scope = sc → c.G s.heap → EnvOk X env s.heap ρ →
    wpAny (model c.prog c.w) c.A (spliced (backTo pos (starEach es env))) (fun vs s' => Gw noX s s' ∧ RdAll X s'.heap vs ds) noE s
/-- its truth -/
def EvT (c : Cx) (sc : Scope) (ρ : Str → Option D) (e : Expr) (b : Bool) : Prop :=
  ∀ (X : Addr → Prop) (env : Env) (s : Shared), env.scope = sc → c.G s.heap → EnvOk X env s.heap ρ →
    wpAny (model c.prog c.w) c.A (isTrue e env (eval e env)) (fun r s' => Gw noX s s' ∧ r = b) noE s

/-- X is allocated, and holds the tables -/
structure Xok (X : Addr → Prop) (h : Heap) : Prop where
  xt : XT X
  al : ∀ a, X a → ∃ o, h.get? a = some o
theorem EnvOk.xok {X : Addr → Prop} {env : Env} {h : Heap} {ρ : Str → Option D} (e : EnvOk X env h ρ) : Xok X h := ⟨e.xt, e.al⟩
theorem Xok.gw {G : Heap → Prop} (KG : Known G) {X : Addr → Prop} {s s' : Shared} (x : Xok X s.heap) (hG : G s.heap) (g : Gw noX s s') : Xok X s'.heap :=
  ⟨x.xt, fun a ha => by
    by_cases ht : tb a
    · obtain ⟨ps, hp⟩ := KG.table _ (KG.keeps _ _ hG g.kp) a ht
      exact ⟨_, hp⟩
    · obtain ⟨o, ho⟩ := x.al a ha
      exact ⟨o, g.kp.keep a o (fun q => q) ht ho⟩⟩
theorem Xok.fresh {X : Addr → Prop} {h : Heap} (x : Xok X h) : ¬ X h.objs.size := fun q => by
  obtain ⟨o, ho⟩ := x.al _ q
  exact absurd (Heap.lt_size ho) (Nat.lt_irrefl _)

/-- a tree that hands back a datum, whatever X -/
def Gives (c : Cx) (X : Addr → Prop) (s : Shared) (t : Sem Value) (d : D) : Prop :=
  wpAny (model c.prog c.w) c.A t (fun v s' => Gw noX s s' ∧ Rd X s'.heap v d) noE s
def BinOk (c : Cx) (op : Operator) (a b r : D) : Prop := ∀ (X : Addr → Prop) (s : Shared) (va vb : Value), c.G s.heap → Xok X s.heap → Rd X s.heap va a → Rd X s.heap vb b → Gives c X s (binaryOp op va vb) r
def CmpOk (c : Cx) (op : CmpOp) (a b r : D) : Prop := ∀ (X : Addr → Prop) (s : Shared) (va vb : Value), c.G s.heap → Xok X s.heap → Rd X s.heap va a → Rd X s.heap vb b → Gives c X s (compareOp op va vb) r

section
variable {c : Cx} {sc : Scope} {ρ : Str → Option D}

theorem gint {X : Addr → Prop} {s : Shared} {i : Int} {t : Tok} {tk : Nat} : Gw noX s { s with toks := tk } ∧ Rd X ({ s with toks := tk } : Shared).heap (.int i t) (.int i) := ⟨.same, .int i t⟩

theorem Ev.name {x : Str} {pos : Pos} {d : D} (hx : ρ x = some d) : Ev c sc ρ (.Name x pos) d := fun X env s _ _ e => by
  refine wpAny_Name ?_ (e.gl x d hx)
  exact load_ok e hx fun v r => ⟨.refl s, r⟩
theorem Ev.intC {i : Int} {k : Nat} {pos : Pos} : Ev c sc ρ (.Constant (.int i) k pos) (.int i) := fun X env s _ _ _ => wpAny_Constant_int gint
theorem Ev.strC {x : Str} {k : Nat} {pos : Pos} : Ev c sc ρ (.Constant (.str x) k pos) (.str x) := fun X env s _ _ _ => wpAny_Constant_str ⟨.same, .str x _⟩
theorem Ev.boolC {b : Bool} {k : Nat} {pos : Pos} : Ev c sc ρ (.Constant (.bool b) k pos) (.bool b) := fun X env s _ _ _ => wpAny_Constant_bool ⟨.refl s, .bool b⟩
theorem Ev.noneC {k : Nat} {pos : Pos} : Ev c sc ρ (.Constant .none k pos) .none := fun X env s _ _ _ => wpAny_Constant_none ⟨.refl s, .none⟩

theorem Evs.nil : Evs c sc ρ [] [] := fun X env pos s _ _ _ => wpAny_items_nil ⟨.refl s, .nil⟩
theorem Evs.cons (KG : Known c.G) {e : Expr} {es : List Expr} {d : D} {ds : List D} (h : Ev c sc ρ e d) (k : Evs c sc ρ es ds) (he : ∀ env, starEach (e :: es) env = (false, eval e env) :: starEach es env := by intro _; rfl) :
    Evs c sc ρ (e :: es) (d :: ds) := fun X env pos s hs hG eo => by
  refine wpAny_items_cons (wp_up (h X env s hs hG eo) fun v s₁ h₁ => ?_) (he env)
  refine wp_up (k X env pos s₁ hs (KG.keeps _ _ hG h₁.1.kp) (eo.gw KG h₁.1 hG)) fun vs s₂ h₂ => ?_
  exact ⟨h₁.1.trans h₂.1, .cons (h₁.2.gw eo.xt h₂.1.none) h₂.2⟩
theorem Ev.tuple (KG : Known c.G) {es : List Expr} {ds : List D} {k : Nat} {pos : Pos} (h : Evs c sc ρ es ds) (hl : ds.length ≤ sizeLine) : Ev c sc ρ (.Tuple es k pos) (.tup ds) := fun X env s hs hG eo => by
  refine wpAny_Tuple (wp_up (h X env pos s hs hG eo) fun vs s₁ h₁ => ⟨h₁.2.1 ▸ hl, h₁.1.trans .push, ?_⟩)
  refine RdAll.tup (eo.xok.gw KG hG h₁.1).fresh (Heap.get?_push_size _ rfl) rfl rfl (h₁.2.mono fun b o _ q => Heap.get?_push_of_some _ q)
theorem Ev.list (KG : Known c.G) {es : List Expr} {ds : List D} {pos : Pos} (h : Evs c sc ρ es ds) (hl : ds.length ≤ sizeLine) : Ev c sc ρ (.List es pos) (.list ds) := fun X env s hs hG eo => by
  refine wpAny_List (wp_up (h X env pos s hs hG eo) fun vs s₁ h₁ => ⟨h₁.2.1 ▸ hl, h₁.1.trans .push, ?_⟩)
  refine RdAll.list (eo.xok.gw KG hG h₁.1).fresh (Heap.get?_push_size _ rfl) (h₁.2.mono fun b o _ q => Heap.get?_push_of_some _ q)

theorem Ev.bin (KG : Known c.G) {a b : Expr} {op : Operator} {da db r : D} {pos : Pos} (ha : Ev c sc ρ a da) (hb : Ev c sc ρ b db) (ho : BinOk c op da db r) : Ev c sc ρ (.BinOp a op b pos) r := fun X env s hs hG eo => by
  refine wpAny_BinOp (wp_up (ha X env s hs hG eo) fun va s₁ h₁ => ?_)
  have hG₁ := KG.keeps _ _ hG h₁.1.kp
  have eo₁ := eo.gw KG h₁.1 hG
  refine wp_up (hb X env s₁ hs hG₁ eo₁) fun vb s₂ h₂ => ?_
  refine wp_up (ho X s₂ va vb (KG.keeps _ _ hG₁ h₂.1.kp) (eo₁.xok.gw KG hG₁ h₂.1) (h₁.2.gw eo.xt h₂.1.none) h₂.2) fun v s₃ h₃ => ⟨(h₁.1.trans h₂.1).trans h₃.1, h₃.2⟩
theorem Ev.cmp (KG : Known c.G) {a b : Expr} {op : CmpOp} {da db r : D} {pos : Pos} (ha : Ev c sc ρ a da) (hb : Ev c sc ρ b db) (ho : CmpOk c op da db r) (hm : behindInMarks op b = false := by with_unfolding_all rfl) : Ev c sc ρ (.Compare a [op] [b] pos) r := fun X env s hs hG eo => by
  refine wpAny_Compare1 (wp_up (ha X env s hs hG eo) fun va s₁ h₁ => ?_) hm
  have hG₁ := KG.keeps _ _ hG h₁.1.kp
  have eo₁ := eo.gw KG h₁.1 hG
  refine wp_up (hb X env s₁ hs hG₁ eo₁) fun vb s₂ h₂ => ?_
  refine wp_up (ho X s₂ va vb (KG.keeps _ _ hG₁ h₂.1.kp) (eo₁.xok.gw KG hG₁ h₂.1) (h₁.2.gw eo.xt h₂.1.none) h₂.2) fun v s₃ h₃ => ⟨(h₁.1.trans h₂.1).trans h₃.1, h₃.2⟩
theorem EvT.cmp (KG : Known c.G) {a b : Expr} {op : CmpOp} {da db : D} {r : Bool} {pos : Pos} (ha : Ev c sc ρ a da) (hb : Ev c sc ρ b db) (ho : CmpOk c op da db (.bool r)) (hm : behindInMarks op b = false := by with_unfolding_all rfl) :
    EvT c sc ρ (.Compare a [op] [b] pos) r := fun X env s hs hG eo => by
  refine wpAny_isTrue_Compare1 (wp_up (ha X env s hs hG eo) fun va s₁ h₁ => ?_) hm
  have hG₁ := KG.keeps _ _ hG h₁.1.kp
  have eo₁ := eo.gw KG h₁.1 hG
  refine wp_up (hb X env s₁ hs hG₁ eo₁) fun vb s₂ h₂ => ?_
  refine wp_up (ho X s₂ va vb (KG.keeps _ _ hG₁ h₂.1.kp) (eo₁.xok.gw KG hG₁ h₂.1) (h₁.2.gw eo.xt h₂.1.none) h₂.2) fun v s₃ h₃ => ?_
  rw [h₃.2.boolInv]
  exact wpAny_truthy_bool ⟨(h₁.1.trans h₂.1).trans h₃.1, rfl⟩
theorem EvT.bool {e : Expr} {b : Bool} (h : Ev c sc ρ e (.bool b)) (he : ∀ env whole, isTrue e env whole = (do let v ← whole; standAt e.pos; holding [v] (truthy v)) := by intro _ _; rfl) : EvT c sc ρ e b := fun X env s hs hG eo => by
  refine wpAny_isTrue_value (wp_up (h X env s hs hG eo) fun v s₁ h₁ => ?_) (he env _)
  rw [h₁.2.boolInv]
  exact wpAny_truthy_bool ⟨h₁.1, rfl⟩
theorem EvT.orT {a b : Expr} {pos : Pos} {x : Bool} (ha : EvT c sc ρ a true) : EvT c sc ρ (.BoolOp .Or [a, b] pos) true := fun X env s hs hG eo => by
  refine wpAny_isTrue_BoolOp (wpAny_allTrue_Or_cons (wp_up (ha X env s hs hG eo) fun r s₁ h₁ => ?_))
  rw [h₁.2]
  exact ⟨h₁.1, rfl⟩
theorem EvT.or2 (KG : Known c.G) {a b : Expr} {pos : Pos} {x y : Bool} (ha : EvT c sc ρ a x) (hb : EvT c sc ρ b y) : EvT c sc ρ (.BoolOp .Or [a, b] pos) (x || y) := fun X env s hs hG eo => by
  refine wpAny_isTrue_BoolOp (wpAny_allTrue_Or_cons (wp_up (ha X env s hs hG eo) fun r s₁ h₁ => ?_))
  rw [h₁.2]
  cases x with
  | true => exact ⟨h₁.1, rfl⟩
  | false =>
    refine wpAny_allTrue_Or_cons (wp_up (hb X env s₁ hs (KG.keeps _ _ hG h₁.1.kp) (eo.gw KG h₁.1 hG)) fun r' s₂ h₂ => ?_)
    rw [h₂.2]
    cases y with
    | true => exact ⟨h₁.1.trans h₂.1, rfl⟩
    | false => exact wpAny_allTrue_Or_nil ⟨h₁.1.trans h₂.1, rfl⟩
/-- a or b, of two bools -/
theorem Ev.or2 (KG : Known c.G) {a b : Expr} {pos : Pos} {x y : Bool} (ha : Ev c sc ρ a (.bool x)) (hb : Ev c sc ρ b (.bool y)) : Ev c sc ρ (.BoolOp .Or [a, b] pos) (.bool (x || y)) := fun X env s hs hG eo => by
  refine wpAny_Or2 (wp_up (ha X env s hs hG eo) fun r s₁ h₁ => ?_)
  rw [h₁.2.boolInv]
  refine wpAny_truthy_bool ?_
  cases x with
  | true => exact ⟨h₁.1, .bool true⟩
  | false => exact wp_up (hb X env s₁ hs (KG.keeps _ _ hG h₁.1.kp) (eo.gw KG h₁.1 hG)) fun r' s₂ h₂ => ⟨h₁.1.trans h₂.1, h₂.2⟩
theorem Ev.ite (KG : Known c.G) {t a b : Expr} {pos : Pos} {x : Bool} {d : D} (ht : EvT c sc ρ t x) (ha : x = true → Ev c sc ρ a d) (hb : x = false → Ev c sc ρ b d) : Ev c sc ρ (.IfExp t a b pos) d := fun X env s hs hG eo => by
  refine wpAny_IfExp (wp_up (ht X env s hs hG eo) fun r s₁ h₁ => ?_)
  rw [h₁.2]
  have hG₁ := KG.keeps _ _ hG h₁.1.kp
  have eo₁ := eo.gw KG h₁.1 hG
  cases x with
  | true => exact wp_up (ha rfl X env s₁ hs hG₁ eo₁) fun r' s₂ h₂ => ⟨h₁.1.trans h₂.1, h₂.2⟩
  | false => exact wp_up (hb rfl X env s₁ hs hG₁ eo₁) fun r' s₂ h₂ => ⟨h₁.1.trans h₂.1, h₂.2⟩
theorem Ev.iteV (KG : Known c.G) {t a b : Expr} {pos : Pos} {x : Bool} {d e : D} (ht : EvT c sc ρ t x) (ha : Ev c sc ρ a d) (hb : Ev c sc ρ b e) : Ev c sc ρ (.IfExp t a b pos) (if x = true then d else e) :=
  .ite KG ht (fun h => by rw [if_pos h]; exact ha) (fun h => by rw [if_neg (by rw [h]; decide)]; exact hb)
theorem Ev.neg {a : Expr} {i : Int} {pos : Pos} (ha : Ev c sc ρ a (.int i)) : Ev c sc ρ (.UnaryOp .USub a pos) (.int (-i)) := fun X env s hs hG eo => by
  refine wpAny_UnaryOp (wp_up (ha X env s hs hG eo) fun r s₁ h₁ => ?_)
  obtain ⟨t, rfl⟩ := h₁.2.intInv
  exact neg_int ⟨h₁.1.trans .same, .int _ _⟩

/- ints -/
theorem BinOk.add {a b : Int} : BinOk c .Add (.int a) (.int b) (.int (a + b)) := fun X s va vb _ _ ra rb => by
  obtain ⟨t, rfl⟩ := ra.intInv; obtain ⟨u, rfl⟩ := rb.intInv
  exact PyProof.Rows.add_int gint
theorem BinOk.sub {a b : Int} : BinOk c .Sub (.int a) (.int b) (.int (a - b)) := fun X s va vb _ _ ra rb => by
  obtain ⟨t, rfl⟩ := ra.intInv; obtain ⟨u, rfl⟩ := rb.intInv
  exact PyProof.Rows.sub_int gint
theorem BinOk.mul {a b : Int} (h : IntMulOk a b) : BinOk c .Mult (.int a) (.int b) (.int (a * b)) := fun X s va vb _ _ ra rb => by
  obtain ⟨t, rfl⟩ := ra.intInv; obtain ⟨u, rfl⟩ := rb.intInv
  exact PyProof.Rows.mul_int gint h
theorem BinOk.mod {a b : Int} (h : b ≠ 0) : BinOk c .Mod (.int a) (.int b) (.int (a.fmod b)) := fun X s va vb _ _ ra rb => by
  obtain ⟨t, rfl⟩ := ra.intInv; obtain ⟨u, rfl⟩ := rb.intInv
  exact PyProof.Rows.mod_int h gint
theorem BinOk.fdiv {a b : Int} (h : b ≠ 0) (hp : Builtin.divisionGoesByPylong a b = false) : BinOk c .FloorDiv (.int a) (.int b) (.int (a.fdiv b)) := fun X s va vb _ _ ra rb => by
  obtain ⟨t, rfl⟩ := ra.intInv; obtain ⟨u, rfl⟩ := rb.intInv
  exact PyProof.Rows.floordiv_int h gint (.inl hp)
theorem BinOk.pow {a b : Int} (h : 0 ≤ b) (h2 : b ≤ 1000000) (h3 : a.natAbs < 2 ^ 64) : BinOk c .Pow (.int a) (.int b) (.int (a ^ b.toNat)) := fun X s va vb _ _ ra rb => by
  obtain ⟨t, rfl⟩ := ra.intInv; obtain ⟨u, rfl⟩ := rb.intInv
  exact pow_int_small h h2 h3 gint
theorem CmpOk.lt {a b : Int} : CmpOk c .Lt (.int a) (.int b) (.bool (decide (a < b))) := fun X s va vb _ _ ra rb => by
  obtain ⟨t, rfl⟩ := ra.intInv; obtain ⟨u, rfl⟩ := rb.intInv
  exact PyProof.Rows.lt_int ⟨.refl s, .bool _⟩
theorem CmpOk.le {a b : Int} : CmpOk c .LtE (.int a) (.int b) (.bool (decide (a ≤ b))) := fun X s va vb _ _ ra rb => by
  obtain ⟨t, rfl⟩ := ra.intInv; obtain ⟨u, rfl⟩ := rb.intInv
  exact PyProof.Rows.le_int ⟨.refl s, .bool _⟩
theorem CmpOk.ge {a b : Int} : CmpOk c .GtE (.int a) (.int b) (.bool (decide (b ≤ a))) := fun X s va vb _ _ ra rb => by
  obtain ⟨t, rfl⟩ := ra.intInv; obtain ⟨u, rfl⟩ := rb.intInv
  exact PyProof.Rows.ge_int ⟨.refl s, .bool _⟩
theorem CmpOk.eqI {a b : Int} : CmpOk c .Eq (.int a) (.int b) (.bool (a == b)) := fun X s va vb _ _ ra rb => by
  obtain ⟨t, rfl⟩ := ra.intInv; obtain ⟨u, rfl⟩ := rb.intInv
  exact PyProof.Rows.eq_int ⟨.refl s, .bool _⟩
theorem CmpOk.isB {a b : Bool} : CmpOk c .Is (.bool a) (.bool b) (.bool (a == b)) := fun X s va vb _ _ ra rb => by
  rw [ra.boolInv, rb.boolInv]
  refine wpAny_is_plain rfl ⟨.refl s, ?_⟩
  have : (Value.bool a == Value.bool b) = (a == b) := by cases a <;> cases b <;> rfl
  rw [this]; exact .bool _
theorem CmpOk.isNotB {a b : Bool} : CmpOk c .IsNot (.bool a) (.bool b) (.bool (!(a == b))) := fun X s va vb _ _ ra rb => by
  rw [ra.boolInv, rb.boolInv]
  refine wpAny_isNot_plain rfl ⟨.refl s, ?_⟩
  have : (Value.bool a == Value.bool b) = (a == b) := by cases a <;> cases b <;> rfl
  rw [this]; exact .bool _
theorem CmpOk.isNone {a : D} (h : ∀ X h' v, Rd X h' v a → v ≠ .none) : CmpOk c .Is a .none (.bool false) := fun X s va vb _ _ ra rb => by
  rw [rb.noneInv]
  refine is_none ⟨.refl s, ?_⟩
  have : (va == Value.none) = false := beq_eq_false_iff_ne.mpr (h _ _ _ ra)
  rw [this]; exact .bool _
theorem CmpOk.isNone' : CmpOk c .Is .none .none (.bool true) := fun X s va vb _ _ ra rb => by
  rw [ra.noneInv, rb.noneInv]
  exact is_none ⟨.refl s, .bool true⟩

/- places of lists and tuples -/
theorem subs_of (slice : Expr) (o i : Value) : ∃ ops, subscripted slice false o i = operate ops (getItem o i) := by
  cases slice with
  | Slice a b st p => cases st with
    | none => exact ⟨_, rfl⟩
    | some _ => exact ⟨_, rfl⟩
  | _ => exact ⟨_, rfl⟩
theorem Ev.sub (KG : Known c.G) {a i : Expr} {da di d : D} {T id : String} {pos : Pos} (ha : Ev c sc ρ a da) (hi : Ev c sc ρ i di)
    (hT : ∀ X (s : Shared) v, Rd X s.heap v da → s.TypeIs v T) (hl : typeLookup (.type T) "__getitem__" = pure (some (.builtin id)))
    (h : ∀ X s va vi, Xok X s.heap → Rd X s.heap va da → Rd X s.heap vi di → Gives c X s (getItem va vi) d) : Ev c sc ρ (.Subscript a i pos) d := fun X env s hs hG eo => by
  refine Subscript_ (wp_up (ha X env s hs hG eo) fun va s₁ h₁ => ?_)
  have hG₁ := KG.keeps _ _ hG h₁.1.kp
  have eo₁ := eo.gw KG h₁.1 hG
  refine wp_up (hi X env s₁ hs hG₁ eo₁) fun vb s₂ h₂ => ?_
  obtain ⟨ops, ho⟩ := subs_of i va vb
  have r₁ := h₁.2.gw eo.xt h₂.1.none
  refine tail_any (hT _ _ _ r₁) hl (wp_up (h X s₂ va vb (eo₁.xok.gw KG hG₁ h₂.1) r₁ h₂.2) fun v s₃ h₃ => ⟨(h₁.1.trans h₂.1).trans h₃.1, h₃.2⟩) ho
theorem Rd.listIs {X : Addr → Prop} {s : Shared} {v : Value} {ds : List D} (r : Rd X s.heap v (.list ds)) : s.TypeIs v "list" := by
  obtain ⟨a, vs, n, rfl, _, h1, _⟩ := r.listInv; exact ⟨_, h1, rfl⟩
theorem Rd.tupIs {X : Addr → Prop} {s : Shared} {v : Value} {ds : List D} (r : Rd X s.heap v (.tup ds)) : s.TypeIs v "tuple" := by
  obtain ⟨a, o, vs, n, rfl, _, h1, h2, _⟩ := r.tupInv; exact ⟨o, h1, h2⟩
theorem Ev.itemL (KG : Known c.G) {a i : Expr} {ds : List D} {k : Int} {d : D} {pos : Pos} (ha : Ev c sc ρ a (.list ds)) (hi : Ev c sc ρ i (.int k)) (h0 : 0 ≤ k) (h1 : k < 2 ^ 63) (hd : ds[k.toNat]? = some d) : Ev c sc ρ (.Subscript a i pos) d :=
  .sub KG ha hi (fun _ _ _ r => r.listIs) slot_list_getitem.lookup fun X s va vi _ ra ri => by
    obtain ⟨l, vs, n, rfl, _, e1, r⟩ := ra.listInv
    obtain ⟨t, rfl⟩ := ri.intInv
    obtain ⟨v, hv, rv⟩ := r.get hd
    exact wpAny_getItem_list ⟨_, e1, rfl, n, rfl⟩ h0 h1 (by simpa using hv) ⟨.refl s, rv⟩
theorem Ev.itemLneg (KG : Known c.G) {a i : Expr} {ds : List D} {k : Int} {d : D} {pos : Pos} (ha : Ev c sc ρ a (.list ds)) (hi : Ev c sc ρ i (.int k)) (h0 : k < 0) (h1 : -(ds.length : Int) ≤ k) (h2 : -(2 ^ 63) ≤ k) (hd : ds[(k + ds.length).toNat]? = some d) : Ev c sc ρ (.Subscript a i pos) d :=
  .sub KG ha hi (fun _ _ _ r => r.listIs) slot_list_getitem.lookup fun X s va vi _ ra ri => by
    obtain ⟨l, vs, n, rfl, _, e1, r⟩ := ra.listInv
    obtain ⟨t, rfl⟩ := ri.intInv
    obtain ⟨v, hv, rv⟩ := r.get hd
    have hl : vs.size = ds.length := by have := r.1; simpa using this
    exact wpAny_getItem_list_neg ⟨_, e1, rfl, n, rfl⟩ h0 (by rw [hl]; exact h1) h2 (by rw [hl]; simpa using hv) ⟨.refl s, rv⟩
theorem Ev.itemT (KG : Known c.G) {a i : Expr} {ds : List D} {k : Int} {d : D} {pos : Pos} (ha : Ev c sc ρ a (.tup ds)) (hi : Ev c sc ρ i (.int k)) (h0 : 0 ≤ k) (h1 : k < 2 ^ 63) (hd : ds[k.toNat]? = some d) : Ev c sc ρ (.Subscript a i pos) d :=
  .sub KG ha hi (fun _ _ _ r => r.tupIs) slot_tuple_getitem.lookup fun X s va vi _ ra ri => by
    obtain ⟨l, o, vs, n, rfl, _, e1, e2, e3, r⟩ := ra.tupInv
    obtain ⟨t, rfl⟩ := ri.intInv
    obtain ⟨v, hv, rv⟩ := r.get hd
    obtain ⟨hlt, _⟩ := List.getElem?_eq_some_iff.mp hd
    have hl : vs.size = ds.length := by have := r.1; simpa using this
    exact PyProof.Rows.getItem_tuple ⟨o, e1, e2, n, e3⟩ (by omega) h1 (j := k.toNat) (PySem.seqIndex_of h0 (by rw [hl]; omega)) (by simpa using hv) ⟨.refl s, rv⟩
end
end Mine
namespace Mine
open PySem PySem.Spec PySem.Calls PyProof.Rows PySem.W

structure Lim (c : Cx) : Prop where
  hand : c.A.handled = none
  depth : c.A.depth + 20 < recursionLimit
  units : c.A.units + 1000 < cLine

/- data as the library's data -/
mutual
noncomputable def D.py : D → PyData
  | .none => .none
  | .bool b => .bool b
  | .int i => .int i
  | .str x => .str x
  | .tup ds => .tuple (pys ds)
  | .list ds => .list (pys ds)
  | .ws _ _ _ => .none
  | .val _ => .none
  | .fn _ => .none
  | .sl _ => .none
noncomputable def pys : List D → List PyData
  | [] => []
  | d :: ds => d.py :: pys ds
end
mutual
noncomputable def D.plain : D → Bool
  | .none => true
  | .bool _ => true
  | .int _ => true
  | .str x => PyData.strOk x
  | .tup ds => plains ds
  | .list ds => plains ds
  | .ws _ _ _ => false
  | .val _ => false
  | .fn _ => false
  | .sl _ => false
noncomputable def plains : List D → Bool
  | [] => true
  | d :: ds => d.plain && plains ds
end
theorem pys_map : ∀ ds : List D, pys ds = ds.map D.py
  | [] => rfl
  | d :: ds => by rw [pys, pys_map ds]; rfl
theorem plains_all : ∀ ds : List D, plains ds = ds.all D.plain
  | [] => rfl
  | d :: ds => by rw [plains, plains_all ds]; rfl

theorem readsAll_of {h : Heap} : ∀ {vs : List Value} {ds : List D}, vs.length = ds.length → (∀ (i : Nat) v d, vs[i]? = some v → ds[i]? = some d → ∃ as, Reads h v d.py as) → ∃ as, ReadsAll h vs (pys ds) as
  | [], [], _, _ => ⟨[], by rw [pys]; exact .nil⟩
  | [], _ :: _, e, _ => absurd e (by simp)
  | _ :: _, [], e, _ => absurd e (by simp)
  | v :: vs, d :: ds, e, k => by
    obtain ⟨as, r⟩ := k 0 v d rfl rfl
    obtain ⟨bs, q⟩ := readsAll_of (vs := vs) (ds := ds) (by simpa using e) fun i u x a b => k (i + 1) u x (by simpa using a) (by simpa using b)
    exact ⟨as ++ bs, by rw [pys]; exact .cons r q⟩
theorem plains_get {ds : List D} {i : Nat} {d : D} (h : plains ds = true) (e : ds[i]? = some d) : d.plain = true := by
  rw [plains_all] at h
  exact List.all_eq_true.mp h d (List.mem_of_getElem? e)
theorem Rd.reads {X : Addr → Prop} {h : Heap} {v : Value} {d : D} (r : Rd X h v d) : d.plain = true → ∃ as, Reads h v d.py as := by
  induction r with
  | none => intro _; exact ⟨_, by rw [D.py]; exact .none⟩
  | bool b => intro _; exact ⟨_, by rw [D.py]; exact .bool b⟩
  | int i t => intro _; exact ⟨_, by rw [D.py]; exact .int i t⟩
  | str x t => intro _; exact ⟨_, by rw [D.py]; exact .str x t⟩
  | list hx h1 h4 _ ih =>
    intro hp
    rw [D.plain] at hp
    obtain ⟨as, q⟩ := readsAll_of h4 fun i v d a b => ih i v d a b (plains_get hp b)
    exact ⟨_, by rw [D.py]; exact .list h1 rfl rfl q⟩
  | tup hx h1 h2 h3 h4 _ ih =>
    intro hp
    rw [D.plain] at hp
    obtain ⟨as, q⟩ := readsAll_of h4 fun i v d a b => ih i v d a b (plains_get hp b)
    exact ⟨_, by rw [D.py]; exact .tuple h1 h2 h3 q⟩
  | ws => intro hp; rw [D.plain] at hp; cases hp
  | val => intro hp; rw [D.plain] at hp; cases hp
  | fn => intro hp; rw [D.plain] at hp; cases hp
  | sl => intro hp; rw [D.plain] at hp; cases hp

/-- what may be compared: no instance, not deep -/
structure Cmpd (d : D) : Prop where
  plain : d.plain = true
  shaped : SeqAt.shaped d.py = true

section
variable {c : Cx} {sc : Scope} {ρ : Str → Option D}

theorem CmpOk.eqD (hl : Lim c) {a b : D} (ha : Cmpd a) (hb : Cmpd b) : CmpOk c .Eq a b (.bool (PyData.eqv a.py b.py)) := fun X s va vb _ _ ra rb => by
  obtain ⟨as, r1⟩ := ra.reads ha.plain
  obtain ⟨bs, r2⟩ := rb.reads hb.plain
  exact eq_dataH r1 r2 ha.shaped hb.shaped (by have := hl.units; omega) ⟨.refl s, .bool _⟩
theorem CmpOk.neD (hl : Lim c) {a b : D} (ha : Cmpd a) (hb : Cmpd b) : CmpOk c .NotEq a b (.bool (!PyData.eqv a.py b.py)) := fun X s va vb _ _ ra rb => by
  obtain ⟨as, r1⟩ := ra.reads ha.plain
  obtain ⟨bs, r2⟩ := rb.reads hb.plain
  exact ne_dataH r1 r2 ha.shaped hb.shaped (by have := hl.units; omega) ⟨.refl s, .bool _⟩
theorem CmpOk.inD (hl : Lim c) {x : D} {ds : List D} (hx : Cmpd x) (hd : Cmpd (.list ds)) : CmpOk c .In x (.list ds) (.bool ((pys ds).any fun y => PyData.eqv y x.py)) := fun X s va vb _ _ ra rb => by
  obtain ⟨as, r1⟩ := ra.reads hx.plain
  obtain ⟨bs, r2⟩ := rb.reads hd.plain
  rw [D.py] at r2
  have h1 := SeqAt.canLay_of_shaped hd.shaped
  have h2 := SeqAt.depth_of_shaped hx.shaped
  rw [D.py] at h1
  refine SeqAt.in_list_reads r2 r1 (by simpa only [PyData.canLay0] using h1) (SeqAt.canLay_of_shaped hx.shaped) ?_ ⟨.refl s, .bool _⟩
  have := hl.units
  have := Nat.min_le_right (PyData.depthAll (pys ds)) x.py.depth
  omega

/- lists joined, repeated -/
theorem BinOk.addL {as bs : List D} (hz : as.length + bs.length ≤ sizeLine) : BinOk c .Add (.list as) (.list bs) (.list (as ++ bs)) := fun X s va vb _ xo ra rb => by
  obtain ⟨l, vs, n, rfl, _, e1, r1⟩ := ra.listInv
  obtain ⟨b, us, n2, rfl, _, e2, r2⟩ := rb.listInv
  have z1 : vs.size = as.length := by have := r1.1; simpa using this
  have z2 : us.size = bs.length := by have := r2.1; simpa using this
  refine concat_meets ⟨_, e1, rfl⟩ ⟨_, e2, rfl⟩ noFill_list_add seq_list_add PySem.F.slot_list_add PySem.F.entry_list_add (PySem.F.args_list_add_2 _ _) (list_addW l b vs us n n2 none none #[] #[] (by omega)) ⟨e1, e2, ?_⟩
  refine ⟨.push, ?_⟩
  refine RdAll.list (vs := vs.toList ++ us.toList) (n := 0) xo.fresh ?_ ((r1.append r2).mono fun b o _ q => Heap.get?_push_of_some _ q)
  have : (vs.toList ++ us.toList).toArray = vs ++ us := by simp
  rw [this]
  exact Heap.get?_push_size _ rfl
theorem repl_toList (n : Nat) (v : Value) : (List.foldl (fun x1 x2 => x1 ++ x2) (#[] : Array Value) (List.replicate n #[v])) = (List.replicate n v).toArray := by
  have : ∀ (n : Nat) (acc : Array Value), (List.foldl (fun x1 x2 => x1 ++ x2) acc (List.replicate n #[v])) = acc ++ (List.replicate n v).toArray := by
    intro n
    induction n with
    | zero => intro acc; simp
    | succ n ih => intro acc; rw [List.replicate_succ, List.foldl_cons, ih, List.replicate_succ]; apply Array.toList_inj.mp; simp
  simpa using this n #[]
theorem RdAll.repl {X : Addr → Prop} {h : Heap} {v : Value} {d : D} (r : Rd X h v d) : ∀ n, RdAll X h (List.replicate n v) (List.replicate n d)
  | 0 => .nil
  | n + 1 => by rw [List.replicate_succ, List.replicate_succ]; exact .cons r (RdAll.repl r n)
theorem BinOk.mulL {d : D} {k : Int} (h0 : 0 ≤ k) (h1 : k ≤ 2 ^ 20) : BinOk c .Mult (.list [d]) (.int k) (.list (List.replicate k.toNat d)) := fun X s va vb _ xo ra rb => by
  obtain ⟨l, vs, n, rfl, _, e1, r1⟩ := ra.listInv
  obtain ⟨t, rfl⟩ := rb.intInv
  obtain ⟨v, us, e, r, r'⟩ := RdAll.consInv r1
  have := r'.nilInv
  subst this
  have ev : vs = #[v] := by rw [← Array.toArray_toList (xs := vs), e]
  subst ev
  refine wpAny_binaryOp_repeat_ref (T := "list") (U := "int") (by decide) ⟨_, e1, rfl⟩ (fun s' => typeIs_int s' k t) noFill_list_mul F.fills_int_mul F.slot_int_rmul repeat_list F.slot_int_index.lookup
    (call_meets F.slot_int_rmul (typeIs_int s k t) F.entry_int_rmul (F.args_int_rmul_2 _ _) (int___rmul___int_list k t l #[v] n)
      ⟨e1, rfl, ⟨_, e1, rfl⟩, call_meets F.slot_list_mul ⟨_, e1, rfl⟩ F.entry_list_mul (F.args_list_mul_2 _ _)
        (AutoListH.list___mul___list_int_3 l #[v] n k t (by simp [Builtin.List.listFitsIndex]; omega) (by simp; omega) (by simp [Builtin.List.listTooLong, sizeLine]; omega)) ⟨e1, ?_⟩⟩)
  refine ⟨.push, ?_⟩
  refine RdAll.list (vs := List.replicate k.toNat v) (n := 0) xo.fresh ?_ ((RdAll.repl r k.toNat).mono fun b o _ q => Heap.get?_push_of_some _ q)
  rw [← repl_toList]
  exact Heap.get?_push_size _ rfl

/- texts -/
def strRep (x : Str) (n : Nat) : Str := ⟨(List.replicate n x.cps).foldl (· ++ ·) #[]⟩
theorem length_str_empty (x : Str) (h : (x.length == 0) = true) : x = Str.empty := by
  have : x.cps.size = 0 := by simpa [Str.length] using h
  exact Str.ext' (by simp [Str.empty]; exact Array.eq_empty_of_size_eq_zero this)
theorem BinOk.addS {x y : Str} (hz : x.length + y.length ≤ sizeLine) : BinOk c .Add (.str x) (.str y) (.str (x ++ y)) := fun X s va vb _ xo ra rb => by
  obtain ⟨t, rfl⟩ := ra.strInv; obtain ⟨u, rfl⟩ := rb.strInv
  refine PySem.P.add_str ?_
  split
  · rename_i h
    rw [length_str_empty x h, Str.empty_append]
    exact ⟨.refl s, .str y u⟩
  · split
    · rename_i h
      rw [length_str_empty y h, Str.append_empty]
      exact ⟨.refl s, .str x t⟩
    · exact ⟨by rw [Str.length_append]; exact hz, .same, .str _ _⟩

theorem strRep_eq (x : Str) (n : Int) : (if n < 1 then Made.str Str.empty else if (n == 1 || x.length == 0) = true then Made.val (.str x 0) else Made.str ⟨(List.replicate n.toNat x.cps).foldl (· ++ ·) #[]⟩) = (if n < 1 then Made.str (strRep x n.toNat) else if (n == 1 || x.length == 0) = true then Made.val (.str x 0) else Made.str (strRep x n.toNat)) := by
  split
  · rename_i h
    have : n.toNat = 0 := by omega
    rw [this]; rfl
  · rfl
theorem strRep_one (x : Str) : strRep x 1 = x := by unfold strRep; exact Str.ext' (by simp)
theorem strRep_nil (x : Str) (h : (x.length == 0) = true) (n : Nat) : strRep x n = x := by
  rw [length_str_empty x h]
  unfold strRep
  refine Str.ext' ?_
  have : ∀ n, (List.foldl (fun x1 x2 => x1 ++ x2) (#[] : Array Nat) (List.replicate n #[])) = #[] := by
    intro n
    induction n with
    | zero => rfl
    | succ n ih => rw [List.replicate_succ, List.foldl_cons]; simpa using ih
  simpa [Str.empty] using this n
theorem BinOk.mulS {x : Str} {n : Int} (h0 : 0 ≤ n) (h1 : n < 2 ^ 20) (hx : x.length ≤ 1) (hz : (strRep x n.toNat).length ≤ sizeLine) : BinOk c .Mult (.str x) (.int n) (.str (strRep x n.toNat)) := fun X s va vb _ xo ra rb => by
  obtain ⟨t, rfl⟩ := ra.strInv; obtain ⟨u, rfl⟩ := rb.intInv
  have hlo : ¬ n < -(2 ^ 63 : Int) := by omega
  have hhi : ¬ n ≥ 2 ^ 63 := by omega
  refine PySem.P.mul_str (by rw [decide_eq_false hlo, decide_eq_false hhi]; rfl) (fun a b => ?_) (fun a b => ?_) ?_
  · have hn : 1 ≤ n := by omega
    have : n ≤ 2 ^ 20 := by omega
    have h3 : (1 : Int) ≤ (2 ^ 63 - 1) / n := by
      rw [Int.le_ediv_iff_mul_le (by omega)]; omega
    omega
  · unfold Builtin.Str.tooLong
    refine decide_eq_false ?_
    rw [PySem.sizeLine_eq]
    have : x.length * n.toNat ≤ 1 * n.toNat := Nat.mul_le_mul_right _ hx
    omega
  · split
    · rename_i h
      have e : strRep x n.toNat = Str.empty := by
        have : n.toNat = 0 := by omega
        rw [this]; rfl
      rw [e]
      exact ⟨by decide, .same, .str _ _⟩
    · split
      · rename_i h1 h2
        have e : strRep x n.toNat = x := by
          rcases (Bool.or_eq_true _ _).mp h2 with q | q
          · have : n = 1 := by simpa using q
            subst this
            exact strRep_one x
          · exact strRep_nil x q _
        rw [e]
        exact ⟨.refl s, .str _ _⟩
      · exact ⟨hz, .same, .str _ _⟩

/- slices -/
def slD (ds : List D) (lo hi st : Option Int) : List D :=
  (sliceRange (sliceBounds lo hi st ds.length).1 (sliceBounds lo hi st ds.length).2.1 (sliceBounds lo hi st ds.length).2.2).filterMap (ds[·]?)
theorem RdAll.pick {X : Addr → Prop} {h : Heap} {vs : List Value} {ds : List D} (r : RdAll X h vs ds) : ∀ is : List Nat, RdAll X h (is.filterMap (vs[·]?)) (is.filterMap (ds[·]?))
  | [] => .nil
  | i :: is => by
    by_cases hi : i < vs.length
    · have hi' : i < ds.length := r.1 ▸ hi
      rw [List.filterMap_cons, List.filterMap_cons, List.getElem?_eq_getElem hi, List.getElem?_eq_getElem hi']
      exact .cons (r.2 i _ _ (List.getElem?_eq_getElem hi) (List.getElem?_eq_getElem hi')) (RdAll.pick r is)
    · have hi' : ¬ i < ds.length := r.1 ▸ hi
      rw [List.filterMap_cons, List.filterMap_cons, List.getElem?_eq_none (Nat.le_of_not_lt hi), List.getElem?_eq_none (Nat.le_of_not_lt hi')]
      exact RdAll.pick r is
def EvP (c : Cx) (sc : Scope) (ρ : Str → Option D) (x : Option Expr) (k : Option Int) : Prop :=
  ∀ (X : Addr → Prop) (env : Env) (s : Shared), env.scope = sc → c.G s.heap → EnvOk X env s.heap ρ → wpAny (model c.prog c.w) c.A (evalPart x env) (fun v s' => Gw noX s s' ∧ IsPart v k) noE s
theorem EvP.none : EvP c sc ρ Option.none Option.none := fun X env s _ _ _ => by rw [evalPart_none]; exact wpAny_pure ⟨.refl s, .none⟩
theorem EvP.some {e : Expr} {k : Int} (h : Ev c sc ρ e (.int k)) : EvP c sc ρ (Option.some e) (Option.some k) := fun X env s hs hG eo => by
  rw [evalPart_some]
  refine wp_up (h X env s hs hG eo) fun v s₁ h₁ => ⟨h₁.1, ?_⟩
  obtain ⟨t, rfl⟩ := h₁.2.intInv
  exact .int k t
theorem Ev.slice (KG : Known c.G) {a : Expr} {lo hi st : Option Expr} {ds : List D} {l u k : Option Int} {p pos : Pos} (ha : Ev c sc ρ a (.list ds)) (hlo : EvP c sc ρ lo l) (hhi : EvP c sc ρ hi u) (hst : EvP c sc ρ st k) (h0 : k ≠ Option.some 0) (hz : ds.length ≤ sizeLine) :
    Ev c sc ρ (.Subscript a (.Slice lo hi st p) pos) (.list (slD ds l u k)) := fun X env s hs hG eo => by
  refine Subscript_ (wp_up (ha X env s hs hG eo) fun va s₁ h₁ => ?_)
  have hG₁ := KG.keeps _ _ hG h₁.1.kp
  have eo₁ := eo.gw KG h₁.1 hG
  refine wpAny_Slice (wp_up (hlo X env s₁ hs hG₁ eo₁) fun vl s₂ h₂ => ?_)
  have hG₂ := KG.keeps _ _ hG₁ h₂.1.kp
  have eo₂ := eo₁.gw KG h₂.1 hG₁
  refine wp_up (hhi X env s₂ hs hG₂ eo₂) fun vu s₃ h₃ => ?_
  have hG₃ := KG.keeps _ _ hG₂ h₃.1.kp
  have eo₃ := eo₂.gw KG h₃.1 hG₂
  refine wp_up (hst X env s₃ hs hG₃ eo₃) fun vk s₄ h₄ => ?_
  have eo₄ := eo₃.gw KG h₄.1 hG₃
  have r := ((h₁.2.gw eo.xt h₂.1.none).gw eo.xt h₃.1.none).gw eo.xt h₄.1.none
  have g := ((h₁.1.trans h₂.1).trans h₃.1).trans h₄.1
  have r' : Rd X (s₄.heap.push { cls := .type "slice", data := .fields #[vl, vu, vk] }) va (.list ds) := r.mono fun b o _ q => Heap.get?_push_of_some _ q
  obtain ⟨ops, ho⟩ := subs_of (.Slice lo hi st p) va (.ref s₄.heap.objs.size)
  obtain ⟨al, vs, n, rfl, _, e1, ra⟩ := r'.listInv
  have hzv : vs.size = ds.length := by have := ra.1; simpa using this
  refine tail_any (T := "list") ⟨_, e1, rfl⟩ slot_list_getitem.lookup ?_ ho
  refine wpAny_getItem_list_slice ⟨_, e1, rfl, n, rfl⟩ (Heap.IsSliceOf.new ..) h₂.2 h₃.2 h₄.2 h0 ⟨(g.trans .push).trans .push, ?_⟩ (hzv ▸ hz)
  have xo : Xok X (s₄.heap.push { cls := .type "slice", data := .fields #[vl, vu, vk] }) := ⟨eo.xt, fun a ha => let ⟨o, e⟩ := eo₄.al a ha; ⟨o, Heap.get?_push_of_some _ e⟩⟩
  refine RdAll.list (vs := (sliceRange (sliceBounds l u k vs.size).1 (sliceBounds l u k vs.size).2.1 (sliceBounds l u k vs.size).2.2).filterMap (vs.toList[·]?)) (n := 0) xo.fresh ?_ ?_
  · have : slicePick vs l u k = ((sliceRange (sliceBounds l u k vs.size).1 (sliceBounds l u k vs.size).2.1 (sliceBounds l u k vs.size).2.2).filterMap (vs.toList[·]?)).toArray := by
      unfold slicePick; simp
    rw [← this]
    exact Heap.get?_push_size _ rfl
  · rw [hzv]
    exact ((ra.pick _).mono fun b o _ q => Heap.get?_push_of_some _ q)
theorem Ev.sliceSl (KG : Known c.G) {a : Expr} {lo hi st : Option Expr} {ns : List Int} {l u k : Option Int} {p pos : Pos} (ha : Ev c sc ρ a (.sl ns)) (hlo : EvP c sc ρ lo l) (hhi : EvP c sc ρ hi u) (hst : EvP c sc ρ st k) (h0 : k ≠ Option.some 0) (hz : ns.length ≤ sizeLine) :
    Ev c sc ρ (.Subscript a (.Slice lo hi st p) pos) (.list (slD (ns.map .int) l u k)) := fun X env s hs hG eo => by
  refine Subscript_ (wp_up (ha X env s hs hG eo) fun va s₁ h₁ => ?_)
  have hG₁ := KG.keeps _ _ hG h₁.1.kp
  have eo₁ := eo.gw KG h₁.1 hG
  refine wpAny_Slice (wp_up (hlo X env s₁ hs hG₁ eo₁) fun vl s₂ h₂ => ?_)
  have hG₂ := KG.keeps _ _ hG₁ h₂.1.kp
  have eo₂ := eo₁.gw KG h₂.1 hG₁
  refine wp_up (hhi X env s₂ hs hG₂ eo₂) fun vu s₃ h₃ => ?_
  have hG₃ := KG.keeps _ _ hG₂ h₃.1.kp
  have eo₃ := eo₂.gw KG h₃.1 hG₂
  refine wp_up (hst X env s₃ hs hG₃ eo₃) fun vk s₄ h₄ => ?_
  have eo₄ := eo₃.gw KG h₄.1 hG₃
  have r := ((h₁.2.gw eo.xt h₂.1.none).gw eo.xt h₃.1.none).gw eo.xt h₄.1.none
  have g := ((h₁.1.trans h₂.1).trans h₃.1).trans h₄.1
  have r' : Rd X (s₄.heap.push { cls := .type "slice", data := .fields #[vl, vu, vk] }) va (.sl ns) := r.mono fun b o _ q => Heap.get?_push_of_some _ q
  obtain ⟨ops, ho⟩ := subs_of (.Slice lo hi st p) va (.ref s₄.heap.objs.size)
  obtain ⟨al, ol, vs, n, rfl, _, e1, e2, e3, hI⟩ := r'.slInv
  have ra : RdAll X (s₄.heap.push { cls := .type "slice", data := .fields #[vl, vu, vk] }) vs.toList (ns.map .int) := RdAll.ofInts hI
  have hzv : vs.size = (ns.map D.int).length := by have := ra.1; simpa using this
  have hzn : (ns.map D.int).length ≤ sizeLine := by rw [List.length_map]; exact hz
  refine tail_any (T := "list") ⟨_, e1, e2⟩ slot_list_getitem.lookup ?_ ho
  refine wpAny_getItem_list_slice ⟨_, e1, e2, n, e3⟩ (Heap.IsSliceOf.new ..) h₂.2 h₃.2 h₄.2 h0 ⟨(g.trans .push).trans .push, ?_⟩ (hzv ▸ hzn)
  have xo : Xok X (s₄.heap.push { cls := .type "slice", data := .fields #[vl, vu, vk] }) := ⟨eo.xt, fun a ha => let ⟨o, e⟩ := eo₄.al a ha; ⟨o, Heap.get?_push_of_some _ e⟩⟩
  refine RdAll.list (vs := (sliceRange (sliceBounds l u k vs.size).1 (sliceBounds l u k vs.size).2.1 (sliceBounds l u k vs.size).2.2).filterMap (vs.toList[·]?)) (n := 0) xo.fresh ?_ ?_
  · have : slicePick vs l u k = ((sliceRange (sliceBounds l u k vs.size).1 (sliceBounds l u k vs.size).2.1 (sliceBounds l u k vs.size).2.2).filterMap (vs.toList[·]?)).toArray := by
      unfold slicePick; simp
    rw [← this]
    exact Heap.get?_push_size _ rfl
  · rw [hzv]
    exact ((ra.pick _).mono fun b o _ q => Heap.get?_push_of_some _ q)
theorem pick_range (ds : List D) : ∀ k : Nat, (List.range k).filterMap (ds[·]?) = ds.take k
  | 0 => by simp
  | k + 1 => by
    rw [List.range_succ, List.filterMap_append, pick_range ds k, List.take_add_one]
    cases h : ds[k]? <;> simp [h]
theorem slD_take (ds : List D) (k : Nat) : slD ds Option.none (Option.some (k : Int)) Option.none = ds.take k := by
  unfold slD
  have hb : sliceBounds Option.none (Option.some (k : Int)) Option.none ds.length = (((0 : Nat) : Int), ((min k ds.length : Nat) : Int), 1) := by
    unfold sliceBounds
    simp only [Option.getD_none]
    refine Prod.ext ?_ (Prod.ext ?_ rfl)
    · simp
    · show (if (1 : Int) > 0 then max 0 (min (if (k : Int) < 0 then (k : Int) + ds.length else k) (ds.length : Int)) else (0 : Int)) = _
      rw [if_pos (by decide), if_neg (by omega)]
      show max 0 (min (k : Int) (ds.length : Int)) = ((min k ds.length : Nat) : Int)
      omega
  rw [hb]
  simp only []
  rw [sliceRange_one, Nat.sub_zero]
  have : (List.range (min k ds.length)).map (0 + ·) = List.range (min k ds.length) := by simp
  rw [this, pick_range]
  by_cases h : k ≤ ds.length
  · rw [Nat.min_eq_left h]
  · rw [Nat.min_eq_right (by omega), List.take_of_length_le (Nat.le_refl _), List.take_of_length_le (by omega)]
end
end Mine
namespace Mine
open PySem PySem.Spec PySem.Calls PyProof.Rows PySem.W

/-- a global name's value, in every heap of ours -/
def GlobIs (c : Cx) (f : Str) (fv : Value) : Prop :=
  ∀ h, c.G h → (∃ mg, h.Ns mainGlobals mg ∧ mg f = some fv) ∨ (∃ mg mb, h.Ns mainGlobals mg ∧ mg f = none ∧ h.Ns builtinsNs mb ∧ mb f = some fv)
theorem GlobIs.load {c : Cx} {f : Str} {fv : Value} (g : GlobIs c f fv) {env : Env} {s : Shared} {A : Around} {pos : Pos} {Q : Value → Shared → Prop} {E : Value → Shared → Prop} (hG : c.G s.heap) (hk : env.scope.kind = .function) (hg : env.globals = mainGlobals) (hb : env.builtins = builtinsNs)
    (hx : env.kindOf f = some .globalImplicit) (hd : (f == ("__debug__" : Str)) = false) (h : Q fv s) : wpAny (model c.prog c.w) A (eval (.Name f pos) env) Q E s := by
  refine Name_function_global hk hx ?_ hd
  rcases g _ hG with ⟨mg, h1, h2⟩ | ⟨mg, mb, h1, h2, h3, h4⟩
  · exact loadGlobal_global (hg ▸ h1) h2 h
  · exact loadGlobal_builtin (hg ▸ h1) h2 (hb ▸ h3) h4 h

/-- what may be called by callWith: of these kinds -/
inductive Kept (c : Cx) : Value → Prop
  | b (id : String) : Kept c (.builtin id)
  | t (T : String) : Kept c (.type T)
  | k (f : Value) : keepIn c.K f = true → Kept c f

def KIn (c : Cx) : Prop := ∀ h, c.G h → c.K.In h

section
variable {c : Cx} {sc : Scope} {ρ : Str → Option D}
theorem Kept.cw (KI : KIn c) {f : Value} (k : Kept c f) {A : Around} {env : Env} {pos : Pos} {first : List Value} {e : Expr} {rest : List Expr} {s : Shared} {Q : Value → Shared → Prop} {E : Value → Shared → Prop} (hG : c.G s.heap)
    (h : wpAny (model c.prog c.w) A (spliced (backTo pos (starEach (e :: rest) env))) (fun vs s₁ => c.G s₁.heap ∧ wpAny (model c.prog c.w) A (call f (first ++ vs)) Q E s₁) E s)
    (he : starEach (e :: rest) env = (false, eval e env) :: starEach rest env) (hplain : (backTo pos (starEach rest env)).any (·.1) = false) :
    wpAny (model c.prog c.w) A (callWith pos f first (backTo pos (starEach (e :: rest) env)) []) Q E s := by
  cases k with
  | b id =>
    refine callWith_builtin (by rw [he]; show (false || (backTo pos (starEach rest env)).any (·.1)) = false; rw [hplain]; rfl) ?_
    rw [he] at h ⊢
    exact evalArgs_plain (wpAny_mono h (fun vs s₁ h₁ => h₁.2) fun _ _ x => x)
  | t T =>
    refine PyProof.Rows.callWith_type (by rw [he]; show (false || (backTo pos (starEach rest env)).any (·.1)) = false; rw [hplain]; rfl) ?_
    rw [he] at h ⊢
    exact evalArgs_plain (wpAny_mono h (fun vs s₁ h₁ => h₁.2) fun _ _ x => x)
  | k _ hk => exact callWith_K (KI _ hG) hk (wpAny_mono h (fun vs s₁ h₁ => ⟨KI _ h₁.1, h₁.2⟩) fun _ _ x => x) he hplain

/-- a call by name, of data, to a datum -/
def CallOk (c : Cx) (f : Str) (ds : List D) (d : D) : Prop := ∃ fv, GlobIs c f fv ∧ Kept c fv ∧
  ∀ (X : Addr → Prop) (s : Shared) (vs : List Value), c.G s.heap → Xok X s.heap → RdAll X s.heap vs ds → Gives c X s (call fv vs) d
theorem Ev.callF (KG : Known c.G) (KI : KIn c) {f : Str} {e : Expr} {rest : List Expr} {ds : List D} {d : D} {fpos pos : Pos} (hk : sc.names.lookup f = some .globalImplicit) (hf : CallOk c f ds d) (h : Evs c sc ρ (e :: rest) ds)
    (he : ∀ env, starEach (e :: rest) env = (false, eval e env) :: starEach rest env := by intro _; rfl) (hplain : ∀ env, (backTo pos (starEach rest env)).any (·.1) = false := by intro _; rfl) (hd : (f == ("__debug__" : Str)) = false := by decide) :
    Ev c sc ρ (.Call (.Name f fpos) (e :: rest) [] pos) d := fun X env s hs hG eo => by
  obtain ⟨fv, g, k, hc⟩ := hf
  refine wpAny_Call_ofName (g.load hG eo.kind eo.glob eo.blt (by unfold Env.kindOf; rw [hs]; exact hk) hd ?_)
  refine k.cw KI hG (wp_up (h X env pos s hs hG eo) fun vs s₁ h₁ => ?_) (he env) (hplain env)
  have hG₁ := KG.keeps _ _ hG h₁.1.kp
  refine ⟨hG₁, ?_⟩
  rw [List.nil_append]
  exact wp_up (hc X s₁ vs hG₁ (eo.xok.gw KG hG h₁.1) h₁.2) fun v s₂ h₂ => ⟨h₁.1.trans h₂.1, h₂.2⟩

/-- a built-in's method of a list or a text -/
theorem Ev.meth (KG : Known c.G) {o e : Expr} {rest : List Expr} {name : Str} {T id : String} {apos pos : Pos} {dv d : D} {ds : List D} (ho : Ev c sc ρ o dv) (h : Evs c sc ρ (e :: rest) ds)
    (pa : PlainAttrs T) (slot : Slot T name id) (hty : typeOf (.builtin id) = pure (.type "method_descriptor"))
    (hT : ∀ X (s : Shared) v, Rd X s.heap v dv → s.TypeIs v T ∧ (∀ a, v = .ref a → ∃ ob, s.heap.get? a = some ob ∧ ob.dict = none))
    (hc : ∀ X (s : Shared) v vs, c.G s.heap → Xok X s.heap → Rd X s.heap v dv → RdAll X s.heap vs ds → Gives c X s (call (.builtin id) (v :: vs)) d)
    (hbase : ∀ env, attributeBase o name env (eval o env) = eval o env := by intro _; rfl) (hline : (apos.endLine == pos.line) = true := by rfl)
    (hfew : ∀ env, ((backTo pos (starEach (e :: rest) env)).all (fun x => !x.1) && (backToKw pos (keywordEach [] env)).all (fun x => x.1.isSome) && decide ((e :: rest).length + ([] : List Keyword).length + (if ([] : List Keyword).isEmpty then 0 else 1) < 30)) = true := by intro _; rfl)
    (he : ∀ env, starEach (e :: rest) env = (false, eval e env) :: starEach rest env := by intro _; rfl) (hplain : ∀ env, (backTo pos (starEach rest env)).any (·.1) = false := by intro _; rfl) :
    Ev c sc ρ (.Call (.Attribute o name apos) (e :: rest) [] pos) d := fun X env s hs hG eo => by
  refine wpAny_Call_method (hbase env) (hfew env) hline pa slot hty (wp_up (ho X env s hs hG eo) fun ov s₁ h₁ => ?_)
  obtain ⟨hT1, hT2⟩ := hT _ _ _ h₁.2
  have hG₁ := KG.keeps _ _ hG h₁.1.kp
  have eo₁ := eo.gw KG h₁.1 hG
  refine ⟨hT1, hT2, ?_⟩
  refine callWith_builtin (by rw [he]; show (false || (backTo pos (starEach rest env)).any (·.1)) = false; rw [hplain]; rfl) ?_
  have h' := h X env pos s₁ hs hG₁ eo₁
  rw [he] at h' ⊢
  refine evalArgs_plain (wp_up h' fun vs s₂ h₂ => ?_)
  exact wp_up (hc X s₂ ov vs (KG.keeps _ _ hG₁ h₂.1.kp) (eo₁.xok.gw KG hG₁ h₂.1) (h₁.2.gw eo.xt h₂.1.none) h₂.2) fun v s₃ h₃ => ⟨(h₁.1.trans h₂.1).trans h₃.1, h₃.2⟩

theorem Ev.count (KG : Known c.G) {o e : Expr} {apos pos : Pos} {ns : List Int} {k : Int} (ho : Ev c sc ρ o (.list (ns.map .int))) (he : Ev c sc ρ e (.int k))
    (hbase : ∀ env, attributeBase o "count" env (eval o env) = eval o env := by intro _; rfl) (hline : (apos.endLine == pos.line) = true := by rfl)
    (hst : ∀ env, starEach [e] env = (false, eval e env) :: starEach [] env := by intro _; rfl)
    (hfew : ∀ env, ((backTo pos (starEach [e] env)).all (fun x => !x.1) && (backToKw pos (keywordEach [] env)).all (fun x => x.1.isSome) && decide ([e].length + ([] : List Keyword).length + (if ([] : List Keyword).isEmpty then 0 else 1) < 30)) = true := by intro _; rfl) :
    Ev c sc ρ (.Call (.Attribute o "count" apos) [e] [] pos) (.int (ns.count k : Nat)) :=
  .meth KG ho (.cons KG he .nil hst) PySem.F.plainAttrs_list PySem.F.slot_list_count PySem.F.type_list_count
    (fun X s v r => by
      obtain ⟨a, vs, n, rfl, _, e1, _⟩ := r.listInv
      exact ⟨⟨_, e1, rfl⟩, fun b hb => by cases hb; exact ⟨_, e1, rfl⟩⟩)
    (fun X s v vs _ _ r rs => by
      obtain ⟨a, us, n, rfl, _, e1, ra⟩ := r.listInv
      obtain ⟨w, ws, rfl, r1, r2⟩ := rs.consInv
      rw [r2.nilInv]
      obtain ⟨t, rfl⟩ := r1.intInv
      exact count_list_ints (vs := us.toList) ⟨_, e1, rfl, n, by simp⟩ ra.ints gint) hbase hline hfew hst

theorem preSum_eq : ∀ (ns : List Int) (k : Nat), preSum (fun i => ns.getD i 0) k = (ns.take k).sum
  | ns, 0 => by simp [preSum]
  | ns, k + 1 => by
    rw [preSum, preSum_eq ns k, List.take_add_one]
    cases h : ns[k]? with
    | none => simp [List.getD, h]
    | some x => simp [List.getD, h, List.sum_append]
theorem CallOk.sum (hl : Lim c) (g : GlobIs c "sum" (.builtin "sum")) {ns : List Int} : CallOk c "sum" [.list (ns.map .int)] (.int ns.sum) :=
  ⟨_, g, .b _, fun X s vs hG xo r => by
    obtain ⟨v, us, rfl, r1, r2⟩ := r.consInv
    rw [r2.nilInv]
    obtain ⟨l, vs, n, rfl, _, e1, ra⟩ := r1.listInv
    have hsz : vs.size = ns.length := by have := ra.1; simpa using this
    have hI : s.heap.IsList l vs := ⟨_, e1, rfl, n, rfl⟩
    refine call_sum_walkG (wpAny_pyIter_list hI ?_)
    have hne : l ≠ s.heap.objs.size := Nat.ne_of_lt (Heap.lt_size e1)
    refine ⟨s.heap.objs.size, _, _, vs.size, _, _, fun i => ns.getD i 0, rfl, Walks.list (A := c.A.in1) hl.hand s.heap.objs.size l hne vs, ⟨⟨_, Heap.get?_push_size _ rfl, rfl, rfl⟩, hI.push _⟩, ?_, ?_, fun h' tk t' hk => ?_⟩
    · intro b hb
      show b < (s.heap.push _).objs.size
      rw [Heap.size_push]
      rcases List.mem_cons.mp hb with rfl | hb
      · exact Nat.lt_succ_self _
      · rcases List.mem_cons.mp hb with rfl | hb
        · exact Nat.lt_succ_of_lt (Heap.lt_size e1)
        · cases hb
    · intro i v hv
      have hv' : vs.toList[i]? = some v := by simpa using hv
      obtain ⟨hi, _⟩ := List.getElem?_eq_some_iff.mp hv'
      have hi' : i < ns.length := by rw [← hsz]; simpa using hi
      obtain ⟨t, rfl⟩ := (ra.2 i v (.int ns[i]) hv' (by simp [hi'])).intInv
      refine ⟨t, ?_⟩
      simp [List.getD, hi']
    · have : preSum (fun i => ns.getD i 0) vs.size = ns.sum := by rw [preSum_eq, hsz, List.take_of_length_le (Nat.le_refl _)]
      rw [this]
      refine ⟨.every fun b o e => hk b o (fun hm => ?_) (Heap.get?_push_of_some _ e), .int _ _⟩
      rcases List.mem_cons.mp hm with rfl | hm
      · exact Nat.lt_irrefl _ (Heap.lt_size e)
      · cases hm⟩
theorem CallOk.len (g : GlobIs c "len" (.builtin "len")) {ds : List D} (hz : ds.length < 2 ^ 63) : CallOk c "len" [.list ds] (.int ds.length) :=
  ⟨_, g, .b _, fun X s vs hG xo r => by
    obtain ⟨v, us, rfl, r1, r2⟩ := r.consInv
    rw [r2.nilInv]
    obtain ⟨l, vs, n, rfl, _, e1, ra⟩ := r1.listInv
    have hsz : vs.size = ds.length := by have := ra.1; simpa using this
    refine PyProof.Rows.len_list ⟨_, e1, rfl, n, rfl⟩ (by rw [hsz]; exact_mod_cast hz) ⟨.same, ?_⟩
    rw [hsz]; exact .int _ _⟩
theorem CallOk.max (hl : Lim c) (g : GlobIs c "max" (.builtin "max")) {a b : Int} : CallOk c "max" [.int a, .int b] (.int (if b > a then b else a)) :=
  ⟨_, g, .b _, fun X s vs hG xo r => by
    obtain ⟨v, us, rfl, r1, r2⟩ := r.consInv
    obtain ⟨v2, us2, rfl, r3, r4⟩ := r2.consInv
    rw [r4.nilInv]
    obtain ⟨t, rfl⟩ := r1.intInv
    obtain ⟨u, rfl⟩ := r3.intInv
    refine max_two_ints hl.hand fun h' tk hk => ⟨.every hk, ?_⟩
    split <;> exact .int _ _⟩
theorem CallOk.tupleL (g : GlobIs c "tuple" (.type "tuple")) {ds : List D} (hz : ds.length ≤ sizeLine) : CallOk c "tuple" [.list ds] (.tup ds) :=
  ⟨_, g, .t _, fun X s vs hG xo r => by
    obtain ⟨v, us, rfl, r1, r2⟩ := r.consInv
    rw [r2.nilInv]
    obtain ⟨l, vs, n, rfl, hx, e1, ra⟩ := r1.listInv
    have hsz : vs.size = ds.length := by have := ra.1; simpa using this
    refine call_tuple_list ⟨_, e1, rfl, n, rfl⟩ (fun h' hk => ⟨.heap (.every fun b o e => Heap.get?_push_of_some _ (hk b o e)), ?_⟩) (hsz ▸ hz)
    have xf : ¬ X h'.objs.size := fun q => by
      obtain ⟨o, ho⟩ := xo.al _ q
      exact absurd (Heap.lt_size (hk _ _ ho)) (Nat.lt_irrefl _)
    refine RdAll.tup (vs := vs.toList) (n := 0) xf (Heap.get?_push_size _ rfl) rfl (by simp) (ra.mono fun b o _ q => Heap.get?_push_of_some _ (hk b o q))⟩
theorem CallOk.listT (g : GlobIs c "list" (.type "list")) {ds : List D} (hz : ds.length ≤ sizeLine) : CallOk c "list" [.tup ds] (.list ds) :=
  ⟨_, g, .t _, fun X s vs hG xo r => by
    obtain ⟨v, us, rfl, r1, r2⟩ := r.consInv
    rw [r2.nilInv]
    obtain ⟨l, o, vs, n, rfl, hx, e1, e2, e3, ra⟩ := r1.tupInv
    have hsz : vs.size = ds.length := by have := ra.1; simpa using this
    refine call_list_seq l (.inr rfl) e1 e2 e3 (fun h' c' hk hn => ⟨.every hk, ?_⟩) (hsz ▸ hz)
    exact RdAll.list (vs := vs.toList) (n := c') xo.fresh (by simpa using hn) (ra.mono fun b o _ q => hk b o q)⟩

/-- ''.join of texts -/
theorem strsAre_of {X : Addr → Prop} {h : Heap} : ∀ {xs : List Str} {vs : List Value}, RdAll X h vs (xs.map .str) → StrsAre vs xs
  | [], vs, r => by rw [r.nilInv]; exact .nil
  | x :: xs, vs, r => by
    obtain ⟨v, us, rfl, r1, r2⟩ := RdAll.consInv r
    obtain ⟨t, rfl⟩ := r1.strInv
    exact .cons x t (strsAre_of r2)
theorem Ev.join (KG : Known c.G) {o e : Expr} {apos pos : Pos} {x : Str} {xs : List Str} (ho : Ev c sc ρ o (.str x)) (he : Ev c sc ρ e (.list (xs.map .str))) (hz : (xs.map (·.length)).sum + xs.length * x.length ≤ 16777216)
    (hbase : ∀ env, attributeBase o "join" env (eval o env) = eval o env := by intro _; rfl) (hline : (apos.endLine == pos.line) = true := by rfl)
    (hst : ∀ env, starEach [e] env = (false, eval e env) :: starEach [] env := by intro _; rfl)
    (hfew : ∀ env, ((backTo pos (starEach [e] env)).all (fun x => !x.1) && (backToKw pos (keywordEach [] env)).all (fun x => x.1.isSome) && decide ([e].length + ([] : List Keyword).length + (if ([] : List Keyword).isEmpty then 0 else 1) < 30)) = true := by intro _; rfl) :
    Ev c sc ρ (.Call (.Attribute o "join" apos) [e] [] pos) (.str (Txt.join x xs)) :=
  .meth KG ho (.cons KG he .nil hst) PySem.F.plainAttrs_str PySem.F.slot_str_join PySem.F.type_str_join
    (fun X s v r => by
      obtain ⟨t, rfl⟩ := r.strInv
      exact ⟨typeIs_str s x t, fun a ha => by cases ha⟩)
    (fun X s v vs _ _ r rs => by
      obtain ⟨t, rfl⟩ := r.strInv
      obtain ⟨w, ws, rfl, r1, r2⟩ := rs.consInv
      rw [r2.nilInv]
      obtain ⟨a, us, n, rfl, _, e1, ra⟩ := r1.listInv
      exact join_list ⟨_, e1, rfl, n, rfl⟩ (strsAre_of ra) hz fun t' k => ⟨.same, .str _ _⟩) hbase hline hfew hst
end
end Mine
namespace Mine
open PySem PySem.Spec PySem.Calls PyProof.Rows PySem.W

def AL (X : Addr → Prop) (h : Heap) : Prop := ∀ a, X a → ∃ o, h.get? a = some o

/-- an iterator at I: what it stands on (fp), what it turns (wr), and what is left (St) -/
structure It (c : Cx) (okT : Expr → Prop) (I : Addr) (fp wr : Addr → Prop) (St : (Addr → Prop) → List D → Heap → Prop) : Prop where
  sub : ∀ b, wr b → fp b
  frame : ∀ X ds h h', XT X → St X ds h → (∀ b o, (¬ X b ∨ fp b) → ¬ tb b → h.get? b = some o → h'.get? b = some o) → St X ds h'
  next : ∀ X d ds (s : Shared), (∀ b, wr b → X b) → XT X → AL X s.heap → St X (d :: ds) s.heap → wpAny (model c.prog c.w) c.A (pyNext (.ref I)) (fun r s' => ∃ v, r = some v ∧ Gw wr s s' ∧ Rd X s'.heap v d ∧
    ∀ tgt, okT tgt → wpAny (model c.prog c.w) c.A (letOwnedTupleGo tgt (.ref I) v) (fun _ s'' => Gw wr s' s'' ∧ St X ds s''.heap) noE s') noE s
  done : ∀ X (s : Shared), St X [] s.heap → wpAny (model c.prog c.w) c.A (pyNext (.ref I)) (fun r s' => r = none ∧ Gw wr s s') noE s
  self : ∀ X ds (s : Shared), St X ds s.heap → wpAny (model c.prog c.w) c.A (pyIter (.ref I)) (fun r s' => r = .ref I ∧ s' = s) noE s
  ex : ∀ X ds h, St X ds h → ∀ b, wr b → ∃ o, h.get? b = some o

def nameT (t : Expr) : Prop := ∃ x p, t = .Name x p
def tupT (t : Expr) : Prop := ∃ es k p, t = .Tuple es k p
def anyT (t : Expr) : Prop := nameT t ∨ tupT t

theorem drop_cons_inv {α : Type} {l r : List α} {a : α} {i : Nat} (h : a :: r = l.drop i) : i < l.length ∧ l[i]? = some a ∧ r = l.drop (i + 1) := by
  have hi : i < l.length := by
    refine Nat.lt_of_not_le fun hl => ?_
    rw [List.drop_of_length_le hl] at h; cases h
  rw [List.drop_eq_getElem_cons hi] at h
  injection h with h1 h2
  exact ⟨hi, by rw [List.getElem?_eq_getElem hi, h1], h2⟩

section
variable {c : Cx} {I : Addr} {fp wr : List Addr} {n : Nat} {P : Nat → Value → Prop} {St : Nat → Heap → Prop}

def wSt (ds : List D) (P : Nat → Value → Prop) (St : Nat → Heap → Prop) (X : Addr → Prop) (rem : List D) (h : Heap) : Prop :=
  ∃ i, St i h ∧ rem = ds.drop i ∧ i ≤ ds.length ∧ ∀ j v d, P j v → ds[j]? = some d → Rd X h v d
theorem It.walks (W : Walks c.prog c.w c.A I fp wr n P St) (ds : List D) (hn : ds.length = n) (htf : ∀ b ∈ fp, ¬ tb b) (hex : ∀ i h, St i h → ∀ b ∈ wr, ∃ o, h.get? b = some o) {okT : Expr → Prop}
    (hgo : ∀ tgt, okT tgt → ∀ i (s : Shared) v (Q : Unit → Shared → Prop), St i s.heap → Q () s → wpAny (model c.prog c.w) c.A (letOwnedTupleGo tgt (.ref I) v) Q noE s) : It c okT I (· ∈ fp) (· ∈ wr) (wSt ds P St) where
  sub := W.sub
  frame := fun X rem h h' xt ⟨i, st, e, hi, r⟩ k => ⟨i, W.frame _ _ _ st fun b hb o q => k b o (.inr hb) (htf b hb) q, e, hi, fun j v d a b => (r j v d a b).mono fun b o hx q => k b o (.inl hx) (fun z => hx (xt.tbs b z)) q⟩
  next := fun X d rem s hw xt al ⟨i, st, e, hi, r⟩ => by
    obtain ⟨hlt, hd, he⟩ := drop_cons_inv e
    refine W.item i s _ _ (hn ▸ hlt) st fun v h' tk hP st' hk => ?_
    have kx : ∀ b o, ¬ X b → s.heap.get? b = some o → h'.get? b = some o := fun b o hx q => hk b o (fun z => hx (hw b z)) q
    exact ⟨v, rfl, .heap (.all (fun b hb z => htf b (W.sub b z) hb) hk), (r i v d hP hd).mono kx, fun tgt ht => hgo tgt ht (i + 1) _ v _ st' ⟨.refl _, i + 1, st', he, hlt, fun j v d a b => (r j v d a b).mono kx⟩⟩
  done := fun X s ⟨i, st, e, hi, r⟩ => by
    have : i = n := by
      have := congrArg List.length e
      rw [List.length_nil, List.length_drop] at this
      omega
    subst this
    exact W.done s _ _ st fun h' tk hk => ⟨rfl, .heap (.all (fun b hb z => htf b (W.sub b z) hb) hk)⟩
  self := fun X rem s ⟨i, st, _⟩ => W.self i s _ _ st ⟨rfl, rfl⟩
  ex := fun X rem h ⟨i, st, _⟩ => hex i h st
theorem go_name {tgt : Expr} (ht : nameT tgt) {s : Shared} {v : Value} {Q : Unit → Shared → Prop} (h : Q () s) : wpAny (model c.prog c.w) c.A (letOwnedTupleGo tgt (.ref I) v) Q noE s := by
  obtain ⟨x, p, e⟩ := ht
  subst e; exact wpAny_pure h
theorem go_list {l : Addr} {items : Array Value} : ∀ tgt, anyT tgt → ∀ (i : Nat) (s : Shared) v (Q : Unit → Shared → Prop), (s.heap.IsListIter I l i ∧ s.heap.IsList l items) → Q () s → wpAny (model c.prog c.w) c.A (letOwnedTupleGo tgt (.ref I) v) Q noE s :=
  fun tgt ht i s v Q st h => by
    rcases ht with ⟨x, p, rfl⟩ | ⟨es, k, p, rfl⟩
    · exact wpAny_pure h
    · cases v with
      | ref T => exact wpAny_letOwnedTupleGo_listiter st.1 h
      | _ => exact wpAny_pure h

variable {Pt : Nat → Array Value → Prop} {Mid : Nat → Addr → Heap → Prop}
def tSt (ds : List D) (Pt : Nat → Array Value → Prop) (St : Nat → Heap → Prop) (X : Addr → Prop) (rem : List D) (h : Heap) : Prop :=
  ∃ i, St i h ∧ rem = ds.drop i ∧ i ≤ ds.length ∧ ∀ j vs d, Pt j vs → ds[j]? = some d → ∃ es, d = .tup es ∧ RdAll X h vs.toList es
theorem It.walksT (W : WalksT c.prog c.w c.A I fp wr n Pt St Mid) (ds : List D) (hn : ds.length = n) (htf : ∀ b ∈ fp, ¬ tb b) (hex : ∀ i h, St i h → ∀ b ∈ wr, ∃ o, h.get? b = some o) : It c tupT I (· ∈ fp) (· ∈ wr) (tSt ds Pt St) where
  sub := W.sub
  frame := fun X rem h h' xt ⟨i, st, e, hi, r⟩ k => ⟨i, W.frame _ _ _ st fun b hb o q => k b o (.inr hb) (htf b hb) q, e, hi, fun j v d a b => let ⟨es, e1, e2⟩ := r j v d a b; ⟨es, e1, e2.mono fun b o hx q => k b o (.inl hx) (fun z => hx (xt.tbs b z)) q⟩⟩
  next := fun X d rem s hw xt al ⟨i, st, e, hi, r⟩ => by
    obtain ⟨hlt, hd, he⟩ := drop_cons_inv e
    refine W.item i s _ _ (hn ▸ hlt) st fun T vals h' tk hP hT hTup mid hk => ?_
    have kx : ∀ b o, ¬ X b → s.heap.get? b = some o → h'.get? b = some o := fun b o hx q => hk b o (fun z => hx (hw b z)) q
    obtain ⟨es, e1, e2⟩ := r i vals d hP hd
    have hxT : ¬ X T := fun q => by
      obtain ⟨o, ho⟩ := al T q
      exact absurd (Heap.lt_size ho) (Nat.not_lt.mpr hT)
    obtain ⟨o, q1, q2, k2, q3⟩ := hTup
    refine ⟨.ref T, rfl, .heap (.all (fun b hb z => htf b (W.sub b z) hb) hk), ?_, fun tgt ht => ?_⟩
    · rw [e1]
      have r' := e2.mono kx
      exact .tup hxT q1 q2 q3 r'.1 r'.2
    · obtain ⟨es', k', p', rfl⟩ := ht
      refine W.go es' k' p' i T _ _ _ mid fun h'' st'' hk'' => ⟨.heap (.all (fun b hb z => htf b (W.sub b z) hb) hk''), i + 1, st'', he, hlt, fun j vs d a b => ?_⟩
      obtain ⟨es2, e3, e4⟩ := r j vs d a b
      exact ⟨es2, e3, (e4.mono kx).mono fun b o hx q => hk'' b o (fun z => hx (hw b z)) q⟩
  done := fun X s ⟨i, st, e, hi, r⟩ => by
    have : i = n := by
      have := congrArg List.length e
      rw [List.length_nil, List.length_drop] at this
      omega
    subst this
    exact W.done s _ _ st fun h' tk hk => ⟨rfl, .heap (.all (fun b hb z => htf b (W.sub b z) hb) hk)⟩
  self := fun X rem s ⟨i, st, _⟩ => W.self i s _ _ st ⟨rfl, rfl⟩
  ex := fun X rem h ⟨i, st, _⟩ => hex i h st
end

/-- an expression behind «in»: what it gives one by one -/
def EvIt (c : Cx) (sc : Scope) (ρ : Str → Option D) (okT : Expr → Prop) (e : Expr) (ds : List D) : Prop :=
  ∀ (X : Addr → Prop) (env : Env) (s : Shared), env.scope = sc → c.G s.heap → EnvOk X env s.heap ρ →
    wpAny (model c.prog c.w) c.A (eval e env) (fun x s₁ => wpAny (model c.prog c.w) c.A (pyIter x) (fun it s₂ => ∃ I fp wr St, it = .ref I ∧ Gw noX s s₂ ∧ It c okT I fp wr St ∧
      (∀ b, wr b → s.heap.get? b = none ∧ ¬ tb b ∧ low ≤ b) ∧ (∀ b, fp b → (∃ o, s₂.heap.get? b = some o) ∧ ¬ X b) ∧
      (∀ X', XT X' → (∀ a, X' a → X a ∨ wr a ∨ s₂.heap.get? a = none) → St X' ds s₂.heap)) noE s₁) noE s

section
variable {c : Cx} {sc : Scope} {ρ : Str → Option D}
theorem fresh_ntb (KG : Known c.G) {h : Heap} (hG : c.G h) {a : Addr} (ha : h.get? a = none) : ¬ tb a := fun q => by
  obtain ⟨ps, hp⟩ := KG.table _ hG a q
  rw [hp] at ha; cases ha
theorem size_none (h : Heap) {a : Addr} (ha : h.objs.size ≤ a) : h.get? a = none := by
  cases e : h.get? a with
  | none => rfl
  | some o => exact absurd (Heap.lt_size e) (Nat.not_lt.mpr ha)
theorem was_none {s s' : Shared} {X : Addr → Prop} (KG : Known c.G) (hG : c.G s.heap) (g : Gw noX s s') {a : Addr} (h : s'.heap.get? a = none) : s.heap.get? a = none := by
  cases e : s.heap.get? a with
  | none => rfl
  | some o =>
    by_cases ht : tb a
    · obtain ⟨ps, hp⟩ := KG.table _ (KG.keeps _ _ hG g.kp) a ht
      rw [hp] at h; cases h
    · rw [g.kp.keep a o (fun q => q) ht e] at h; cases h

theorem EvIt.list (KG : Known c.G) (hl : Lim c) {e : Expr} {ds : List D} (h : Ev c sc ρ e (.list ds)) : EvIt c sc ρ anyT e ds := fun X env s hs hG eo => by
  refine wp_up (h X env s hs hG eo) fun x s₁ h₁ => ?_
  obtain ⟨l, vs, n, rfl, hx, e1, ra⟩ := h₁.2.listInv
  have hI : s₁.heap.IsList l vs := ⟨_, e1, rfl, n, rfl⟩
  have hsz : vs.size = ds.length := by have := ra.1; simpa using this
  refine wpAny_pyIter_list hI ?_
  have hG₁ := KG.keeps _ _ hG h₁.1.kp
  have hnew : s₁.heap.get? s₁.heap.objs.size = none := size_none _ (Nat.le_refl _)
  have hne : l ≠ s₁.heap.objs.size := Nat.ne_of_lt (Heap.lt_size e1)
  have hnt : ¬ tb s₁.heap.objs.size := fresh_ntb KG hG₁ hnew
  refine ⟨_, _, _, _, rfl, h₁.1.trans .push, It.walks (Walks.list hl.hand s₁.heap.objs.size l hne vs) ds hsz.symm (fun b hb => ?_) (fun i h st b hb => let ⟨o, ho, _⟩ := st.1; ⟨o, (List.mem_singleton.mp hb) ▸ ho⟩) go_list, fun b hb => ?_, fun b hb => ?_, fun X' xt hX => ?_⟩
  · have : b = s₁.heap.objs.size ∨ b = l := by simpa using hb
    rcases this with rfl | rfl
    · exact hnt
    · exact fun q => hx (eo.xt.tbs _ q)
  · have : b = s₁.heap.objs.size := by simpa using hb
    exact ⟨was_none (X := X) KG hG h₁.1 (this ▸ hnew), this ▸ hnt, this ▸ KG.big _ hG₁⟩
  · have : b = s₁.heap.objs.size ∨ b = l := by simpa using hb
    rcases this with rfl | rfl
    · exact ⟨⟨_, Heap.get?_push_size _ rfl⟩, (eo.xok.gw KG hG h₁.1).fresh⟩
    · exact ⟨⟨_, Heap.get?_push_of_some _ e1⟩, hx⟩
  · refine ⟨0, ⟨⟨_, Heap.get?_push_size _ rfl, rfl, rfl⟩, hI.push _⟩, rfl, Nat.zero_le _, fun j v d a b => ?_⟩
    have r := ra.2 j v d (by simpa using a) b
    have r2 : Rd X' s₁.heap v d := r.more fun a ha => by
      rcases hX a ha with q | q | q
      · exact .inl q
      · have : a = s₁.heap.objs.size := by simpa using q
        exact .inr (this ▸ hnew)
      · right
        cases z : s₁.heap.get? a with
        | none => rfl
        | some o => rw [Heap.get?_push_of_some _ z] at q; cases q
    exact r2.mono fun b o _ q => Heap.get?_push_of_some _ q

theorem more_of {X X' : Addr → Prop} {wr : Addr → Prop} {s₁ s₂ : Shared} (hX : ∀ a, X' a → X a ∨ wr a ∨ s₂.heap.get? a = none) (hw : ∀ a, wr a → s₁.heap.get? a = none) (hk : ∀ b o, s₁.heap.get? b = some o → s₂.heap.get? b = some o) : ∀ a, X' a → X a ∨ s₁.heap.get? a = none := fun a ha => by
  rcases hX a ha with q | q | q
  · exact .inl q
  · exact .inr (hw a q)
  · right
    cases z : s₁.heap.get? a with
    | none => rfl
    | some o => rw [hk _ _ z] at q; cases q

theorem EvIt.tuple (KG : Known c.G) (hl : Lim c) {e : Expr} {ds : List D} (h : Ev c sc ρ e (.tup ds)) : EvIt c sc ρ nameT e ds := fun X env s hs hG eo => by
  refine wp_up (h X env s hs hG eo) fun x s₁ h₁ => ?_
  obtain ⟨l, o, vs, n, rfl, hx, e1, e2, e3, ra⟩ := h₁.2.tupInv
  have hI : s₁.heap.IsTuple l vs := ⟨_, e1, e2, n, e3⟩
  have hsz : vs.size = ds.length := by have := ra.1; simpa using this
  refine wpAny_pyIter_tuple hI ?_
  have hG₁ := KG.keeps _ _ hG h₁.1.kp
  have hnew : s₁.heap.get? s₁.heap.objs.size = none := size_none _ (Nat.le_refl _)
  have hne : l ≠ s₁.heap.objs.size := Nat.ne_of_lt (Heap.lt_size e1)
  have hnt : ¬ tb s₁.heap.objs.size := fresh_ntb KG hG₁ hnew
  refine ⟨_, _, _, _, rfl, h₁.1.trans .push, It.walks (Walks.tuple hl.hand s₁.heap.objs.size l hne vs) ds hsz.symm (fun b hb => ?_) (fun i h st b hb => let ⟨o, ho, _⟩ := st.1; ⟨o, (List.mem_singleton.mp hb) ▸ ho⟩) (fun _ ht _ _ _ _ _ h => go_name ht h), fun b hb => ?_, fun b hb => ?_, fun X' xt hX => ?_⟩
  · have : b = s₁.heap.objs.size ∨ b = l := by simpa using hb
    rcases this with rfl | rfl
    · exact hnt
    · exact fun q => hx (eo.xt.tbs _ q)
  · have : b = s₁.heap.objs.size := by simpa using hb
    exact ⟨was_none (X := X) KG hG h₁.1 (this ▸ hnew), this ▸ hnt, this ▸ KG.big _ hG₁⟩
  · have : b = s₁.heap.objs.size ∨ b = l := by simpa using hb
    rcases this with rfl | rfl
    · exact ⟨⟨_, Heap.get?_push_size _ rfl⟩, (eo.xok.gw KG hG h₁.1).fresh⟩
    · exact ⟨⟨_, Heap.get?_push_of_some _ e1⟩, hx⟩
  · refine ⟨0, ⟨⟨_, Heap.get?_push_size _ rfl, rfl, rfl⟩, hI.push _⟩, rfl, Nat.zero_le _, fun j v d a b => ?_⟩
    have r := ra.2 j v d (by simpa using a) b
    refine (r.more (more_of hX (fun a q => ?_) fun b o q => Heap.get?_push_of_some _ q)).mono fun b o _ q => Heap.get?_push_of_some _ q
    have : a = s₁.heap.objs.size := by simpa using q
    exact this ▸ hnew

/-- a call by name, whatever it hands back -/
theorem call_name (KG : Known c.G) (KI : KIn c) {X : Addr → Prop} {env : Env} {s : Shared} {f : Str} {fv : Value} {e : Expr} {rest : List Expr} {ds : List D} {fpos pos : Pos} {Q : Value → Shared → Prop}
    (hs : env.scope = sc) (hG : c.G s.heap) (eo : EnvOk X env s.heap ρ) (hk : sc.names.lookup f = some .globalImplicit) (hf : GlobIs c f fv) (k : Kept c fv) (h : Evs c sc ρ (e :: rest) ds)
    (hc : ∀ vs s₁, c.G s₁.heap → Gw noX s s₁ → EnvOk X env s₁.heap ρ → RdAll X s₁.heap vs ds → wpAny (model c.prog c.w) c.A (call fv vs) Q noE s₁)
    (he : ∀ env, starEach (e :: rest) env = (false, eval e env) :: starEach rest env) (hplain : ∀ env, (backTo pos (starEach rest env)).any (·.1) = false) (hd : (f == ("__debug__" : Str)) = false) :
    wpAny (model c.prog c.w) c.A (eval (.Call (.Name f fpos) (e :: rest) [] pos) env) Q noE s := by
  refine wpAny_Call_ofName (hf.load hG eo.kind eo.glob eo.blt (by unfold Env.kindOf; rw [hs]; exact hk) hd ?_)
  refine k.cw KI hG (wp_up (h X env pos s hs hG eo) fun vs s₁ h₁ => ?_) (he env) (hplain env)
  have hG₁ := KG.keeps _ _ hG h₁.1.kp
  refine ⟨hG₁, ?_⟩
  rw [List.nil_append]
  exact hc vs s₁ hG₁ h₁.1 (eo.gw KG h₁.1 hG) h₁.2

theorem small_of {a b : Int} (ha : -(2 ^ 40) ≤ a) (ha2 : a ≤ 2 ^ 40) (hb : -(2 ^ 40) ≤ b) (hb2 : b ≤ 2 ^ 40) : Builtin.Range.small a b 1 = true ∧ Builtin.Range.rangeSize a b 1 = (((b - a).toNat : Nat) : Int) := by
  have h2 : Builtin.Range.rangeSize a b 1 = (((b - a).toNat : Nat) : Int) := by
    unfold Builtin.Range.rangeSize
    rw [if_pos (by decide)]
    split
    · rename_i h
      first
        | (rw [Int.fdiv_one]; omega)
        | (simp; omega)
    · rename_i h
      omega
  refine ⟨?_, h2⟩
  unfold Builtin.Range.small
  rw [h2]
  unfold Builtin.Range.rangeFitsLong
  simp
  omega

theorem evit_range (KG : Known c.G) (hl : Lim c) {X : Addr → Prop} {env : Env} {s s₁ : Shared} (xo : Xok X s₁.heap) (hG : c.G s.heap) (g : Gw noX s s₁) (hG₁ : c.G s₁.heap) {a b : Int} (ha : -(2 ^ 40) ≤ a) (ha2 : a ≤ 2 ^ 40) (hb : -(2 ^ 40) ≤ b) (hb2 : b ≤ 2 ^ 40) {r : Addr} {t u v : Tok} (hr : IsRange s₁.heap r a b 1 t u v) :
    wpAny (model c.prog c.w) c.A (pyIter (.ref r)) (fun it s₂ => ∃ I fp wr St, it = .ref I ∧ Gw noX s s₂ ∧ It c nameT I fp wr St ∧
      (∀ b, wr b → s.heap.get? b = none ∧ ¬ tb b ∧ low ≤ b) ∧ (∀ b, fp b → (∃ o, s₂.heap.get? b = some o) ∧ ¬ X b) ∧
      (∀ X', XT X' → (∀ a, X' a → X a ∨ wr a ∨ s₂.heap.get? a = none) → St X' ((List.range (b - a).toNat).map fun (i : Nat) => D.int (a + i)) s₂.heap)) noE s₁ := by
  obtain ⟨h1, h2⟩ := small_of ha ha2 hb hb2
  refine wpAny_pyIter_range hr h1 ?_
  rw [h2]
  have hnew : s₁.heap.get? s₁.heap.objs.size = none := size_none _ (Nat.le_refl _)
  have hnt : ¬ tb s₁.heap.objs.size := fresh_ntb KG hG₁ hnew
  refine ⟨_, _, _, _, rfl, g.trans .push, It.walks (Walks.range hl.hand s₁.heap.objs.size a 1 (b - a).toNat) ((List.range (b - a).toNat).map fun (i : Nat) => D.int (a + i)) (by simp) (fun b hb => ?_) (fun i h st b hb => ⟨_, (List.mem_singleton.mp hb) ▸ st⟩) (fun _ ht _ _ _ _ _ h => go_name ht h), fun b hb => ?_, fun b hb => ?_, fun X' xt hX => ?_⟩
  · have : b = s₁.heap.objs.size := by simpa using hb
    exact this ▸ hnt
  · have : b = s₁.heap.objs.size := by simpa using hb
    exact ⟨was_none (X := X) KG hG g (this ▸ hnew), this ▸ hnt, this ▸ KG.big _ hG₁⟩
  · have : b = s₁.heap.objs.size := by simpa using hb
    exact ⟨⟨_, this ▸ Heap.get?_push_size _ rfl⟩, this ▸ xo.fresh⟩
  · refine ⟨0, ?_, rfl, Nat.zero_le _, fun j v d hv hd => ?_⟩
    · have : (s₁.heap.push { cls := .type "range_iterator", data := .fields #[rawInt a, rawInt (((b - a).toNat : Nat) : Int), rawInt 1] }).get? s₁.heap.objs.size = some _ := Heap.get?_push_size _ rfl
      show (s₁.heap.push _).get? s₁.heap.objs.size = some _
      rw [this]; simp
    · obtain ⟨t, rfl⟩ := hv
      rw [Int.mul_one]
      rw [List.getElem?_map] at hd
      cases hj : (List.range (b - a).toNat)[j]? with
      | none => rw [hj] at hd; cases hd
      | some k =>
        rw [hj] at hd
        have hk : k = j := by
          have := List.getElem?_eq_some_iff.mp hj
          obtain ⟨h, e⟩ := this
          rw [← e, List.getElem_range]
        subst hk
        cases hd
        exact .int _ _
theorem EvIt.range2 (KG : Known c.G) (KI : KIn c) (hl : Lim c) {e1 e2 : Expr} {a b : Int} {fpos pos : Pos} (g : GlobIs c "range" (.type "range")) (hk : sc.names.lookup ("range" : Str) = some .globalImplicit) (h1 : Ev c sc ρ e1 (.int a)) (h2 : Ev c sc ρ e2 (.int b))
    (ha : -(2 ^ 40) ≤ a) (ha2 : a ≤ 2 ^ 40) (hb : -(2 ^ 40) ≤ b) (hb2 : b ≤ 2 ^ 40)
    (he : ∀ env, starEach [e1, e2] env = (false, eval e1 env) :: starEach [e2] env := by intro _; rfl) (he2 : ∀ env, starEach [e2] env = (false, eval e2 env) :: starEach [] env := by intro _; rfl) (hplain : ∀ env, (backTo pos (starEach [e2] env)).any (·.1) = false := by intro _; rfl) :
    EvIt c sc ρ nameT (.Call (.Name "range" fpos) [e1, e2] [] pos) ((List.range (b - a).toNat).map fun (i : Nat) => D.int (a + i)) := fun X env s hs hG eo => by
  refine call_name KG KI hs hG eo hk g (.t _) (.cons KG h1 (.cons KG h2 .nil he2) he) (fun vs s₁ hG₁ g₁ eo₁ r => ?_) he hplain (by decide)
  obtain ⟨v, us, rfl, r1, r2⟩ := r.consInv
  obtain ⟨v2, us2, rfl, r3, r4⟩ := r2.consInv
  rw [r4.nilInv]
  obtain ⟨t, rfl⟩ := r1.intInv
  obtain ⟨u, rfl⟩ := r3.intInv
  refine call_range_2 (evit_range KG hl (eo₁.xok.gw (s' := { s₁ with heap := _, toks := _ }) KG hG₁ (.heap (.every fun b o q => Heap.get?_push_of_some _ q))) hG (g₁.trans (s₃ := { s₁ with heap := _, toks := _ }) (.heap (.every fun b o q => Heap.get?_push_of_some _ q))) (KG.keeps _ _ hG₁ (.every fun b o q => Heap.get?_push_of_some _ q)) (env := env) ha ha2 hb hb2 (Heap.get?_push_size _ rfl))
theorem EvIt.range1 (KG : Known c.G) (KI : KIn c) (hl : Lim c) {e1 : Expr} {b : Int} {fpos pos : Pos} (g : GlobIs c "range" (.type "range")) (hk : sc.names.lookup ("range" : Str) = some .globalImplicit) (h1 : Ev c sc ρ e1 (.int b))
    (hb : -(2 ^ 40) ≤ b) (hb2 : b ≤ 2 ^ 40)
    (he : ∀ env, starEach [e1] env = (false, eval e1 env) :: starEach [] env := by intro _; rfl) :
    EvIt c sc ρ nameT (.Call (.Name "range" fpos) [e1] [] pos) ((List.range b.toNat).map fun (i : Nat) => D.int i) := fun X env s hs hG eo => by
  refine call_name KG KI hs hG eo hk g (.t _) (.cons KG h1 .nil he) (fun vs s₁ hG₁ g₁ eo₁ r => ?_) he (fun _ => rfl) (by decide)
  obtain ⟨v, us, rfl, r1, r2⟩ := r.consInv
  rw [r2.nilInv]
  obtain ⟨t, rfl⟩ := r1.intInv
  refine call_range_1 ?_
  have := evit_range (X := X) (env := env) (s := s) (a := 0) (b := b) (r := s₁.heap.objs.size) (t := s₁.toks) (u := t) (v := s₁.toks + 1) (s₁ := { s₁ with heap := s₁.heap.push { cls := .type "range", data := .fields #[.int 0 s₁.toks, .int b t, .int 1 (s₁.toks + 1)] }, toks := s₁.toks + 1 + 1 }) KG hl (eo₁.xok.gw KG hG₁ (.heap (.every fun b o q => Heap.get?_push_of_some _ q))) hG (g₁.trans (.heap (.every fun b o q => Heap.get?_push_of_some _ q))) (KG.keeps _ _ hG₁ (.every fun b o q => Heap.get?_push_of_some _ q)) (by omega) (by omega) hb hb2 (Heap.get?_push_size _ rfl)
  simpa using this

def enumD (ds : List D) : List D := ds.mapIdx fun i d => D.tup [.int i, d]
theorem EvIt.enum (KG : Known c.G) (KI : KIn c) (hl : Lim c) {e1 : Expr} {ds : List D} {fpos pos : Pos} (g : GlobIs c "enumerate" (.type "enumerate")) (hk : sc.names.lookup ("enumerate" : Str) = some .globalImplicit) (h1 : Ev c sc ρ e1 (.list ds))
    (he : ∀ env, starEach [e1] env = (false, eval e1 env) :: starEach [] env := by intro _; rfl) :
    EvIt c sc ρ tupT (.Call (.Name "enumerate" fpos) [e1] [] pos) (enumD ds) := fun X env s hs hG eo => by
  refine call_name KG KI hs hG eo hk g (.t _) (.cons KG h1 .nil he) (fun vs s₁ hG₁ g₁ eo₁ r => ?_) he (fun _ => rfl) (by decide)
  obtain ⟨v, us, rfl, r1, r2⟩ := r.consInv
  rw [r2.nilInv]
  obtain ⟨l, vs, n, rfl, hx, e1, ra⟩ := r1.listInv
  have hI : s₁.heap.IsList l vs := ⟨_, e1, rfl, n, rfl⟩
  have hsz : vs.size = ds.length := by have := ra.1; simpa using this
  refine call_enumerate_list hI fun h' hE hIt hs' hk' => ?_
  refine wpAny_pyIter_enum hE ?_
  have n0 : s₁.heap.get? s₁.heap.objs.size = none := size_none _ (Nat.le_refl _)
  have n1 : s₁.heap.get? (s₁.heap.objs.size + 1) = none := size_none _ (Nat.le_succ _)
  have t0 := fresh_ntb KG hG₁ n0
  have t1 := fresh_ntb KG hG₁ n1
  have hlt : @LT.lt Nat _ l s₁.heap.objs.size := Heap.lt_size e1
  have big := KG.big _ hG₁
  have wrf : ∀ b, b ∈ [s₁.heap.objs.size + 1, s₁.heap.objs.size] → s₁.heap.get? b = none ∧ ¬ tb b ∧ low ≤ b := fun b hb => by
    have : b = s₁.heap.objs.size + 1 ∨ b = s₁.heap.objs.size := by simpa using hb
    rcases this with rfl | rfl
    · exact ⟨n1, t1, Nat.le_succ_of_le big⟩
    · exact ⟨n0, t0, big⟩
  refine ⟨_, _, _, _, rfl, g₁.trans (.every hk'), It.walksT (WalksT.enumerate hl.hand (s₁.heap.objs.size + 1) s₁.heap.objs.size l (Nat.succ_ne_self _) (show @Ne Nat l (s₁.heap.objs.size + 1) by omega) (show @Ne Nat l s₁.heap.objs.size by omega) vs) (enumD ds) (by rw [enumD, List.length_mapIdx, hsz]) (fun b hb => ?_) (fun i h st b hb => ?_), fun b hb => ⟨was_none (X := X) KG hG g₁ (wrf b hb).1, (wrf b hb).2⟩, fun b hb => ?_, fun X' xt hX => ?_⟩
  · have : b = s₁.heap.objs.size + 1 ∨ b = s₁.heap.objs.size ∨ b = l := by simpa using hb
    rcases this with rfl | rfl | rfl
    · exact t1
    · exact t0
    · exact fun q => hx (eo.xt.tbs _ q)
  · have : b = s₁.heap.objs.size + 1 ∨ b = s₁.heap.objs.size := by simpa using hb
    rcases this with rfl | rfl
    · obtain ⟨⟨_, q⟩, _⟩ := st; exact ⟨_, q⟩
    · obtain ⟨_, ⟨o, ho, _⟩, _⟩ := st; exact ⟨o, ho⟩
  · have : b = s₁.heap.objs.size + 1 ∨ b = s₁.heap.objs.size ∨ b = l := by simpa using hb
    rcases this with rfl | rfl | rfl
    · exact ⟨⟨_, hE⟩, fun q => by obtain ⟨o, ho⟩ := eo₁.al _ q; rw [n1] at ho; cases ho⟩
    · obtain ⟨o, ho, _⟩ := hIt; exact ⟨⟨o, ho⟩, eo₁.xok.fresh⟩
    · exact ⟨⟨_, hk' _ _ e1⟩, hx⟩
  · refine ⟨0, ⟨⟨_, hE⟩, hIt, ⟨_, hk' _ _ e1, rfl, n, rfl⟩⟩, rfl, Nat.zero_le _, fun j us d hv hd => ?_⟩
    obtain ⟨t, x, hx1, rfl⟩ := hv
    have hx2 : vs.toList[j]? = some x := by simpa using hx1
    rw [enumD, List.getElem?_mapIdx] at hd
    cases hj : ds[j]? with
    | none => rw [hj] at hd; cases hd
    | some d' =>
      rw [hj] at hd
      cases hd
      refine ⟨_, rfl, ?_⟩
      have r := ra.2 j x d' hx2 hj
      exact .cons (.int _ _) (.one ((r.more (more_of hX (fun a q => (wrf a q).1) hk')).mono fun b o _ q => hk' b o q))

theorem EvIt.zip (KG : Known c.G) (KI : KIn c) (hl : Lim c) {e1 e2 : Expr} {ds es : List D} {fpos pos : Pos} (g : GlobIs c "zip" (.type "zip")) (hk : sc.names.lookup ("zip" : Str) = some .globalImplicit) (h1 : Ev c sc ρ e1 (.list ds)) (h2 : Ev c sc ρ e2 (.list es))
    (he : ∀ env, starEach [e1, e2] env = (false, eval e1 env) :: starEach [e2] env := by intro _; rfl) (he2 : ∀ env, starEach [e2] env = (false, eval e2 env) :: starEach [] env := by intro _; rfl) (hplain : ∀ env, (backTo pos (starEach [e2] env)).any (·.1) = false := by intro _; rfl) :
    EvIt c sc ρ tupT (.Call (.Name "zip" fpos) [e1, e2] [] pos) ((ds.zip es).map fun p => D.tup [p.1, p.2]) := fun X env s hs hG eo => by
  refine call_name KG KI hs hG eo hk g (.t _) (.cons KG h1 (.cons KG h2 .nil he2) he) (fun vs s₁ hG₁ g₁ eo₁ r => ?_) he hplain (by decide)
  obtain ⟨v, us, rfl, r1, r2⟩ := r.consInv
  obtain ⟨v2, us2, rfl, r3, r4⟩ := r2.consInv
  rw [r4.nilInv]
  obtain ⟨l1, xs, n1, rfl, hx1, e1, ra⟩ := r1.listInv
  obtain ⟨l2, ys, n2, rfl, hx2, e2, rb⟩ := r3.listInv
  have z1 : xs.size = ds.length := by have := ra.1; simpa using this
  have z2 : ys.size = es.length := by have := rb.1; simpa using this
  refine call_zip_2 ⟨_, e1, rfl, n1, rfl⟩ ⟨_, e2, rfl, n2, rfl⟩ fun h' hZ hTI hTO hi1 hi2 hs' hk' => ?_
  refine wpAny_pyIter_zip hZ ?_
  have nn : ∀ k, s₁.heap.get? (s₁.heap.objs.size + k) = none := fun k => size_none _ (Nat.le_add_right _ _)
  have l1t : @LT.lt Nat _ l1 s₁.heap.objs.size := Heap.lt_size e1
  have l2t : @LT.lt Nat _ l2 s₁.heap.objs.size := Heap.lt_size e2
  generalize hz : s₁.heap.objs.size = z at *
  have big := KG.big _ hG₁
  rw [hz] at big
  have wrf : ∀ b, b ∈ [z + 4, z + 3, z, z + 1] → s₁.heap.get? b = none ∧ ¬ tb b ∧ low ≤ b := fun b hb => by
    have : b = z + 4 ∨ b = z + 3 ∨ b = z ∨ b = z + 1 := by simpa using hb
    have q : s₁.heap.get? b = none := by
      rcases this with rfl | rfl | rfl | rfl
      · exact nn 4
      · exact nn 3
      · exact nn 0
      · exact nn 1
    refine ⟨q, fresh_ntb KG hG₁ q, ?_⟩
    rcases this with rfl | rfl | rfl | rfl <;> omega
  have nx : ∀ k, ¬ X (z + k) := fun k q => by obtain ⟨o, ho⟩ := eo₁.al _ q; rw [nn k] at ho; cases ho
  have Dz : ZipApart (z + 4) (z + 2) (z + 3) z (z + 1) l1 l2 := by constructor <;> (show @Ne Nat _ _) <;> omega
  refine ⟨_, _, _, _, rfl, g₁.trans (.every hk'), It.walksT (WalksT.zip2 hl.hand (z + 4) (z + 2) (z + 3) z (z + 1) l1 l2 Dz xs ys) ((ds.zip es).map fun p => D.tup [p.1, p.2]) (by rw [List.length_map, List.length_zip, z1, z2]) (fun b hb => ?_) (fun i h st b hb => ?_), fun b hb => ⟨was_none (X := X) KG hG g₁ (wrf b hb).1, (wrf b hb).2⟩, fun b hb => ?_, fun X' xt hX => ?_⟩
  · have : b = z + 4 ∨ b = z + 2 ∨ b = z + 3 ∨ b = z ∨ b = z + 1 ∨ b = l1 ∨ b = l2 := by simpa using hb
    rcases this with rfl | rfl | rfl | rfl | rfl | rfl | rfl
    · exact fresh_ntb KG hG₁ (nn 4)
    · exact fresh_ntb KG hG₁ (nn 2)
    · exact fresh_ntb KG hG₁ (nn 3)
    · exact fresh_ntb KG hG₁ (nn 0)
    · exact fresh_ntb KG hG₁ (nn 1)
    · exact fun q => hx1 (eo.xt.tbs _ q)
    · exact fun q => hx2 (eo.xt.tbs _ q)
  · have : b = z + 4 ∨ b = z + 3 ∨ b = z ∨ b = z + 1 := by simpa using hb
    obtain ⟨q1, q2, ⟨_, _, q3⟩, ⟨o4, q4, _⟩, ⟨o5, q5, _⟩, _⟩ := st
    rcases this with rfl | rfl | rfl | rfl
    · exact ⟨_, q1⟩
    · exact ⟨_, q3⟩
    · exact ⟨_, q4⟩
    · exact ⟨_, q5⟩
  · have : b = z + 4 ∨ b = z + 2 ∨ b = z + 3 ∨ b = z ∨ b = z + 1 ∨ b = l1 ∨ b = l2 := by simpa using hb
    rcases this with rfl | rfl | rfl | rfl | rfl | rfl | rfl
    · exact ⟨⟨_, hZ⟩, nx 4⟩
    · exact ⟨⟨_, hTI⟩, nx 2⟩
    · exact ⟨⟨_, hTO⟩, nx 3⟩
    · obtain ⟨o, ho, _⟩ := hi1; exact ⟨⟨o, ho⟩, nx 0⟩
    · obtain ⟨o, ho, _⟩ := hi2; exact ⟨⟨o, ho⟩, nx 1⟩
    · exact ⟨⟨_, hk' _ _ e1⟩, hx1⟩
    · exact ⟨⟨_, hk' _ _ e2⟩, hx2⟩
  · refine ⟨0, ⟨hZ, hTI, ⟨_, _, hTO⟩, hi1, hi2, ⟨_, hk' _ _ e1, rfl, n1, rfl⟩, ⟨_, hk' _ _ e2, rfl, n2, rfl⟩⟩, rfl, Nat.zero_le _, fun j us d hv hd => ?_⟩
    obtain ⟨x, y, hx, hy, rfl⟩ := hv
    have hx2 : xs.toList[j]? = some x := by simpa using hx
    have hy2 : ys.toList[j]? = some y := by simpa using hy
    rw [List.getElem?_map] at hd
    cases hj : (ds.zip es)[j]? with
    | none => rw [hj] at hd; cases hd
    | some p =>
      rw [hj] at hd
      cases hd
      obtain ⟨p1, p2⟩ := p
      rw [List.getElem?_zip_eq_some] at hj
      have mo := more_of hX (fun a q => (wrf a q).1) hk'
      exact ⟨_, rfl, .cons (((ra.2 j x p1 hx2 hj.1).more mo).mono fun b o _ q => hk' b o q) (.one (((rb.2 j y p2 hy2 hj.2).more mo).mono fun b o _ q => hk' b o q))⟩
end
end Mine
namespace Mine
open PySem PySem.Spec PySem.Calls PyProof.Rows PySem.W

/-- a target takes a datum -/
noncomputable def updAll (ρ : Str → Option D) : List Str → List D → (Str → Option D)
  | x :: xs, d :: ds => updAll (upd ρ x d) xs ds
  | _, _ => ρ
def nameEs (xs : List (Str × Pos)) : List Expr := xs.map fun x => .Name x.1 x.2
def okName (sc : Scope) (x : Str) : Prop := (sc.names.lookup x = some .local ∨ sc.names.lookup x = some .cell) ∧ (x == ("__debug__" : Str)) = false
inductive Asg (sc : Scope) (ρ : Str → Option D) : Expr → D → (Str → Option D) → Prop
  | name {x : Str} {p : Pos} {d : D} : okName sc x → Asg sc ρ (.Name x p) d (upd ρ x d)
  | tup {xs : List (Str × Pos)} {k : Nat} {p : Pos} {ds : List D} : (∀ x ∈ xs, okName sc x.1) → xs.length = ds.length → Asg sc ρ (.Tuple (nameEs xs) k p) (.tup ds) (updAll ρ (xs.map (·.1)) ds)

section
variable {c : Cx} {sc : Scope} {ρ ρ' : Str → Option D}

theorem EnvOk.grow {X X' : Addr → Prop} {env : Env} {h h' : Heap} (e : EnvOk X env h ρ) (xt : XT X') (k : ∀ b o, ¬ tb b → h.get? b = some o → h'.get? b = some o) (hX : ∀ a, X a → X' a) (al : AL X' h') (hf : ∀ a, X' a → X a ∨ h.get? a = none) : EnvOk X' env h' ρ := by
  have kr : ∀ v d, Rd X h v d → Rd X' h' v d := fun v d r => (r.more hf).mono fun b o hx q => k b o (fun z => hx (xt.tbs b z)) q
  obtain ⟨m, hn, hm⟩ := e.loc
  refine ⟨e.kind, e.glob, e.blt, xt, al, e.ntb, hX _ e.locX, ⟨m, hn.at' fun o q => k _ o e.ntb q, fun x d hx hk => ?_⟩, fun x d hx hk => ?_, fun p hp => ?_, e.apart, e.gl, e.hasC⟩
  · obtain ⟨v, hv, r⟩ := hm x d hx hk
    exact ⟨v, hv, kr _ _ r⟩
  · obtain ⟨h1, c, v, h2, ⟨o, h3, h4⟩, r⟩ := e.cel x d hx hk
    exact ⟨h1, c, v, h2, ⟨o, k _ _ (e.cells _ (mem_of_lookup h2)).2.2.1 h3, h4⟩, kr _ _ r⟩
  · obtain ⟨h1, h2, h3, v, o, h4, h5⟩ := e.cells p hp
    exact ⟨hX _ h1, h2, h3, v, o, k _ _ h3 h4, h5⟩

/-- what a comprehension's own frame turns -/
def Own (env : Env) (a : Addr) : Prop := a = env.locals ∨ ∃ p ∈ env.cells, a = p.2
/-- what it may turn: its own places alone, not what it has caught -/
def Chg (env : Env) (a : Addr) : Prop := a = env.locals ∨ ∃ p ∈ env.cells, a = p.2 ∧ @LT.lt Nat _ env.locals p.2
theorem chg_own {env : Env} {a : Addr} (h : Chg env a) : Own env a := h.imp id fun ⟨p, a, b, _⟩ => ⟨p, a, b⟩
/-- the name's place is its own -/
def OwnN (env : Env) (x : Str) : Prop := ∀ c, env.cells.lookup x = some c → @LT.lt Nat _ env.locals c
def tnames : Expr → List Str
  | .Name x _ => [x]
  | .Tuple es _ _ => es.filterMap fun | .Name x _ => some x | _ => none
  | _ => []
theorem tnames_names (xs : List (Str × Pos)) (k : Nat) (p : Pos) : tnames (.Tuple (nameEs xs) k p) = xs.map (·.1) := by
  show (nameEs xs).filterMap _ = _
  induction xs with
  | nil => rfl
  | cons x xs ih =>
    have : nameEs (x :: xs) = .Name x.1 x.2 :: nameEs xs := rfl
    rw [this, List.filterMap_cons, ih]; rfl
theorem own_X {X : Addr → Prop} {env : Env} {h : Heap} (e : EnvOk X env h ρ) {a : Addr} (ha : Own env a) : X a ∧ ¬ tb a := by
  rcases ha with rfl | ⟨p, hp, rfl⟩
  · exact ⟨e.locX, e.ntb⟩
  · exact ⟨(e.cells p hp).1, (e.cells p hp).2.2.1⟩
theorem store_own {prog : Program} {w : World} {A : Around} {X : Addr → Prop} {env : Env} {s : Shared} {x : Str} {v : Value} {d : D} (e : EnvOk X env s.heap ρ) (hs : env.scope = sc) (r : Rd X s.heap v d) (hx : okName sc x) (hn : OwnN env x) :
    wpAny (model prog w) A (bindName env x v) (fun _ s' => EnvOk X env s'.heap (upd ρ x d) ∧ Gw (Chg env) s s') noE s := by
  refine wpAny_bindName (store_ok e r (by unfold Env.kindOf; rw [hs]; exact hx.1) hx.2 fun s' e' g => ⟨e', g.wide fun a ha => ?_⟩)
  rcases ha with rfl | ⟨c, q1, rfl⟩
  · exact .inl rfl
  · exact .inr ⟨_, mem_of_lookup q1, rfl, hn _ q1⟩
theorem gw_own {X : Addr → Prop} {env : Env} {s s' : Shared} {v : Value} {d : D} (e : EnvOk X env s.heap ρ) (g : Gw (Chg env) s s') (r : Rd X s.heap v d) : Rd X s'.heap v d :=
  r.gw e.xt (g.wide fun a ha => (own_X e (chg_own ha)).1)

theorem assign_names {prog : Program} {w : World} {A : Around} {X : Addr → Prop} {env : Env} : ∀ (xs : List (Str × Pos)) (ds : List D) (vs : List Value) (s : Shared) (ρ : Str → Option D), EnvOk X env s.heap ρ → env.scope = sc → (∀ x ∈ xs, okName sc x.1) → (∀ x ∈ xs, OwnN env x.1) → xs.length = ds.length → RdAll X s.heap vs ds →
    wpAny (model prog w) A (assignInOrder ((assignEach (nameEs xs) env).map (·.2)) vs) (fun _ s' => EnvOk X env s'.heap (updAll ρ (xs.map (·.1)) ds) ∧ Gw (Chg env) s s') noE s
  | [], ds, vs, s, ρ, e, hs, hx, hw, hl, r => by
    have : ds = [] := List.length_eq_zero_iff.mp hl.symm
    subst this
    rw [r.nilInv]
    exact wpAny_pure ⟨e, .refl s⟩
  | (x, p) :: xs, ds, vs, s, ρ, e, hs, hx, hw, hl, r => by
    cases ds with
    | nil => exact absurd hl (by simp)
    | cons d ds =>
      obtain ⟨v, us, rfl, r1, r2⟩ := r.consInv
      show wpAny _ A (do holding us (assign (.Name x p) env v); assignInOrder ((assignEach (nameEs xs) env).map (·.2)) us) _ _ s
      refine wpAny_bind (wpAny_holding ?_)
      show wpAny _ A (do standAt p; bindName env x v) _ _ s
      refine wpAny_bind (wpAny_standAt (wp_up (store_own e hs r1 (hx _ (.head _)) (hw _ (.head _))) fun _ s₁ h₁ => ?_))
      have r2' : RdAll X s₁.heap us ds := ⟨r2.1, fun i v d a b => gw_own e h₁.2 (r2.2 i v d a b)⟩
      refine wp_up (assign_names xs ds us s₁ _ h₁.1 hs (fun y hy => hx y (.tail _ hy)) (fun y hy => hw y (.tail _ hy)) (by simpa using hl) r2') fun _ s₂ h₂ => ⟨h₂.1, h₁.2.trans h₂.2⟩
theorem starless (xs : List (Str × Pos)) (env : Env) : (assignEach (nameEs xs) env).length = xs.length ∧ (assignEach (nameEs xs) env).findIdx? (·.1) = none := by
  induction xs with
  | nil => exact ⟨rfl, rfl⟩
  | cons x xs ih =>
    have e : assignEach (nameEs (x :: xs)) env = (false, assign (.Name x.1 x.2) env) :: assignEach (nameEs xs) env := rfl
    rw [e]
    exact ⟨by rw [List.length_cons, List.length_cons, ih.1], by rw [List.findIdx?_cons]; simp [ih.2]⟩
theorem assign_ok {prog : Program} {w : World} {A : Around} (hh : A.handled = none) {X : Addr → Prop} {env : Env} {s : Shared} {v : Value} {d : D} {tgt : Expr} (e : EnvOk X env s.heap ρ) (hs : env.scope = sc) (ha : Asg sc ρ tgt d ρ') (hw : ∀ x ∈ tnames tgt, OwnN env x) (r : Rd X s.heap v d) :
    wpAny (model prog w) A (assign tgt env v) (fun _ s' => EnvOk X env s'.heap ρ' ∧ Gw (Chg env) s s') noE s := by
  cases ha with
  | name hx =>
    rename_i x p
    show wpAny _ A (do standAt p; bindName env x v) _ _ s
    exact wpAny_bind (wpAny_standAt (store_own e hs r hx (hw _ (.head _))))
  | tup hx hl =>
    rename_i xs k p ds
    obtain ⟨t, o, vs, n, rfl, hxt, e1, e2, e3, ra⟩ := r.tupInv
    obtain ⟨l1, l2⟩ := starless xs env
    have hsz : vs.size = ds.length := by have := ra.1; simpa using this
    refine wpAny_assign_Tuple hh ⟨_, e1, e2, n, e3⟩ (by rw [l1, hl, hsz]) l2 fun h' hk => ?_
    have hk' : ∀ b o, s.heap.get? b = some o → h'.get? b = some o := fun b o q => hk b o (Nat.ne_of_lt (Heap.lt_size q)) q
    have e' : EnvOk X env h' ρ := e.grow e.xt (fun b o _ q => hk' b o q) (fun _ q => q) (fun a ha => let ⟨o, q⟩ := e.al a ha; ⟨o, hk' _ _ q⟩) fun a ha => .inl ha
    refine wp_up (assign_names xs ds vs.toList { s with heap := h' } ρ e' hs hx (fun y hy => hw _ (by rw [tnames_names]; exact List.mem_map_of_mem hy)) hl (ra.mono fun b o _ q => hk' b o q)) fun _ s' h => ⟨h.1, ?_⟩
    exact (Gw.every (tk := s.toks) hk').trans h.2
end
end Mine
namespace Mine
open PySem PySem.Spec PySem.Calls PyProof.Rows PySem.W

section
variable {c : Cx} {sc : Scope} {ρ ρ' : Str → Option D}

theorem EnvOk.leave {X X₀ Y : Addr → Prop} {env : Env} {s s' : Shared} (e : EnvOk X env s.heap ρ) (g : Gw Y s s') (hY : ∀ a, Y a → X a ∧ ¬ Own env a) (h₀ : ∀ a, X₀ a → X a) (ho : ∀ a, Own env a → X₀ a) (xt : XT X₀) (al : AL X₀ s'.heap) : EnvOk X₀ env s'.heap ρ := by
  have k : ∀ b o, ¬ Y b → ¬ tb b → s.heap.get? b = some o → s'.heap.get? b = some o := g.kp.keep
  have kr : ∀ v d, Rd X s.heap v d → Rd X₀ s'.heap v d := fun v d r => (r.mono fun b o hx q => k b o (fun z => hx (hY b z).1) (fun z => hx (e.xt.tbs b z)) q).less h₀
  have ko : ∀ b o, Own env b → s.heap.get? b = some o → s'.heap.get? b = some o := fun b o hb q => k b o (fun z => (hY b z).2 hb) (own_X e hb).2 q
  obtain ⟨m, hn, hm⟩ := e.loc
  refine ⟨e.kind, e.glob, e.blt, xt, al, e.ntb, ho _ (.inl rfl), ⟨m, hn.at' fun o q => ko _ o (.inl rfl) q, fun x d hx hk => ?_⟩, fun x d hx hk => ?_, fun p hp => ?_, e.apart, e.gl, e.hasC⟩
  · obtain ⟨v, hv, r⟩ := hm x d hx hk
    exact ⟨v, hv, kr _ _ r⟩
  · obtain ⟨h1, c, v, h2, ⟨o, h3, h4⟩, r⟩ := e.cel x d hx hk
    exact ⟨h1, c, v, h2, ⟨o, ko _ _ (.inr ⟨_, mem_of_lookup h2, rfl⟩) h3, h4⟩, kr _ _ r⟩
  · obtain ⟨h1, h2, h3, v, o, h4, h5⟩ := e.cells p hp
    exact ⟨ho _ (.inr ⟨p, hp, rfl⟩), h2, h3, v, o, ko _ _ (.inr ⟨p, hp, rfl⟩) h4, h5⟩

theorem compTurn_last {elt : Expr} {gens : List Comprehension} {scope : Scope} {pos : Pos} {depth : Nat} {tgt iter : Expr} (h : gens[depth]? = some ⟨tgt, iter, [], 0⟩) (h' : gens[depth + 1]? = none) (it acc : Value) (env : Env) :
    compTurn (.ListComp elt gens scope pos) depth it acc env = (standAt iter.pos >>= fun _ => pyNext it >>= fun r => match r with
      | none => pure (.done .next)
      | some v => letOwnedTupleGo tgt it v >>= fun _ => assign tgt env v >>= fun _ =>
        (eval elt env >>= fun x => call (.builtin "list.append") [acc, x] >>= fun _ => pure ()) >>= fun _ => again (.compLoop (.ListComp elt gens scope pos) depth it acc env)) := by
  unfold compTurn
  simp only [h, h']
  rfl
theorem compTurn_mid {elt : Expr} {gens : List Comprehension} {scope : Scope} {pos : Pos} {depth : Nat} {tgt iter t2 i2 : Expr} (h : gens[depth]? = some ⟨tgt, iter, [], 0⟩) (h' : gens[depth + 1]? = some ⟨t2, i2, [], 0⟩) (it acc : Value) (env : Env) :
    compTurn (.ListComp elt gens scope pos) depth it acc env = (standAt iter.pos >>= fun _ => pyNext it >>= fun r => match r with
      | none => pure (.done .next)
      | some v => letOwnedTupleGo tgt it v >>= fun _ => assign tgt env v >>= fun _ =>
        (eval i2 env >>= fun x => standAt i2.pos >>= fun _ => foldedSetIterable i2 env x >>= fun x => holding [x] (pyIter x) >>= fun it2 => runOwn (.compStart (.ListComp elt gens scope pos) (depth + 1) it2 acc env) env >>= fun _ => again (.compLoop (.ListComp elt gens scope pos) depth it acc env))) := by
  unfold compTurn
  simp only [h, h']
  rfl

theorem compStart_at {elt : Expr} {gens : List Comprehension} {scope : Scope} {pos : Pos} {depth : Nat} {g : Comprehension} (h : gens[depth]? = some g) (ha : g.is_async = 0) {it acc : Value} {env : Env} {R : Result → Shared → Prop} {s : Shared}
    (h0 : codeAny (model c.prog c.w) c.A (.compLoop (.ListComp elt gens scope pos) depth it acc env) R s)
    (h1 : wpAny (model c.prog c.w) c.A (pyIter it) (fun it' s' => codeAny (model c.prog c.w) c.A (.compLoop (.ListComp elt gens scope pos) depth it' acc env) R s') noE s) :
    codeAny (model c.prog c.w) c.A (.compStart (.ListComp elt gens scope pos) depth it acc env) R s := by
  refine codeAny_of_tree ?_
  show wpAny _ _ ((compStart (.ListComp elt gens scope pos) depth it acc env).onRaise (fun x => do noteFrame x env; standAt theWindowsPlace)) _ _ s
  refine wpAny_notedAt ?_
  unfold compStart
  have e1 : ((clausesOf (.ListComp elt gens scope pos))[depth]?).elim false (·.is_async != 0) = false := by
    show (gens[depth]?).elim false (·.is_async != 0) = false
    rw [h]; simp [ha]
  have e2 : (clausesOf (.ListComp elt gens scope pos))[depth]? = some g := h
  rw [e1, e2]
  simp only [Bool.false_eq_true, if_false]
  refine wpAny_bind (wpAny_askSetting (wpAny_ite ?_))
  split
  · first
      | exact wpAny_bind (wpAny_pure (wpAny_pure (And.intro rfl h0)))
      | exact wpAny_pure (And.intro rfl h0)
  · refine wpAny_bind (wpAny_rule ?_)
    refine wpAny_bind (wpAny_standAt ?_)
    exact wpAny_bind (wp_up h1 fun it' s' h' => wpAny_pure (And.intro rfl h'))

/-- the clauses, and what they give in all -/
noncomputable def EvC (c : Cx) (sc : Scope) (elt : Expr) : List Comprehension → (Str → Option D) → List D → Prop
  | [], ρ, out => ∃ d, Ev c sc ρ elt d ∧ out = [d]
  | g :: gs, ρ, out => ∃ (okT : Expr → Prop) (items : List D) (outs : List (List D)), okT g.target ∧ (∀ env x, foldedSetIterable g.iter env x = pure x) ∧ EvIt c sc ρ okT g.iter items ∧
      outs.length = items.length ∧ (∀ (j : Nat) d o, items[j]? = some d → outs[j]? = some o → ∃ ρ', Asg sc ρ g.target d ρ' ∧ (∀ x d, ρ x = some d → ρ' x = some d) ∧ EvC c sc elt gs ρ' o) ∧ out = outs.flatten

/-- what a loop hands on -/
def LoopPost (X₀ : Addr → Prop) (env : Env) (ρ : Str → Option D) (Da : Addr) (wr : Addr → Prop) (s : Shared) (done : List D) (r : Result) (s' : Shared) : Prop :=
  r = .ok .next ∧ EnvOk X₀ env s'.heap ρ ∧ Gw (fun a => Chg env a ∨ a = Da ∨ wr a) s s' ∧ ∃ ys, s'.heap.PlainList Da ys ∧ RdAll X₀ s'.heap ys.toList done

structure LoopPre (c : Cx) (sc : Scope) (ρ : Str → Option D) (X₀ X : Addr → Prop) (env : Env) (s : Shared) (Da : Addr) (fp wr : Addr → Prop) (ys : Array Value) (done : List D) : Prop where
  hs : env.scope = sc
  G : c.G s.heap
  eo : EnvOk X env s.heap ρ
  sp : ∀ a, X a ↔ X₀ a ∨ wr a
  ap : ∀ a, wr a → ¬ X₀ a
  xt₀ : XT X₀
  own₀ : ∀ a, Own env a → X₀ a
  fpO : ∀ a, Own env a → ¬ fp a
  acc : s.heap.PlainList Da ys
  Dx : X₀ Da
  Dt : ¬ tb Da
  Df : ¬ fp Da
  Do : ¬ Own env Da
  rd : RdAll X s.heap ys.toList done

theorem plain_of {h h' : Heap} {Da : Addr} {ys : Array Value} (x : h.PlainList Da ys) (k : ∀ o, h.get? Da = some o → h'.get? Da = some o) : h'.PlainList Da ys := x.at k

theorem getElem_drop {α : Type} {l r : List α} {a : α} {i : Nat} (h : l.drop i = a :: r) : l[i]? = some a ∧ l.drop (i + 1) = r := by
  obtain ⟨_, h2, h3⟩ := drop_cons_inv h.symm
  exact ⟨h2, h3.symm⟩
end
end Mine
namespace Mine
open PySem PySem.Spec PySem.Calls PyProof.Rows PySem.W

def Sub (ρ ρ' : Str → Option D) : Prop := ∀ x d, ρ x = some d → ρ' x = some d

section
variable {c : Cx} {sc : Scope}

/-- what one turn's body does -/
def BodyOk (c : Cx) (X : Addr → Prop) (env : Env) (ρ' : Str → Option D) (Da : Addr) (o : List D) (T : Sem Fin) (c' : Code) : Prop :=
  ∀ (s₁ : Shared) (ys₁ : Array Value) (done₁ : List D) (Q : Fin → Shared → Prop) (E : Value → Shared → Prop), c.G s₁.heap → EnvOk X env s₁.heap ρ' → s₁.heap.PlainList Da ys₁ → RdAll X s₁.heap ys₁.toList done₁ → done₁.length + o.length ≤ sizeLine →
    (∀ s₂ ys₂, EnvOk X env s₂.heap ρ' → Gw (fun a => Chg env a ∨ a = Da) s₁ s₂ → s₂.heap.PlainList Da ys₂ → RdAll X s₂.heap ys₂.toList (done₁ ++ o) → wpAny (model c.prog c.w) c.A (again c') Q E s₂) →
    wpAny (model c.prog c.w) c.A T Q E s₁

end

section
variable {c : Cx} {sc : Scope} {ρ : Str → Option D}
theorem loop_core (KG : Known c.G) {elt : Expr} {gens : List Comprehension} {scope : Scope} {pos : Pos} {depth : Nat} {tgt iter : Expr} {T : Value → Value → Env → Sem Fin} (hq : ∀ it acc env, Code.quiet (.compLoop (.ListComp elt gens scope pos) depth it acc env) = true)
    (hturn : ∀ it acc env, compTurn (.ListComp elt gens scope pos) depth it acc env = (standAt iter.pos >>= fun _ => pyNext it >>= fun r => match r with
      | none => pure (.done .next)
      | some v => letOwnedTupleGo tgt it v >>= fun _ => assign tgt env v >>= fun _ => T it acc env))
    (hh : c.A.handled = none) {okT : Expr → Prop} (hokT : okT tgt) {I : Addr} {fp wr : Addr → Prop} {St : (Addr → Prop) → List D → Heap → Prop} (W : It c okT I fp wr St) (hwt : ∀ b, wr b → ¬ tb b)
    {X₀ X : Addr → Prop} {env : Env} {Da : Addr} (hown : ∀ x ∈ tnames tgt, OwnN env x) :
    ∀ (items : List D) (outs : List (List D)) (s : Shared) (ys : Array Value) (done : List D), outs.length = items.length →
      (∀ (j : Nat) d o, items[j]? = some d → outs[j]? = some o → ∃ ρ', Asg sc ρ tgt d ρ' ∧ Sub ρ ρ' ∧ BodyOk c X env ρ' Da o (T (.ref I) (.ref Da) env) (.compLoop (.ListComp elt gens scope pos) depth (.ref I) (.ref Da) env)) →
      St X items s.heap → LoopPre c sc ρ X₀ X env s Da fp wr ys done → done.length + outs.flatten.length ≤ sizeLine →
      codeAny (model c.prog c.w) c.A (.compLoop (.ListComp elt gens scope pos) depth (.ref I) (.ref Da) env) (LoopPost X₀ env ρ Da wr s (done ++ outs.flatten)) s := by
  intro items
  induction items with
  | nil =>
    intro outs s ys done hl hb st P hz
    have : outs = [] := List.length_eq_zero_iff.mp hl
    subst this
    refine codeAny_of_tree ?_
    show wpAny _ _ ((compTurn (.ListComp elt gens scope pos) depth (.ref I) (.ref Da) env).onRaise (fun x => do noteFrame x env; theTreesLotGoes x)) _ _ s
    refine wpAny_noted ?_
    rw [hturn]
    refine wpAny_bind (wpAny_standAt (wpAny_bind (wp_up (W.done X s st) fun r s' h => ?_)))
    obtain ⟨rfl, g⟩ := h
    have hap : ∀ h h', c.G h → Kp X h h' → c.G h' := fun h h' => KG.apart X h h' P.eo.xt.hi
    refine wpAny_pure ⟨rfl, ?_, g.wide fun a q => .inr (.inr q), ys, ?_, ?_⟩
    · refine P.eo.leave g (fun a ha => ⟨(P.sp a).mpr (.inr ha), fun q => P.fpO a q (W.sub a ha)⟩) (fun a ha => (P.sp a).mpr (.inl ha)) P.own₀ P.xt₀ fun a ha => ?_
      by_cases ht : tb a
      · obtain ⟨ps, hp⟩ := KG.table _ (hap _ _ P.G (g.kp.wide fun a q => (P.sp a).mpr (.inr q))) a ht
        exact ⟨_, hp⟩
      · obtain ⟨o, ho⟩ := P.eo.al a ((P.sp a).mpr (.inl ha))
        exact ⟨o, g.kp.keep a o (fun q => P.ap a q ha) ht ho⟩
    · exact P.acc.at fun o q => g.kp.keep _ o (fun z => P.ap _ z P.Dx) P.Dt q
    · rw [List.flatten_nil, List.append_nil]
      refine (P.rd.mono fun b o hx q => ?_).less fun a ha => (P.sp a).mpr (.inl ha)
      exact g.kp.keep b o (fun z => hx ((P.sp b).mpr (.inr z))) (fun z => hx (P.eo.xt.tbs b z)) q
  | cons d items ih =>
    intro outs s ys done hl hb st P hz
    cases outs with
    | nil => exact absurd hl (by simp)
    | cons o outs =>
      refine codeAny_of_tree ?_
      show wpAny _ _ ((compTurn (.ListComp elt gens scope pos) depth (.ref I) (.ref Da) env).onRaise (fun x => do noteFrame x env; theTreesLotGoes x)) _ _ s
      refine wpAny_noted ?_
      rw [hturn]
      have hap : ∀ h h', c.G h → Kp X h h' → c.G h' := fun h h' => KG.apart X h h' P.eo.xt.hi
      have wX : ∀ b, wr b → X b := fun b q => (P.sp b).mpr (.inr q)
      have Yw : ∀ a, wr a → X a ∧ ¬ Own env a := fun a ha => ⟨wX a ha, fun q => P.fpO a q (W.sub a ha)⟩
      refine wpAny_bind (wpAny_standAt (wpAny_bind (wp_up (W.next X d items s wX P.eo.xt P.eo.al st) fun r s₁ h₁ => ?_)))
      obtain ⟨v, rfl, g₁, r₁, hgo⟩ := h₁
      refine wpAny_bind (wp_up (hgo tgt hokT) fun _ s₂ h₂ => ?_)
      obtain ⟨g₂, st₂⟩ := h₂
      have g₁₂ := g₁.trans g₂
      have r₂ : Rd X s₂.heap v d := r₁.gw P.eo.xt (g₂.wide wX)
      have hG₂ : c.G s₂.heap := hap _ _ P.G (g₁₂.kp.wide wX)
      have alX : AL X s₂.heap := fun a ha => by
        rcases (P.sp a).mp ha with q | q
        · by_cases ht : tb a
          · obtain ⟨ps, hp⟩ := KG.table _ hG₂ a ht
            exact ⟨_, hp⟩
          · obtain ⟨o, ho⟩ := P.eo.al a ha
            exact ⟨o, g₁₂.kp.keep a o (fun z => P.ap a z q) ht ho⟩
        · exact W.ex X items s₂.heap st₂ a q
      have eo₂ : EnvOk X env s₂.heap ρ := P.eo.leave g₁₂ Yw (fun _ q => q) (fun a q => (own_X P.eo q).1) P.eo.xt alX
      obtain ⟨ρ', ha, hsub, hbody⟩ := hb 0 d o rfl rfl
      refine wpAny_bind (wp_up (assign_ok hh eo₂ P.hs ha hown r₂) fun _ s₃ h₃ => ?_)
      obtain ⟨eo₃, g₃⟩ := h₃
      have OX : ∀ a, Chg env a → X a := fun a q => (own_X P.eo (chg_own q)).1
      have hG₃ : c.G s₃.heap := hap _ _ hG₂ (g₃.kp.wide OX)
      have acc₃ : s₃.heap.PlainList Da ys := (P.acc.at fun o q => g₁₂.kp.keep _ o (fun z => P.ap _ z P.Dx) P.Dt q).at fun o q => g₃.kp.keep _ o (fun z => P.Do (chg_own z)) P.Dt q
      have rd₃ : RdAll X s₃.heap ys.toList done := (P.rd.gw P.eo.xt (g₁₂.wide wX)).gw P.eo.xt (g₃.wide OX)
      rw [List.flatten_cons, List.length_append] at hz
      refine hbody s₃ ys done _ _ hG₃ eo₃ acc₃ rd₃ (by omega) fun s₄ ys₄ eo₄ g₄ acc₄ rd₄ => ?_
      refine wpAny_pure ⟨hq _ _ _, ?_⟩
      have YX : ∀ a, (Chg env a ∨ a = Da) → X a := fun a q => q.elim (OX a) fun z => z ▸ (P.sp Da).mpr (.inl P.Dx)
      have hG₄ : c.G s₄.heap := hap _ _ hG₃ (g₄.kp.wide YX)
      have eo₄' : EnvOk X env s₄.heap ρ := eo₄.sub hsub
      have g₃₄ : Gw (fun a => Chg env a ∨ a = Da) s₂ s₄ := (g₃.wide fun a q => .inl q).trans g₄
      have st₄ : St X items s₄.heap := W.frame X items _ _ P.eo.xt st₂ fun b o hb ht q => g₃₄.kp.keep b o (fun z => by
        rcases hb with hb' | hb'
        · exact hb' (YX b z)
        · rcases z with z | z
          · exact P.fpO b (chg_own z) hb'
          · exact P.Df (z ▸ hb')) ht q
      have P₄ : LoopPre c sc ρ X₀ X env s₄ Da fp wr ys₄ (done ++ o) := ⟨P.hs, hG₄, eo₄', P.sp, P.ap, P.xt₀, P.own₀, P.fpO, acc₄, P.Dx, P.Dt, P.Df, P.Do, rd₄⟩
      have := ih outs s₄ ys₄ (done ++ o) (by simpa using hl) (fun j d' o' a b => hb (j + 1) d' o' (by simpa using a) (by simpa using b)) st₄ P₄ (by rw [List.length_append]; omega)
      refine codeAny_mono this fun r s' h => ?_
      obtain ⟨h1, h2, h3, ys', h4, h5⟩ := h
      refine ⟨h1, h2, ?_, ys', h4, by rw [List.flatten_cons, ← List.append_assoc]; exact h5⟩
      exact ((g₁₂.wide fun a q => .inr (.inr q)).trans (g₃₄.wide fun a q => q.elim .inl fun z => .inr (.inl z))).trans h3

theorem Xok.push {X : Addr → Prop} {h : Heap} {o : Obj} (x : Xok X h) : Xok X (h.push o) := ⟨x.xt, fun a ha => let ⟨p, e⟩ := x.al a ha; ⟨p, Heap.get?_push_of_some _ e⟩⟩

theorem comp_clauses (KG : Known c.G) (hl : Lim c) {elt : Expr} {gens : List Comprehension} {scope : Scope} {pos : Pos} (hpl : ∀ g ∈ gens, g.ifs = [] ∧ g.is_async = 0) : ∀ (gs : List Comprehension) (depth : Nat) (tgt iter : Expr), gens.drop depth = ⟨tgt, iter, [], 0⟩ :: gs →
    ∀ {okT : Expr → Prop} {I : Addr} {fp wr : Addr → Prop} {St : (Addr → Prop) → List D → Heap → Prop} {ρ : Str → Option D} {X₀ X : Addr → Prop} {env : Env} {Da : Addr} (_ : ∀ g ∈ gens, ∀ x ∈ tnames g.target, OwnN env x) (items : List D) (outs : List (List D)) (s : Shared) (ys : Array Value) (done : List D),
      okT tgt → It c okT I fp wr St → (∀ b, wr b → ¬ tb b) → outs.length = items.length →
      (∀ (j : Nat) d o, items[j]? = some d → outs[j]? = some o → ∃ ρ', Asg sc ρ tgt d ρ' ∧ Sub ρ ρ' ∧ EvC c sc elt gs ρ' o) →
      St X items s.heap → LoopPre c sc ρ X₀ X env s Da fp wr ys done → done.length + outs.flatten.length ≤ sizeLine →
      codeAny (model c.prog c.w) c.A (.compLoop (.ListComp elt gens scope pos) depth (.ref I) (.ref Da) env) (LoopPost X₀ env ρ Da wr s (done ++ outs.flatten)) s := by
  intro gs
  induction gs with
  | nil =>
    intro depth tgt iter hd okT I fp wr St ρ X₀ X env Da hown items outs s ys done hokT W hwt hlen hstep st P hz
    obtain ⟨e1, e2⟩ := getElem_drop hd
    have e3 : gens[depth + 1]? = none := by
      have : gens.length ≤ depth + 1 := by
        have := congrArg List.length e2
        rw [List.length_drop, List.length_nil] at this
        omega
      exact List.getElem?_eq_none this
    refine loop_core KG (fun _ _ _ => rfl) (compTurn_last e1 e3) hl.hand hokT W hwt (fun x hx => hown _ (List.mem_of_getElem? e1) x hx) items outs s ys done hlen (fun j d o a b => ?_) st P hz
    obtain ⟨ρ', h1, h2, d', h3, rfl⟩ := hstep j d o a b
    refine ⟨ρ', h1, h2, fun s₁ ys₁ done₁ Q E hG eo acc rd hz' K => ?_⟩
    refine wpAny_bind (wpAny_bind (wp_up (h3 X env s₁ P.hs hG eo) fun v s₂ h₂ => ?_))
    obtain ⟨g₂, r₂⟩ := h₂
    have acc₂ : s₂.heap.PlainList Da ys₁ := acc.at fun o q => g₂.kp.keep _ o (fun z => z) P.Dt q
    have eo₂ := eo.gw KG g₂ hG
    have rd₂ := rd.gw eo.xt g₂.none
    have hsz : ys₁.size ≤ sizeLine := by
      have e : ys₁.size = done₁.length := by have := rd.1; simpa using this
      rw [e]; omega
    refine wpAny_bind (wpAny_list_append_plain (hsz := hsz) acc₂ fun h' hl' hs' => wpAny_pure ?_)
    have DX : X Da := (P.sp Da).mpr (.inl P.Dx)
    have g₃ : Gw (fun a => Chg env a ∨ a = Da) s₁ { s₂ with heap := h' } := g₂.none.trans (.heap (tk := s₂.toks) (.all (fun b hb z => z.elim (fun q => (own_X P.eo (chg_own q)).2 hb) fun q => P.Dt (q ▸ hb)) fun b o hb q => hs'.extBut b o (fun z => hb (.inr z)) q))
    refine K { s₂ with heap := h' } (ys₁.push v) ?_ g₃ hl' ?_
    · refine eo₂.leave (s' := { s₂ with heap := h' }) (X₀ := X) (Y := fun a => a = Da) (.heap (tk := s₂.toks) (.all (fun b hb z => P.Dt (z ▸ hb)) fun b o hb q => hs'.extBut b o hb q)) (fun a ha => ha ▸ ⟨DX, P.Do⟩) (fun _ q => q) (fun a q => (own_X eo q).1) eo.xt fun a ha => ?_
      by_cases hD : a = Da
      · obtain ⟨n, q⟩ := hl'; exact ⟨_, hD ▸ q⟩
      · obtain ⟨o, q⟩ := eo₂.al a ha; exact ⟨o, hs'.extBut a o hD q⟩
    · rw [Array.toList_push]
      exact (rd₂.append (.one r₂)).mono fun b o hx q => hs'.extBut b o (fun z => hx (z ▸ DX)) q
  | cons g2 gs ih =>
    intro depth tgt iter hd okT I fp wr St ρ X₀ X env Da hown items outs s ys done hokT W hwt hlen hstep st P hz
    obtain ⟨e1, e2⟩ := getElem_drop hd
    obtain ⟨t2, i2, ifs2, as2⟩ := g2
    have hg : ifs2 = [] ∧ as2 = 0 := hpl _ (List.mem_of_mem_drop (e2 ▸ List.mem_cons_self))
    obtain ⟨rfl, rfl⟩ := hg
    obtain ⟨e3, e4⟩ := getElem_drop e2
    refine loop_core KG (fun _ _ _ => rfl) (compTurn_mid e1 e3) hl.hand hokT W hwt (fun x hx => hown _ (List.mem_of_getElem? e1) x hx) items outs s ys done hlen (fun j d o a b => ?_) st P hz
    obtain ⟨ρ', h1, h2, okT2, items2, outs2, hok2, hset, hev, hlen2, hstep2, rfl⟩ := hstep j d o a b
    refine ⟨ρ', h1, h2, fun s₁ ys₁ done₁ Q E hG eo acc rd hz' K => ?_⟩
    refine wpAny_bind (wp_up (hev X env s₁ P.hs hG eo) fun x s₂ h₂ => ?_)
    refine wpAny_bind (wpAny_standAt ?_)
    rw [hset]
    refine wpAny_bind (wpAny_pure ?_)
    refine wpAny_bind (wpAny_holding (wp_up h₂ fun it s₃ h₃ => ?_))
    obtain ⟨I2, fp2, wr2, St2, rfl, g₃, W2, hw2, hf2, hst2⟩ := h₃
    have hG₃ := KG.keeps _ _ hG g₃.kp
    have OX : ∀ a, Own env a → X a := fun a q => (own_X eo q).1
    have DX : X Da := (P.sp Da).mpr (.inl P.Dx)
    have k₃ : ∀ b o, ¬ tb b → s₁.heap.get? b = some o → s₃.heap.get? b = some o := fun b o ht q => g₃.kp.keep b o (fun z => z) ht q
    have xt' : XT (fun a => X a ∨ wr2 a) := ⟨fun b hb => .inl (eo.xt.tbs b hb), fun a ha => ha.elim (eo.xt.hi a) fun q => .inr (hw2 a q).2.2⟩
    have al' : AL (fun a => X a ∨ wr2 a) s₃.heap := fun a ha => by
      rcases ha with q | q
      · exact (eo.xok.gw KG hG g₃).al a q
      · exact (hf2 a (W2.sub a q)).1
    have fresh' : ∀ a, (X a ∨ wr2 a) → X a ∨ s₁.heap.get? a = none := fun a ha => ha.imp id fun q => (hw2 a q).1
    have eo₃ : EnvOk (fun a => X a ∨ wr2 a) env s₃.heap ρ' := eo.grow xt' k₃ (fun a q => .inl q) al' fresh'
    have acc₃ : s₃.heap.PlainList Da ys₁ := acc.at fun o q => k₃ _ o P.Dt q
    have rd₃ : RdAll (fun a => X a ∨ wr2 a) s₃.heap ys₁.toList done₁ := (rd.more fresh').mono fun b o hx q => k₃ b o (fun z => hx (.inl (eo.xt.tbs b z))) q
    have P₃ : LoopPre c sc ρ' X (fun a => X a ∨ wr2 a) env s₃ Da fp2 wr2 ys₁ done₁ :=
      ⟨P.hs, hG₃, eo₃, fun a => Iff.rfl, (fun a q z => by
        obtain ⟨o, ho⟩ := eo.al a z
        rw [(hw2 a q).1] at ho; cases ho), eo.xt, OX, fun a q z => (hf2 a z).2 (OX a q), acc₃, DX, P.Dt, fun z => (hf2 Da z).2 DX, P.Do, rd₃⟩
    have st₃ : St2 (fun a => X a ∨ wr2 a) items2 s₃.heap := hst2 _ xt' fun a ha => ha.elim .inl fun q => .inr (.inl q)
    have loop := ih (depth + 1) t2 i2 e2 hown items2 outs2 s₃ ys₁ done₁ hok2 W2 (fun b q => (hw2 b q).2.1) hlen2 hstep2 st₃ P₃ hz'
    refine wpAny_bind (wpAny_runOwn ?_)
    show codeAny (model c.prog c.w) c.A _ _ s₃
    have fin : ∀ r s', LoopPost X env ρ' Da wr2 s₃ (done₁ ++ outs2.flatten) r s' → match r with | .ok f => wpAny (model c.prog c.w) c.A (again (.compLoop (.ListComp elt gens scope pos) depth (.ref I) (.ref Da) env)) Q E s' | .error e => cameBackBy (model c.prog c.w) c.A env E e s' := fun r s' h => by
      obtain ⟨rfl, eo', g', ys', acc', rd'⟩ := h
      refine K s' ys' eo' ?_ acc' rd'
      refine (g₃.none.trans g').narrow fun a ha => ?_
      rcases ha with q | q | q
      · exact .inl (.inl q)
      · exact .inl (.inr q)
      · exact .inr (hw2 a q).1
    exact compStart_at e3 rfl (codeAny_mono loop fin) (wp_up (W2.self _ _ _ st₃) fun r s' h => by obtain ⟨rfl, rfl⟩ := h; exact codeAny_mono loop fin)
end
end Mine
namespace Mine
open PySem PySem.Spec PySem.Calls PyProof.Rows PySem.W

/-- the scope of a comprehension's own frame, inside this scope -/
def relD (sc scope : Scope) : Scope :=
  { scope with names := scope.names.map fun (n, k) => if (k == .free && sc.kind == .function && sc.names.lookup n == some .cell) then (n, .cell) else (n, k) }
theorem rel_eq (scope : Scope) (env : Env) : relabel scope env = relD env.scope scope := rfl

theorem lookup_rel {sc : Scope} : ∀ {names : List (Str × NameKind)} {x : Str},
    (names.map fun (n, k) => if (k == NameKind.free && sc.kind == .function && sc.names.lookup n == some .cell) then (n, NameKind.cell) else (n, k)).lookup x =
      (names.lookup x).map fun k => if (k == NameKind.free && sc.kind == .function && sc.names.lookup x == some .cell) then NameKind.cell else k
  | [], _ => rfl
  | (n, k) :: r, x => by
    have ih := @lookup_rel sc r x
    rw [List.map_cons]
    dsimp only
    cases hx : x == n with
    | true =>
      have : x = n := by simpa using hx
      subst this
      by_cases hc : (k == NameKind.free && sc.kind == .function && sc.names.lookup x == some .cell) = true
      · rw [if_pos hc]; simp only [List.lookup_cons, hx, Option.map_some, if_pos hc]
      · rw [if_neg hc]; simp only [List.lookup_cons, hx, Option.map_some, if_neg hc]
    | false =>
      by_cases hc : (k == NameKind.free && sc.kind == .function && sc.names.lookup n == some .cell) = true
      · rw [if_pos hc]; simp only [List.lookup_cons, hx]; exact ih
      · rw [if_neg hc]; simp only [List.lookup_cons, hx]; exact ih

structure CompSt (sc scope : Scope) (gens : List Comprehension) : Prop where
  kf : scope.kind = .function
  nd : (scope.names.map (·.1)).Nodup
  fr : ∀ x ∈ scope.names, x.2 = .free → sc.names.lookup x.1 = some .cell
  tg : ∀ g ∈ gens, ∀ x ∈ tnames g.target, scope.names.lookup x = some .local ∨ scope.names.lookup x = some .cell
  pl : ∀ g ∈ gens, g.ifs = [] ∧ g.is_async = 0
def compStB (sc scope : Scope) (gens : List Comprehension) : Bool :=
  (scope.kind == .function) && decide ((scope.names.map (·.1)).Nodup) && (scope.names.all fun x => !(x.2 == .free) || (sc.names.lookup x.1 == some .cell)) &&
    gens.all fun g => g.ifs.isEmpty && (g.is_async == 0) && (tnames g.target).all fun x => scope.names.lookup x == some .local || scope.names.lookup x == some .cell
theorem compSt_of {sc scope : Scope} {gens : List Comprehension} (h : compStB sc scope gens = true) : CompSt sc scope gens := by
  unfold compStB at h
  simp only [Bool.and_eq_true, decide_eq_true_eq, List.all_eq_true, beq_iff_eq, Bool.or_eq_true, List.isEmpty_iff] at h
  obtain ⟨⟨⟨h1, h2⟩, h3⟩, h4⟩ := h
  refine ⟨h1, h2, fun x hx hf => ?_, fun g hg x hx => (h4 g hg).2 x hx, fun g hg => ⟨(h4 g hg).1.1, (h4 g hg).1.2⟩⟩
  rcases h3 x hx with q | q
  · rw [hf] at q; simp at q
  · exact q

/-- the cells it catches -/
noncomputable def caught (env : Env) : List (Str × NameKind) → List (Str × Addr) → List (Str × Addr)
  | [], acc => acc
  | (n, k) :: r, acc => if k == .free then caught env r ((n, (env.cells.lookup n).getD 0) :: acc) else caught env r acc
theorem closure_of {scope : Scope} {env : Env} (h : ∀ x ∈ scope.names, x.2 = .free → (env.cells.lookup x.1).isSome = true) : closureFor scope env = pure (caught env scope.names []) := by
  unfold closureFor
  have : ∀ (names : List (Str × NameKind)) (acc : List (Str × Addr)), (∀ x ∈ names, x.2 = .free → (env.cells.lookup x.1).isSome = true) →
      (forIn names acc fun (x : Str × NameKind) (r : List (Str × Addr)) => (if (x.2 == .free) = true then do let c ← cellOf env x.1; pure (ForInStep.yield ((x.1, c) :: r)) else pure (ForInStep.yield r) : Sem _)) = pure (caught env names acc) := by
    intro names
    induction names with
    | nil => intro acc _; rfl
    | cons x r ih =>
      intro acc hx
      obtain ⟨n, k⟩ := x
      rw [List.forIn_cons, caught]
      by_cases hk : (k == NameKind.free) = true
      · obtain ⟨c, hc⟩ := Option.isSome_iff_exists.mp (hx _ (.head _) (by simpa using hk))
        have e : cellOf env n = pure c := by unfold cellOf; rw [show env.cells.lookup n = some c from hc]
        dsimp only
        rw [if_pos hk, if_pos hk, e, show env.cells.lookup n = some c from hc]
        simp only [pure_bind, Option.getD_some]
        exact ih _ fun y hy => hx y (.tail _ hy)
      · dsimp only
        rw [if_neg hk, if_neg hk, pure_bind]
        exact ih _ fun y hy => hx y (.tail _ hy)
  have h' := this scope.names [] h
  simp only [bind_pure]
  exact h'
theorem caught_app (env : Env) : ∀ (names : List (Str × NameKind)) (acc : List (Str × Addr)), caught env names acc = caught env names [] ++ acc
  | [], acc => rfl
  | (n, k) :: r, acc => by
    unfold caught
    split
    · rw [caught_app env r (_ :: acc), caught_app env r [_], List.append_assoc]; rfl
    · exact caught_app env r acc
theorem cellsFrom_app : ∀ (names : List (Str × NameKind)) (n : Nat) (acc : List (Str × Addr)), cellsFrom n names acc = cellsFrom n names [] ++ acc
  | [], _, acc => rfl
  | (x, k) :: r, n, acc => by
    unfold cellsFrom
    split
    · rw [cellsFrom_app r (n + 1) (_ :: acc), cellsFrom_app r (n + 1) [_], List.append_assoc]; rfl
    · exact cellsFrom_app r n acc
theorem mem_caught {env : Env} : ∀ {names : List (Str × NameKind)} {p : Str × Addr}, p ∈ caught env names [] → (p.1, .free) ∈ names ∧ p.2 = (env.cells.lookup p.1).getD 0
  | [], _, h => nomatch h
  | (n, k) :: r, p, h => by
    unfold caught at h
    split at h
    · rename_i hk
      rw [caught_app] at h
      rcases List.mem_append.mp h with q | q
      · exact ⟨.tail _ (mem_caught q).1, (mem_caught q).2⟩
      · have : p = (n, (env.cells.lookup n).getD 0) := by simpa using q
        subst this
        have : k = .free := by simpa using hk
        subst this
        exact ⟨.head _, rfl⟩
    · exact ⟨.tail _ (mem_caught h).1, (mem_caught h).2⟩
theorem mem_cellsFrom : ∀ {names : List (Str × NameKind)} {n : Nat} {p : Str × Addr}, p ∈ cellsFrom n names [] → (p.1, .cell) ∈ names ∧ n ≤ p.2
  | [], _, _, h => nomatch h
  | (x, k) :: r, n, p, h => by
    unfold cellsFrom at h
    split at h
    · rename_i hk
      rw [cellsFrom_app] at h
      rcases List.mem_append.mp h with q | q
      · exact ⟨.tail _ (mem_cellsFrom q).1, Nat.le_of_succ_le (mem_cellsFrom q).2⟩
      · have : p = (x, n) := by simpa using q
        subst this
        have : k = .cell := by simpa using hk
        subst this
        exact ⟨.head _, Nat.le_refl _⟩
    · exact ⟨.tail _ (mem_cellsFrom h).1, (mem_cellsFrom h).2⟩
theorem cellsFrom_has : ∀ {names : List (Str × NameKind)} {n : Nat} {x : Str}, (x, .cell) ∈ names → ∃ c, (x, c) ∈ cellsFrom n names []
  | [], _, _, h => nomatch h
  | (y, k) :: r, n, x, h => by
    unfold cellsFrom
    rcases List.mem_cons.mp h with q | q
    · cases q
      rw [if_pos (show (NameKind.cell == NameKind.cell) = true from rfl), cellsFrom_app]
      exact ⟨n, List.mem_append.mpr (.inr (.head _))⟩
    · split
      · rw [cellsFrom_app]
        obtain ⟨c, hc⟩ := cellsFrom_has (n := n + 1) q
        exact ⟨c, List.mem_append.mpr (.inl hc)⟩
      · exact cellsFrom_has q
theorem caught_has {env : Env} : ∀ {names : List (Str × NameKind)} {x : Str}, (x, .free) ∈ names → (x, (env.cells.lookup x).getD 0) ∈ caught env names []
  | [], _, h => nomatch h
  | (y, k) :: r, x, h => by
    unfold caught
    rcases List.mem_cons.mp h with q | q
    · cases q
      rw [if_pos (show (NameKind.free == NameKind.free) = true from rfl), caught_app]
      exact List.mem_append.mpr (.inr (.head _))
    · split
      · rw [caught_app]; exact List.mem_append.mpr (.inl (caught_has q))
      · exact caught_has q
theorem nodup_kind : ∀ {names : List (Str × NameKind)} {x : Str} {k l : NameKind}, (names.map (·.1)).Nodup → (x, k) ∈ names → (x, l) ∈ names → k = l
  | [], _, _, _, _, h, _ => nomatch h
  | (y, j) :: r, x, k, l, nd, h, h' => by
    rw [List.map_cons, List.nodup_cons] at nd
    rcases List.mem_cons.mp h with e | e <;> rcases List.mem_cons.mp h' with e' | e'
    · cases e; cases e'; rfl
    · cases e; exact absurd (List.mem_map_of_mem (f := (·.1)) e') nd.1
    · cases e'; exact absurd (List.mem_map_of_mem (f := (·.1)) e) nd.1
    · exact nodup_kind nd.2 e e'
theorem lookup_of_mem {α : Type} : ∀ {l : List (Str × α)} {x : Str} {c : α}, (l.map (·.1)).Nodup → (x, c) ∈ l → l.lookup x = some c
  | [], _, _, _, h => nomatch h
  | (y, d) :: r, x, c, nd, h => by
    rw [List.map_cons, List.nodup_cons] at nd
    rw [List.lookup_cons]
    rcases List.mem_cons.mp h with e | e
    · cases e; simp
    · have : (x == y) = false := by
        refine beq_eq_false_iff_ne.mpr fun q => nd.1 ?_
        subst q; exact List.mem_map_of_mem (f := (·.1)) e
      rw [this]; exact lookup_of_mem nd.2 e
theorem lookup_none_of {α : Type} : ∀ {l : List (Str × α)} {x : Str}, (∀ p ∈ l, p.1 ≠ x) → l.lookup x = none
  | [], _, _ => rfl
  | (y, d) :: r, x, h => by
    rw [List.lookup_cons, beq_eq_false_iff_ne.mpr (fun q => h _ (.head _) q.symm)]
    exact lookup_none_of fun p hp => h p (.tail _ hp)
theorem lookup_some_of {α : Type} : ∀ {l : List (Str × α)} {x : Str} {c : α}, (x, c) ∈ l → (∀ d, (x, d) ∈ l → d = c) → l.lookup x = some c
  | [], _, _, h, _ => nomatch h
  | (y, d) :: r, x, c, h, u => by
    rw [List.lookup_cons]
    cases q : x == y with
    | true =>
      have : x = y := by simpa using q
      subst this
      rw [u d (.head _)]
    | false =>
      rcases List.mem_cons.mp h with e | e
      · cases e; simp at q
      · exact lookup_some_of e fun z hz => u z (.tail _ hz)

/-- what the frame of a comprehension knows at first -/
def inner (scope : Scope) (ρ : Str → Option D) : Str → Option D := fun x => if scope.names.lookup x = some .free then ρ x else none

section
variable {c : Cx} {sc : Scope} {ρ : Str → Option D}

noncomputable def compCells (env : Env) (scope : Scope) (L : Nat) : List (Str × Addr) := cellsFrom (L + 1) scope.names (caught env scope.names [])
noncomputable def compEnvX (scope : Scope) (env : Env) (L : Nat) : Env := { newEnv scope L env.globals (compCells env scope L) env.qual none .none (some env) builtinsNs with scope := relabel scope env }

theorem wpAny_newComp {A : Around} {scope : Scope} {env : Env} {s : Shared} {Q : Env → Shared → Prop} {E : Value → Shared → Prop} {M : Model}
    (h : Q (newEnv scope s.heap.objs.size env.globals (compCells env scope s.heap.objs.size) env.qual none .none (some env) builtinsNs) { s with heap := pushCells (s.heap.push { cls := .type "dict", data := .dict #[] }) scope.names }) :
    wpAny M A (newFunctionEnv scope env.globals (caught env scope.names []) [] env.qual none .none (some env)) Q E s := by
  simp only [newFunctionEnv, Option.isSome_some, if_true]
  refine wpAny_bind (wpAny_alloc ?_)
  refine wpAny_bind (wpAny_layCells _ (fun name kind cells => by cases hkc : kind == NameKind.cell <;> simp) _ _ _ _ ?_)
  rw [show ({ s with heap := s.heap.push { cls := .type "dict", data := .dict #[] } } : Shared).heap.objs.size = s.heap.objs.size + 1 from Heap.size_push ..]
  exact wpAny_bind (wpAny_pure (wpAny_pure h))

/-- the places of the new frame -/
def newX (X : Addr → Prop) (scope : Scope) (Da L : Addr) : Addr → Prop := fun a => X a ∨ a = Da ∨ a = L ∨ ∃ p ∈ cellsFrom (L + 1) scope.names [], a = p.2
theorem newX_fresh {X : Addr → Prop} {scope : Scope} {n : Nat} {a : Addr} (h : newX X scope n (n + 1) a) : X a ∨ @LE.le Nat _ n a := by
  rcases h with q | rfl | rfl | ⟨p, hp, rfl⟩
  · exact .inl q
  · exact .inr (Nat.le_refl _)
  · exact .inr (Nat.le_succ _)
  · exact .inr (by have := (mem_cellsFrom hp).2; omega)
theorem inner_env (KG : Known c.G) {gens : List Comprehension} {X : Addr → Prop} {env : Env} {h : Heap} {scope : Scope} (st : CompSt env.scope scope gens) (eo : EnvOk X env h ρ) (hG : c.G h) {o : Obj} (hof : o.isFreed = false) {L : Addr} (hL : L = h.objs.size + 1) :
    EnvOk (newX X scope h.objs.size L) (compEnvX scope env L) (pushCells ((h.push o).push { cls := .type "dict", data := .dict #[] }) scope.names) (inner scope ρ) ∧
    (∀ x, scope.names.lookup x = some .local ∨ scope.names.lookup x = some .cell → OwnN (compEnvX scope env L) x) ∧
    (∀ a, Own (compEnvX scope env L) a → newX X scope h.objs.size L a ∧ a ≠ h.objs.size ∧ (@LT.lt Nat _ h.objs.size a ∨ X a)) ∧
    (∀ a, Chg (compEnvX scope env L) a → @LT.lt Nat _ h.objs.size a) := by
  have hbig : @LE.le Nat _ low h.objs.size := KG.big _ hG
  have hsz : (h.push o).objs.size = L := by rw [hL, Heap.size_push]
  generalize hH : pushCells ((h.push o).push { cls := .type "dict", data := .dict #[] }) scope.names = H
  have kp1 : ∀ b o', (h.push o).get? b = some o' → H.get? b = some o' := fun b o' q => hH ▸ pushCells_keeps _ _ b o' (Heap.get?_push_of_some _ q)
  have kp : ∀ b o', h.get? b = some o' → H.get? b = some o' := fun b o' q => kp1 b o' (Heap.get?_push_of_some _ q)
  have ok : CellsOk H (L + 1) (cellsFrom (L + 1) scope.names []) := by
    have := cellsFrom_ok scope.names ((h.push o).push { cls := .type "dict", data := .dict #[] }) (L + 1) [] ⟨fun _ _ hm => (nomatch hm), List.Pairwise.nil⟩ (by rw [Heap.size_push, hsz]; exact Nat.le_refl _)
    rw [Heap.size_push, hsz, hH] at this
    exact this
  have hcells : (compEnvX scope env L).cells = cellsFrom (L + 1) scope.names [] ++ caught env scope.names [] := cellsFrom_app _ _ _
  have fr : ∀ n, (n, NameKind.free) ∈ scope.names → ∃ a, env.cells.lookup n = some a ∧ (n, a) ∈ env.cells := fun n hn => by
    have := eo.hasC n (st.fr _ hn rfl)
    obtain ⟨a, ha⟩ := Option.isSome_iff_exists.mp this
    exact ⟨a, ha, mem_of_lookup ha⟩
  have cg : ∀ p, p ∈ caught env scope.names [] → env.cells.lookup p.1 = some p.2 ∧ p ∈ env.cells ∧ (p.1, NameKind.free) ∈ scope.names := fun p hp => by
    obtain ⟨h1, h2⟩ := mem_caught hp
    obtain ⟨a, h3, h4⟩ := fr _ h1
    have : p = (p.1, a) := by rw [h3] at h2; exact Prod.ext rfl h2
    rw [this]; exact ⟨h3, h4, h1⟩
  have lk : ∀ x, (relabel scope env).names.lookup x = (scope.names.lookup x).map fun k => if (k == NameKind.free && env.scope.kind == .function && env.scope.names.lookup x == some .cell) then NameKind.cell else k := fun x => lookup_rel
  have lkf : ∀ x, scope.names.lookup x = some .free → (compEnvX scope env L).kindOf x = some .cell := fun x hx => by
    show (relabel scope env).names.lookup x = _
    rw [lk, hx, Option.map_some, if_pos]
    simp [eo.kind, st.fr _ (mem_of_lookup hx) rfl]
  have fresh : ∀ a, @LE.le Nat _ h.objs.size a → h.get? a = none := fun a ha => size_none _ ha
  have hcl : ∀ p ∈ cellsFrom (L + 1) scope.names [], @LT.lt Nat _ L p.2 := fun p hp => (mem_cellsFrom hp).2
  have cX : ∀ p ∈ env.cells, X p.2 ∧ @LT.lt Nat _ p.2 h.objs.size := fun p hp => by
    obtain ⟨q1, q2, q3, v, o, q4, q5⟩ := eo.cells p hp
    exact ⟨q1, Heap.lt_size q4⟩
  have ntL : ∀ a, @LE.le Nat _ h.objs.size a → ¬ tb a := fun a ha => fresh_ntb KG hG (fresh a ha)
  refine ⟨⟨st.kf, eo.glob, eo.blt, ⟨fun b hb => .inl (eo.xt.tbs b hb), fun a ha => ?_⟩, fun a ha => ?_, ntL L (by rw [hL]; exact Nat.le_succ _), .inr (.inr (.inl rfl)), ⟨fun _ => none, ?_, fun x d hx hk => ?_⟩, fun x d hx hk => ?_, fun p hp => ?_, ?_, fun x d hx => ?_, fun x hx => ?_⟩, ?_, ?_, ?_⟩
  · rcases newX_fresh (hL ▸ ha) with q | q
    · exact eo.xt.hi a q
    · exact .inr (Nat.le_trans hbig q)
  · rcases ha with q | e | e | ⟨p, hp, rfl⟩
    · obtain ⟨o, q⟩ := eo.al a q; exact ⟨o, kp _ _ q⟩
    · exact ⟨o, kp1 _ _ (e ▸ Heap.get?_push_size _ hof)⟩
    · exact ⟨_, hH ▸ pushCells_keeps _ _ _ _ (by rw [e, ← hsz]; exact Heap.get?_push_size _ rfl)⟩
    · obtain ⟨⟨o, q, _⟩, _⟩ := ok.empty p.1 p.2 hp; exact ⟨o, q⟩
  · show H.Ns L _
    have := (Heap.Ns.new (h.push o) (.type "dict")).keeps (pushCells_keeps scope.names _)
    rw [hsz, hH] at this
    exact this
  · unfold inner at hx
    split at hx
    · rename_i hf
      rw [lkf x hf] at hk; cases hk
    · cases hx
  · unfold inner at hx
    split at hx
    · rename_i hf
      have hf' := mem_of_lookup hf
      obtain ⟨a, h1, h2⟩ := fr _ hf'
      have hk' : env.kindOf x = some .cell := st.fr _ hf' rfl
      obtain ⟨h3, a', v, h4, ⟨o', h5, h6⟩, r⟩ := eo.cel x d hx (by rw [hk']; decide)
      rw [h1] at h4; cases h4
      refine ⟨.inl (lkf x hf), a, v, ?_, ⟨o', kp _ _ h5, h6⟩, ?_⟩
      · rw [hcells]
        refine lookup_some_of (List.mem_append.mpr (.inr ?_)) fun e he => ?_
        · have := caught_has (env := env) hf'
          rw [h1] at this; exact this
        · rcases List.mem_append.mp he with q | q
          · exact absurd (nodup_kind st.nd hf' (mem_cellsFrom q).1) (by decide)
          · have := (cg _ q).1
            rw [h1] at this; cases this; rfl
      · refine (r.more (X' := newX X scope h.objs.size L) fun b hb => ?_).mono fun b o _ q => kp b o q
        exact (newX_fresh (hL ▸ hb)).imp id fun q => fresh b q
    · cases hx
  · rw [hcells] at hp
    rcases List.mem_append.mp hp with q | q
    · have hlt := hcl p q
      exact ⟨.inr (.inr (.inr ⟨p, q, rfl⟩)), Nat.ne_of_gt hlt, ntL _ (by rw [hL] at hlt; omega), none, (ok.empty p.1 p.2 q).1⟩
    · obtain ⟨h1, h2, h3⟩ := cg p q
      obtain ⟨q1, q2, q3, v, o, q4, q5⟩ := eo.cells p h2
      have hlt := (cX p h2).2
      exact ⟨.inl q1, fun (e : p.2 = L) => by rw [e, hL] at hlt; omega, q3, v, o, kp _ _ q4, q5⟩
  · rw [hcells]
    refine List.pairwise_append.mpr ⟨ok.apart, ?_, fun p hp q hq => ?_⟩
    · have key : ∀ (names : List (Str × NameKind)), (names.map (·.1)).Nodup → (∀ x ∈ names, x ∈ scope.names) → (caught env names []).Pairwise fun x y => x.2 ≠ y.2 := by
        intro names
        induction names with
        | nil => intro _ _; exact .nil
        | cons x r ih =>
          intro nd hs
          obtain ⟨n, k⟩ := x
          rw [List.map_cons, List.nodup_cons] at nd
          unfold caught
          split
          · rename_i hk
            rw [caught_app]
            refine List.pairwise_append.mpr ⟨ih nd.2 fun y hy => hs y (.tail _ hy), List.pairwise_singleton _ _, fun p hp q hq => ?_⟩
            have : q = (n, (env.cells.lookup n).getD 0) := by simpa using hq
            subst this
            have hk' : k = .free := by simpa using hk
            subst hk'
            obtain ⟨a, h1, h2⟩ := fr n (hs _ (.head _))
            obtain ⟨h3, h4⟩ := mem_caught hp
            obtain ⟨b, h5, h6⟩ := fr p.1 (hs _ (.tail _ h3))
            rw [h5] at h4
            rw [h1]
            intro e
            have e' : b = a := by
              have : p.2 = a := e
              rw [h4] at this; exact this
            rw [e'] at h6
            have := name_of_addr eo.apart h2 h6
            refine nd.1 ?_
            rw [this]; exact List.mem_map_of_mem (f := (·.1)) h3
          · exact ih nd.2 fun y hy => hs y (.tail _ hy)
      exact key _ st.nd fun _ q => q
    · have h1 := hcl p hp
      have h2 := (cX q (cg q hq).2.1).2
      intro e
      rw [e, hL] at h1
      exact absurd h1 (by omega)
  · unfold inner at hx
    split at hx
    · exact eo.gl x d hx
    · cases hx
  · have hx' : (relabel scope env).names.lookup x = some .cell := hx
    rw [lk] at hx'
    obtain ⟨k, hk1, hk2⟩ := Option.map_eq_some_iff.mp hx'
    rw [hcells]
    have some_of : ∀ a, (x, a) ∈ cellsFrom (L + 1) scope.names [] ++ caught env scope.names [] → (List.lookup x (cellsFrom (L + 1) scope.names [] ++ caught env scope.names [])).isSome = true := by
      generalize cellsFrom (L + 1) scope.names [] ++ caught env scope.names [] = l
      intro a ha
      cases e : l.lookup x with
      | some v => rfl
      | none =>
        exfalso
        clear hcells
        induction l with
        | nil => cases ha
        | cons y r ih =>
          rw [List.lookup_cons] at e
          cases q : x == y.1 with
          | true => rw [q] at e; cases e
          | false =>
            rw [q] at e
            rcases List.mem_cons.mp ha with z | z
            · rw [← z] at q; simp at q
            · exact ih z e
    split at hk2
    · rename_i hc
      simp only [Bool.and_eq_true, beq_iff_eq] at hc
      obtain ⟨⟨rfl, _⟩, _⟩ := hc
      exact some_of _ (List.mem_append.mpr (.inr (caught_has (mem_of_lookup hk1))))
    · subst hk2
      obtain ⟨a, ha⟩ := cellsFrom_has (n := L + 1) (mem_of_lookup hk1)
      exact some_of a (List.mem_append.mpr (.inl ha))
  · intro x hx a ha
    rw [hcells] at ha
    rcases List.mem_append.mp (mem_of_lookup ha) with q | q
    · exact hcl _ q
    · exfalso
      have hf := (mem_caught q).1
      rcases hx with z | z
      · exact absurd (nodup_kind st.nd hf (mem_of_lookup z)) (by decide)
      · exact absurd (nodup_kind st.nd hf (mem_of_lookup z)) (by decide)
  · intro a ha
    rcases ha with e | ⟨p, hp, rfl⟩
    · have e' : a = L := e
      rw [e']
      refine ⟨.inr (.inr (.inl rfl)), ?_, .inl ?_⟩
      · rw [hL]; exact Nat.succ_ne_self _
      · rw [hL]; exact Nat.lt_succ_self _
    · rw [hcells] at hp
      rcases List.mem_append.mp hp with q | q
      · have hlt := hcl p q
        rw [hL] at hlt
        exact ⟨.inr (.inr (.inr ⟨p, q, rfl⟩)), Nat.ne_of_gt (Nat.lt_of_succ_lt hlt), .inl (Nat.lt_of_succ_lt hlt)⟩
      · obtain ⟨h1, h2⟩ := cX p (cg p q).2.1
        exact ⟨.inl h1, Nat.ne_of_lt h2, .inr h1⟩
  · intro a ha
    rcases ha with e | ⟨p, hp, rfl, hlt⟩
    · have e' : a = L := e
      rw [e', hL]; exact Nat.lt_succ_self _
    · have : @LT.lt Nat _ L p.2 := hlt
      rw [hL] at this
      exact Nat.lt_of_succ_lt this

/-- what runs when the list is there -/
theorem comp_all (KG : Known c.G) (hl : Lim c) {elt tgt iter : Expr} {gs : List Comprehension} {scope : Scope} {pos : Pos} {okT : Expr → Prop} {items : List D} {outs : List (List D)} {use : Option (Value → Sem Unit)} {X : Addr → Prop} {env : Env} {s : Shared} {Q : Value → Shared → Prop} {E : Value → Shared → Prop}
    (hs : env.scope = sc) (hG : c.G s.heap) (eo : EnvOk X env s.heap ρ) (st : CompSt sc scope (⟨tgt, iter, [], 0⟩ :: gs)) (hset : ∀ env x, foldedSetIterable iter env x = pure x) (h1 : EvIt c sc ρ okT iter items) (hok : okT tgt) (hlen : outs.length = items.length)
    (hstep : ∀ (j : Nat) d o, items[j]? = some d → outs[j]? = some o → ∃ ρ', Asg (relD sc scope) (inner scope ρ) tgt d ρ' ∧ Sub (inner scope ρ) ρ' ∧ EvC c (relD sc scope) elt gs ρ' o) (hz : outs.flatten.length ≤ sizeLine)
    (hQ : ∀ (Da C : Addr) (s' : Shared), Gw noX s s' → (∃ m, s'.heap.Ns C m) → s.heap.get? C = none → low ≤ C → ¬ X C → ¬ X Da → ¬ tb C → Da ≠ C → Rd (fun a => X a ∨ a = C) s'.heap (.ref Da) (.list outs.flatten) → compPost (model c.prog c.w) c.A E use Q (.ref Da) C (.ok .next) s') :
    wpAny (model c.prog c.w) c.A (comprehension (.ListComp elt (⟨tgt, iter, [], 0⟩ :: gs) scope pos) scope env (firstIterPos (⟨tgt, iter, [], 0⟩ :: gs) pos) (newList []) false (eval iter env) use) Q E s := by
  subst hs
  refine wpAny_comprehension_free (g := ⟨tgt, iter, [], 0⟩) (gs := gs) rfl (hset env) (closure_of fun x hx hf => eo.hasC _ (st.fr x hx hf)) st.kf (fun x hx hk => hk ▸ lookup_of_mem st.nd hx) (wp_up (h1 X env s rfl hG eo) fun x s₁ h₁ => wp_up h₁ fun it s₂ h₂ => ?_)
  obtain ⟨I, fp, wr, St, rfl, g₂, W, hw, hf, hst⟩ := h₂
  have hG₂ := KG.keeps _ _ hG g₂.kp
  have eo₂ := eo.gw KG g₂ hG
  have k₂ : ∀ b o, ¬ tb b → s.heap.get? b = some o → s₂.heap.get? b = some o := fun b o ht q => g₂.kp.keep b o (fun z => z) ht q
  have xtw : XT (fun a => X a ∨ wr a) := ⟨fun b hb => .inl (eo.xt.tbs b hb), fun a ha => ha.elim (eo.xt.hi a) fun q => .inr (hw a q).2.2⟩
  have eow : EnvOk (fun a => X a ∨ wr a) env s₂.heap ρ := eo.grow xtw k₂ (fun a q => .inl q) (fun a ha => ha.elim (fun q => eo₂.al a q) fun q => (hf a (W.sub a q)).1) fun a ha => ha.imp id fun q => (hw a q).1
  refine wpAny_newObj_type (hd := by size_fits) (wpAny_newComp ?_)
  dsimp only
  have hL : (s₂.heap.push { cls := .type "list", dict := none, data := .seq ([] : List Value).toArray }).objs.size = s₂.heap.objs.size + 1 := Heap.size_push ..
  obtain ⟨_, hown, hown2, hchg⟩ := inner_env KG st eo₂ hG₂ (o := { cls := .type "list", dict := none, data := .seq ([] : List Value).toArray }) rfl hL
  obtain ⟨eoW, _, _, _⟩ := inner_env KG st eow hG₂ (o := { cls := .type "list", dict := none, data := .seq ([] : List Value).toArray }) rfl hL
  have kpush : ∀ b o, (s₂.heap.push { cls := .type "list", dict := none, data := .seq ([] : List Value).toArray }).get? b = some o → (pushCells ((s₂.heap.push { cls := .type "list", dict := none, data := .seq ([] : List Value).toArray }).push { cls := .type "dict", data := .dict #[] }) scope.names).get? b = some o := fun b o q => pushCells_keeps _ _ b o (Heap.get?_push_of_some _ q)
  have kH : ∀ b o, s₂.heap.get? b = some o → (pushCells ((s₂.heap.push { cls := .type "list", dict := none, data := .seq ([] : List Value).toArray }).push { cls := .type "dict", data := .dict #[] }) scope.names).get? b = some o := fun b o q => kpush b o (Heap.get?_push_of_some _ q)
  have hacc := kpush _ _ (Heap.get?_push_size s₂.heap (o := { cls := .type "list", dict := none, data := .seq ([] : List Value).toArray }) rfl)
  revert eoW hown hown2 hchg kH hacc
  generalize pushCells ((s₂.heap.push { cls := .type "list", dict := none, data := .seq ([] : List Value).toArray }).push { cls := .type "dict", data := .dict #[] }) scope.names = H
  generalize hLL : (s₂.heap.push { cls := .type "list", dict := none, data := .seq ([] : List Value).toArray }).objs.size = L at *
  clear kpush
  intro hown hown2 hchg eoW kH hacc
  have alloc₂ : ∀ a o, s₂.heap.get? a = some o → @LT.lt Nat _ a s₂.heap.objs.size := fun a o q => Heap.lt_size q
  have big := KG.big _ hG₂
  have none₂ : ∀ a, @LE.le Nat _ s₂.heap.objs.size a → s₂.heap.get? a = none := fun a q => size_none _ q
  have none₁ : ∀ a, @LE.le Nat _ s₂.heap.objs.size a → s.heap.get? a = none := fun a q => was_none (X := X) KG hG g₂ (none₂ a q)
  have sp : ∀ a, newX (fun a => X a ∨ wr a) scope s₂.heap.objs.size L a ↔ newX X scope s₂.heap.objs.size L a ∨ wr a := fun a => by
    unfold newX
    constructor
    · rintro ((q | q) | q)
      · exact .inl (.inl q)
      · exact .inr q
      · exact .inl (.inr q)
    · rintro ((q | q) | q)
      · exact .inl (.inl q)
      · exact .inr q
      · exact .inl (.inr q)
  have nX : ∀ a, @LE.le Nat _ s₂.heap.objs.size a → ¬ X a := fun a q z => by obtain ⟨o, ho⟩ := eo₂.al a z; exact absurd (alloc₂ a o ho) (Nat.not_lt.mpr q)
  have ntD : ∀ a, @LE.le Nat _ s₂.heap.objs.size a → ¬ tb a := fun a q => fresh_ntb KG hG₂ (none₂ a q)
  have fpl : ∀ a, fp a → @LT.lt Nat _ a s₂.heap.objs.size ∧ ¬ X a := fun a q => by obtain ⟨⟨o, ho⟩, h⟩ := hf a q; exact ⟨alloc₂ a o ho, h⟩
  have hLn : @LE.le Nat _ s₂.heap.objs.size L := by rw [hL]; exact Nat.le_succ _
  let s₄ : Shared := { s₂ with heap := H }
  have g₄ : Gw noX s s₄ := g₂.trans (.every (tk := s₂.toks) kH)
  have hG₄ : c.G s₄.heap := KG.keeps _ _ hG₂ (.every kH)
  have P : LoopPre c (relD env.scope scope) (inner scope ρ) (newX X scope s₂.heap.objs.size L) (newX (fun a => X a ∨ wr a) scope s₂.heap.objs.size L) (compEnvX scope env L) s₄ s₂.heap.objs.size fp wr #[] [] := by
    refine ⟨rfl, hG₄, eoW, sp, fun a q z => ?_, ⟨fun b hb => .inl (eo.xt.tbs b hb), fun a ha => ?_⟩, fun a q => (hown2 a q).1, fun a q z => ?_, ⟨_, hacc⟩, .inr (.inl rfl), ntD _ (Nat.le_refl _), fun z => ?_, fun z => (hown2 _ z).2.1 rfl, .nil⟩
    · have hlt := (fpl a (W.sub a q)).1
      rcases newX_fresh (hL ▸ z) with y | y
      · obtain ⟨o, ho⟩ := eo.al a y
        rw [(hw a q).1] at ho; cases ho
      · exact absurd hlt (Nat.not_lt.mpr y)
    · rcases newX_fresh (hL ▸ ha) with q | q
      · exact eo.xt.hi a q
      · exact .inr (Nat.le_trans big q)
    · obtain ⟨h1, h2⟩ := fpl a z
      rcases (hown2 a q).2.2 with y | y
      · exact absurd (Nat.lt_trans h1 y) (Nat.lt_irrefl _)
      · exact h2 y
    · exact absurd (fpl _ z).1 (Nat.lt_irrefl _)
  have st₄ : St (newX (fun a => X a ∨ wr a) scope s₂.heap.objs.size L) items s₄.heap := by
    refine W.frame _ items s₂.heap s₄.heap eoW.xt (hst _ eoW.xt fun a ha => ?_) fun b o _ _ q => kH b o q
    rcases newX_fresh (hL ▸ ha) with q | q
    · rcases q with q | q
      · exact .inl q
      · exact .inr (.inl q)
    · exact .inr (.inr (none₂ a q))
  have loop := comp_clauses KG hl (elt := elt) (gens := ⟨tgt, iter, [], 0⟩ :: gs) (scope := scope) (pos := pos) st.pl gs 0 tgt iter rfl (fun g hg x hx => hown x (st.tg g hg x hx)) items outs s₄ #[] [] hok W (fun b q => (hw b q).2.1) hlen hstep st₄ P (by simpa using hz)
  have fin : ∀ r s', LoopPost (newX X scope s₂.heap.objs.size L) (compEnvX scope env L) (inner scope ρ) s₂.heap.objs.size wr s₄ ([] ++ outs.flatten) r s' → compPost (model c.prog c.w) c.A E use Q (.ref s₂.heap.objs.size) L r s' := fun r s' h => by
    obtain ⟨rfl, eo', g', ys, acc', rd'⟩ := h
    have hDL : s₂.heap.objs.size ≠ L := by rw [hL]; exact Nat.ne_of_lt (Nat.lt_succ_self _)
    refine hQ s₂.heap.objs.size L s' ?_ ?_ (none₁ L hLn) (Nat.le_trans big hLn) (nX _ hLn) (nX _ (Nat.le_refl _)) (ntD L hLn) hDL ?_
    · refine (g₄.none.trans g').narrow fun a ha => .inr ?_
      rcases ha with q | rfl | q
      · exact none₁ a (Nat.le_of_lt (hchg a q))
      · exact none₁ _ (Nat.le_refl _)
      · exact (hw a q).1
    · obtain ⟨m, hm, _⟩ := eo'.loc
      exact ⟨m, hm⟩
    · obtain ⟨n, hn⟩ := acc'
      refine RdAll.list (vs := ys.toList) (n := n) (fun z => z.elim (nX _ (Nat.le_refl _)) hDL) (by simpa using hn) ?_
      rw [List.nil_append] at rd'
      exact rd'.less fun a ha => ha.elim .inl fun q => .inr (.inr (.inl q))
  exact compStart_at (g := ⟨tgt, iter, [], 0⟩) rfl rfl (codeAny_mono loop fin) (wp_up (W.self _ _ _ st₄) fun r s' h => by obtain ⟨rfl, rfl⟩ := h; exact codeAny_mono loop fin)

theorem Ev.comp (KG : Known c.G) (hl : Lim c) {elt tgt iter : Expr} {gs : List Comprehension} {scope : Scope} {pos : Pos} {okT : Expr → Prop} {items : List D} {outs : List (List D)}
    (st : CompSt sc scope (⟨tgt, iter, [], 0⟩ :: gs)) (h1 : EvIt c sc ρ okT iter items) (hok : okT tgt) (hlen : outs.length = items.length)
    (hstep : ∀ (j : Nat) d o, items[j]? = some d → outs[j]? = some o → ∃ ρ', Asg (relD sc scope) (inner scope ρ) tgt d ρ' ∧ Sub (inner scope ρ) ρ' ∧ EvC c (relD sc scope) elt gs ρ' o) (hz : outs.flatten.length ≤ sizeLine)
    (hset : ∀ env x, foldedSetIterable iter env x = pure x := by intro _ _; rfl) :
    Ev c sc ρ (.ListComp elt (⟨tgt, iter, [], 0⟩ :: gs) scope pos) (.list outs.flatten) := fun X env s hs hG eo => by
  rw [eval_ListComp]
  refine comp_all KG hl (use := none) hs hG eo st hset h1 hok hlen hstep hz fun Da C s' g hC _ _ hXC hXD htC hne r => ?_
  obtain ⟨m, hm⟩ := hC
  refine ⟨m, hm, fun h' hs' => ⟨?_, ?_⟩⟩
  · refine (Gw.trans (X := fun a => a = C) g.none (.heap (tk := s'.toks) (.all (fun b hb z => htC (z ▸ hb)) fun b o hb q => hs'.extBut b o hb q))).narrow fun a ha => .inr ?_
    exact ha ▸ ‹s.heap.get? C = none›
  · exact (r.mono fun b o hb q => hs'.extBut b o (fun z => hb (.inr z)) q).less fun a ha => .inl ha

/-- `name = [..]` of a comprehension, to a local name on the same line -/
theorem assign_comp (KG : Known c.G) (hl : Lim c) {elt tgt iter : Expr} {gs : List Comprehension} {scope : Scope} {pos spos py : Pos} {y : Str} {okT : Expr → Prop} {items : List D} {outs : List (List D)} {X : Addr → Prop} {env : Env} {s : Shared} {Q : Flow → Shared → Prop} {E : Value → Shared → Prop}
    (hs : env.scope = sc) (hG : c.G s.heap) (eo : EnvOk X env s.heap ρ) (st : CompSt sc scope (⟨tgt, iter, [], 0⟩ :: gs)) (h1 : EvIt c sc ρ okT iter items) (hok : okT tgt) (hlen : outs.length = items.length)
    (hstep : ∀ (j : Nat) d o, items[j]? = some d → outs[j]? = some o → ∃ ρ', Asg (relD sc scope) (inner scope ρ) tgt d ρ' ∧ Sub (inner scope ρ) ρ' ∧ EvC c (relD sc scope) elt gs ρ' o) (hz : outs.flatten.length ≤ sizeLine)
    (hy : sc.names.lookup y = some .local) (hyd : (y == ("__debug__" : Str)) = false) (hsw : swapsWith (.ListComp elt (⟨tgt, iter, [], 0⟩ :: gs) scope pos) (some (.Name y py)) spos.line env = pure true)
    (hQ : ∀ s', EnvOk X env s'.heap (upd ρ y (.list outs.flatten)) → Gw (Own env) s s' → Q .next s')
    (hset : ∀ env x, foldedSetIterable iter env x = pure x := by intro _ _; rfl) :
    wpAny (model c.prog c.w) c.A (exec (.Assign [.Name y py] (.ListComp elt (⟨tgt, iter, [], 0⟩ :: gs) scope pos) spos) env) Q E s := by
  rw [exec_Assign_Name_used _ _ _ _ hsw]
  refine wpAny_bind (wpAny_standAt (wpAny_bind ?_))
  show wpAny _ c.A (do let _ ← comprehension (.ListComp elt (⟨tgt, iter, [], 0⟩ :: gs) scope pos) scope env _ (newList []) false (eval iter env) (some (assign (.Name y py) env))) _ _ s
  have hky : env.kindOf y = some .local := by unfold Env.kindOf; rw [hs]; exact hy
  refine wpAny_bind (wpAny_mono (comp_all KG hl (use := some (assign (.Name y py) env)) (Q := fun _ s' => Q .next s') (E := E) hs hG eo st hset h1 hok hlen hstep hz fun Da C s' g hC hCn hCl hXC hXD htC hne r => ?_) (fun _ s' hq => wpAny_pure (wpAny_pure hq)) fun _ _ e => e)
  obtain ⟨m', hm'⟩ := hC
  have hOC : ¬ Own env C := fun z => hXC (own_X eo z).1
  have eo' : EnvOk (fun a => X a ∨ a = C) env s'.heap ρ := by
    refine eo.grow ⟨fun b hb => .inl (eo.xt.tbs b hb), fun a ha => ha.elim (eo.xt.hi a) fun z => .inr (z ▸ hCl)⟩ (fun b o ht q => g.kp.keep b o (fun z => z) ht q) (fun a q => .inl q) (fun a ha => ?_) fun a ha => ha.imp id fun (z : a = C) => z ▸ hCn
    rcases ha with q | rfl
    · exact (eo.gw KG g hG).al a q
    · obtain ⟨o, _, _, h, _⟩ := hm'; exact ⟨o, h⟩
  show wpAny _ c.A (assign (.Name y py) env (.ref Da)) _ _ s'
  refine wpAny_assign_Name (store_ok eo' r (.inl hky) hyd fun s'' eo'' g'' => ?_)
  have g3 : Gw (Own env) s' s'' := g''.wide fun a ha => by
    rcases ha with q | ⟨c', q, rfl⟩
    · exact .inl q
    · exact .inr ⟨_, mem_of_lookup q, rfl⟩
  refine ⟨m', hm'.at' fun o q => g3.kp.keep _ o hOC htC q, fun h' hs' => ?_⟩
  have gC : Gw (fun a => a = C) s'' { s'' with heap := h' } := .heap (tk := s''.toks) (.all (fun b hb z => htC (z ▸ hb)) fun b o hb q => hs'.extBut b o hb q)
  refine hQ _ ?_ ?_
  · refine eo''.leave gC (fun a ha => ⟨.inr ha, fun z => hOC (ha ▸ z)⟩) (fun _ q => .inl q) (fun a q => (own_X eo q).1) eo.xt fun a ha => ?_
    obtain ⟨o, ho⟩ := eo''.al a (.inl ha)
    exact ⟨o, hs'.extBut a o (fun z => hXC (z ▸ ha)) ho⟩
  · refine (Gw.trans (X := fun a => a = C ∨ Own env a) (g.none.trans (g3.wide fun a q => .inr q)) (gC.wide fun a q => .inl q)).narrow fun a ha => ?_
    exact ha.elim (fun z => .inr (z ▸ hCn)) .inl
end
end Mine
namespace Mine
open PySem PySem.Spec PySem.Calls PyProof.Rows PySem.W

/- a list taken apart -/
section
variable {prog : Program} {w : World} {A : Around} {E : Value → Shared → Prop} {s : Shared}
theorem draw_list {it t : Addr} {items : Array Value} (hne : t ≠ it) : ∀ (n i : Nat) (s : Shared) (Q : List Value → Shared → Prop), s.heap.IsListIter it t i → s.heap.IsList t items → i + n ≤ items.size →
    (∀ h', h'.IsListIter it t (i + n) → Heap.SameBut it s.heap h' → Q ((items.toList.drop i).take n) { s with heap := h' }) → wpAny (model prog w) A (draw (.ref it) n) Q E s
  | 0, i, s, Q, hit, _, _, hQ => by
    show wpAny _ _ (pure []) Q E s
    exact wpAny_pure (by simpa using hQ s.heap hit (Heap.SameBut.refl ..))
  | n + 1, i, s, Q, hit, ht, hle, hQ => by
    have hlt : i < items.size := by omega
    show wpAny _ _ (pyNext (.ref it) >>= _) Q E s
    refine wpAny_bind (wpAny_pyNext_list_item hit ht (x := items[i]) (by simp [hlt]) fun h₁ hit₁ hs₁ => ?_)
    refine wpAny_bind (wpAny_holding (draw_list hne n (i + 1) _ _ hit₁ (ht.extBut hs₁.extBut hne) (by omega) fun h₂ hit₂ hs₂ => wpAny_pure ?_))
    have hd : items.toList.drop i = items[i] :: items.toList.drop (i + 1) := by simp [List.drop_eq_getElem_cons, hlt]
    have := hQ h₂ (by rw [show i + (n + 1) = i + 1 + n by omega]; exact hit₂) (hs₁.trans hs₂)
    rw [hd, List.take_succ_cons] at this
    exact this
theorem unpackItems_list {t : Addr} {items : Array Value} {Q : List Value → Shared → Prop} (hh : A.handled = none) (ht : s.heap.IsList t items)
    (hQ : ∀ h', Heap.ExtBut s.heap.objs.size s.heap h' → Q items.toList { s with heap := h' }) : wpAny (model prog w) A (unpackItems (.ref t) items.size none) Q E s := by
  have hlt : t ≠ s.heap.objs.size := by obtain ⟨o, ho, _⟩ := ht; exact Nat.ne_of_lt (Heap.lt_size ho)
  have hti : s.TypeIs (.ref t) "list" := by obtain ⟨o, ho, hc, _⟩ := ht; exact ⟨o, ho, hc⟩
  unfold unpackItems
  refine wpAny_bind ?_
  · unfold notIterableAtAll
    refine wpAny_bind (wpAny_specialOf hti F.slot_list_iter.lookup ?_)
    refine wpAny_pure ?_
    simp only [Bool.false_eq_true, if_false]
    refine wpAny_bind (wpAny_holding (wpAny_pyIter_list ht ?_))
    refine wpAny_bind (wpAny_holding (draw_list hlt items.size 0 _ _ ⟨_, Heap.get?_push_size _ rfl, rfl, rfl⟩ (ht.push _) (by omega) fun h₁ hit₁ hs₁ => ?_))
    have hall : List.take items.size (List.drop 0 items.toList) = items.toList := by
      rw [List.drop_zero]; exact List.take_of_length_le (by simp)
    rw [hall]
    rw [if_neg (by simp)]
    have ht₁ : h₁.IsList t items := (ht.push _).extBut hs₁.extBut hlt
    refine wpAny_bind (wpAny_holding (wpAny_pyNext_list_end hh hit₁ ht₁ (by simp) fun h₂ he₂ => ?_))
    simp only [Option.isSome_none, Bool.false_eq_true, if_false]
    refine wpAny_pure (hQ h₂ fun b o hb e => he₂ b o hb (hs₁.extBut b o hb (Heap.get?_push_of_some _ e)))
theorem assign_Tuple_list {env : Env} {elts : List Expr} {x1} {pos : Pos} {t : Addr} {items : Array Value} {Q : Unit → Shared → Prop} (hh : A.handled = none) (ht : s.heap.IsList t items)
    (hn : (assignEach elts env).length = items.size) (hstar : (assignEach elts env).findIdx? (·.1) = none)
    (h : ∀ h', Heap.ExtBut s.heap.objs.size s.heap h' → wpAny (model prog w) A (assignInOrder ((assignEach elts env).map (·.2)) items.toList) Q E { s with heap := h' }) :
    wpAny (model prog w) A (assign (.Tuple elts x1 pos) env (.ref t)) Q E s := by
  rw [arm_assign_Tuple]
  refine wpAny_bind (wpAny_standAt ?_)
  unfold unpack
  rw [hn, hstar]
  exact wpAny_bind (wpAny_holding (unpackItems_list hh ht h))
end

/-- how a statement ends -/
inductive Fl
  | next (ρ : Str → Option D)
  | brk (ρ : Str → Option D)
  | ret (d : D)
def FlOk (X : Addr → Prop) (env : Env) : Fl → Flow → Shared → Prop
  | .next ρ, f, s => f = .next ∧ EnvOk X env s.heap ρ
  | .brk ρ, f, s => f = .brk ∧ EnvOk X env s.heap ρ
  | .ret d, f, s => ∃ v, f = .ret v ∧ Rd X s.heap v d

def Ex (c : Cx) (sc : Scope) (ρ : Str → Option D) (st : Stmt) (fl : Fl) : Prop :=
  ∀ (X : Addr → Prop) (env : Env) (s : Shared), env.scope = sc → (∀ x, OwnN env x) → c.G s.heap → EnvOk X env s.heap ρ →
    wpAny (model c.prog c.w) c.A (exec st env) (fun f s' => Gw (Own env) s s' ∧ FlOk X env fl f s') noE s
def Exs (c : Cx) (sc : Scope) (ρ : Str → Option D) (st : List Stmt) (fl : Fl) : Prop :=
  ∀ (X : Addr → Prop) (env : Env) (s : Shared), env.scope = sc → (∀ x, OwnN env x) → c.G s.heap → EnvOk X env s.heap ρ →
    wpAny (model c.prog c.w) c.A (execs st env) (fun f s' => Gw (Own env) s s' ∧ FlOk X env fl f s') noE s

section
variable {c : Cx} {sc : Scope} {ρ ρ' : Str → Option D}

theorem apart_own (KG : Known c.G) {X : Addr → Prop} {env : Env} {s s' : Shared} {h : Heap} {ρ : Str → Option D} (eo : EnvOk X env h ρ) (hG : c.G s.heap) (g : Gw (Own env) s s') : c.G s'.heap :=
  KG.apart _ _ _ (fun a ha => eo.xt.hi a (own_X eo ha).1) hG g.kp

theorem Exs.nil : Exs c sc ρ [] (.next ρ) := fun X env s _ _ _ eo => wpAny_execs_nil ⟨.refl s, rfl, eo⟩
theorem Exs.cons (KG : Known c.G) {st : Stmt} {rest : List Stmt} {fl : Fl} (h : Ex c sc ρ st (.next ρ')) (k : Exs c sc ρ' rest fl) : Exs c sc ρ (st :: rest) fl := fun X env s hs hn hG eo => by
  refine wpAny_execs_cons (wp_up (h X env s hs hn hG eo) fun f s₁ h₁ => ?_)
  obtain ⟨g, rfl, eo₁⟩ := h₁
  exact wp_up (k X env s₁ hs hn (apart_own KG eo hG g) eo₁) fun f' s₂ h₂ => ⟨g.trans h₂.1, h₂.2⟩
theorem Exs.retC {st : Stmt} {rest : List Stmt} {d : D} (h : Ex c sc ρ st (.ret d)) : Exs c sc ρ (st :: rest) (.ret d) := fun X env s hs hn hG eo => by
  refine wpAny_execs_cons (wp_up (h X env s hs hn hG eo) fun f s₁ h₁ => ?_)
  obtain ⟨g, v, rfl, r⟩ := h₁
  exact ⟨g, v, rfl, r⟩
theorem Exs.brkC {st : Stmt} {rest : List Stmt} (h : Ex c sc ρ st (.brk ρ')) : Exs c sc ρ (st :: rest) (.brk ρ') := fun X env s hs hn hG eo => by
  refine wpAny_execs_cons (wp_up (h X env s hs hn hG eo) fun f s₁ h₁ => ?_)
  obtain ⟨g, rfl, r⟩ := h₁
  exact ⟨g, rfl, r⟩
theorem Ex.ret {e : Expr} {d : D} {pos : Pos} (h : Ev c sc ρ e d) : Ex c sc ρ (.Return (some e) pos) (.ret d) := fun X env s hs hn hG eo =>
  wpAny_Return_some (wp_up (h X env s hs hG eo) fun v s' h' => ⟨h'.1.none, v, rfl, h'.2⟩)
theorem Ex.iff (KG : Known c.G) {t : Expr} {b : Bool} {body orelse : List Stmt} {pos : Pos} {fl : Fl} (ht : EvT c sc ρ t b) (h1 : b = true → Exs c sc ρ body fl) (h2 : b = false → Exs c sc ρ orelse fl) : Ex c sc ρ (.If t body orelse pos) fl := fun X env s hs hn hG eo => by
  refine wpAny_If (wp_up (ht X env s hs hG eo) fun r s₁ h₁ => ?_)
  obtain ⟨g, rfl⟩ := h₁
  have hG₁ := KG.keeps _ _ hG g.kp
  have eo₁ := eo.gw KG g hG
  cases r with
  | true => exact wp_up (h1 rfl X env s₁ hs hn hG₁ eo₁) fun f s₂ h₂ => ⟨g.none.trans h₂.1, h₂.2⟩
  | false => exact wp_up (h2 rfl X env s₁ hs hn hG₁ eo₁) fun f s₂ h₂ => ⟨g.none.trans h₂.1, h₂.2⟩
theorem Ex.asg (KG : Known c.G) {x : Str} {px pos : Pos} {e : Expr} {d : D} (h : Ev c sc ρ e d) (hx : okName sc x) (hsw : ∀ env, swapsWith e (some (.Name x px)) pos.line env = pure false := by intro _; rfl) : Ex c sc ρ (.Assign [.Name x px] e pos) (.next (upd ρ x d)) := fun X env s hs hn hG eo => by
  refine wpAny_Assign_Name (wp_up (h X env s hs hG eo) fun v s₁ h₁ => ?_) (hsw env)
  have eo₁ := eo.gw KG h₁.1 hG
  refine store_ok eo₁ h₁.2 (by unfold Env.kindOf; rw [hs]; exact hx.1) hx.2 fun s' e' g => ⟨h₁.1.none.trans (g.wide fun a ha => ?_), rfl, e'⟩
  rcases ha with rfl | ⟨c, q, rfl⟩
  · exact .inl rfl
  · exact .inr ⟨_, mem_of_lookup q, rfl⟩
/-- a comprehension's value to a name held in a cell -/
theorem Ex.asgC (KG : Known c.G) {x : Str} {px pos : Pos} {e : Expr} {d : D} (h : Ev c sc ρ e d) (hx : okName sc x) (hc : sc.names.lookup x = some .cell) (hsw : ∀ env : Env, env.kindOf x = some .cell → swapsWith e (some (.Name x px)) pos.line env = pure false) : Ex c sc ρ (.Assign [.Name x px] e pos) (.next (upd ρ x d)) := fun X env s hs hn hG eo => by
  refine wpAny_Assign_Name (wp_up (h X env s hs hG eo) fun v s₁ h₁ => ?_) (hsw env (by unfold Env.kindOf; rw [hs]; exact hc))
  have eo₁ := eo.gw KG h₁.1 hG
  refine store_ok eo₁ h₁.2 (by unfold Env.kindOf; rw [hs]; exact hx.1) hx.2 fun s' e' g => ⟨h₁.1.none.trans (g.wide fun a ha => ?_), rfl, e'⟩
  rcases ha with rfl | ⟨c, q, rfl⟩
  · exact .inl rfl
  · exact .inr ⟨_, mem_of_lookup q, rfl⟩
theorem Ex.asgT (KG : Known c.G) (hl : Lim c) {xs : List (Str × Pos)} {k : Nat} {p pos : Pos} {e : Expr} {ds : List D} (h : Ev c sc ρ e (.tup ds)) (hx : ∀ x ∈ xs, okName sc x.1) (hlen : xs.length = ds.length)
    (hsw : ∀ env, swapsWithSole [.Tuple (nameEs xs) k p] e pos.line env = pure false := by intro _; rfl) (hw : ∀ env, swappedStores [.Tuple (nameEs xs) k p] e env = pure none := by intro _; rfl) :
    Ex c sc ρ (.Assign [.Tuple (nameEs xs) k p] e pos) (.next (updAll ρ (xs.map (·.1)) ds)) := fun X env s hs hn hG eo => by
  refine Assign_Tuple (wp_up (h X env s hs hG eo) fun v s₁ h₁ => ?_) (hsw env) (hw env)
  exact wp_up (assign_ok hl.hand (eo.gw KG h₁.1 hG) hs (Asg.tup hx hlen) (fun x _ => hn x) h₁.2) fun _ s₂ h₂ => ⟨h₁.1.none.trans (h₂.2.wide fun a ha => chg_own ha), rfl, h₂.1⟩
theorem Ex.asgL (KG : Known c.G) (hl : Lim c) {xs : List (Str × Pos)} {k : Nat} {p pos : Pos} {e : Expr} {ds : List D} (h : Ev c sc ρ e (.list ds)) (hx : ∀ x ∈ xs, okName sc x.1) (hlen : xs.length = ds.length)
    (hsw : ∀ env, swapsWithSole [.Tuple (nameEs xs) k p] e pos.line env = pure false := by intro _; rfl) (hw : ∀ env, swappedStores [.Tuple (nameEs xs) k p] e env = pure none := by intro _; rfl) :
    Ex c sc ρ (.Assign [.Tuple (nameEs xs) k p] e pos) (.next (updAll ρ (xs.map (·.1)) ds)) := fun X env s hs hn hG eo => by
  refine Assign_Tuple (wp_up (h X env s hs hG eo) fun v s₁ h₁ => ?_) (hsw env) (hw env)
  obtain ⟨g, r⟩ := h₁
  have eo₁ := eo.gw KG g hG
  obtain ⟨t, vs, n, rfl, hxt, e1, ra⟩ := r.listInv
  obtain ⟨l1, l2⟩ := starless xs env
  have hsz : vs.size = ds.length := by have := ra.1; simpa using this
  refine assign_Tuple_list hl.hand ⟨_, e1, rfl, n, rfl⟩ (by rw [l1, hlen, hsz]) l2 fun h' hk => ?_
  have hk' : ∀ b o, s₁.heap.get? b = some o → h'.get? b = some o := fun b o q => hk b o (Nat.ne_of_lt (Heap.lt_size q)) q
  have e' : EnvOk X env h' ρ := eo₁.grow eo.xt (fun b o _ q => hk' b o q) (fun _ q => q) (fun a ha => let ⟨o, q⟩ := eo₁.al a ha; ⟨o, hk' _ _ q⟩) fun a ha => .inl ha
  refine wp_up (assign_names xs ds vs.toList { s₁ with heap := h' } ρ e' hs hx (fun y hy => hn _) hlen (ra.mono fun b o _ q => hk' b o q)) fun _ s' h => ⟨?_, rfl, h.1⟩
  exact (g.none.trans (.every (tk := s₁.toks) hk')).trans (h.2.wide fun a ha => chg_own ha)
/-- a comprehension to a local name, stored ahead of the frame's end -/
theorem Ex.asgComp (KG : Known c.G) (hl : Lim c) {elt tgt iter : Expr} {gs : List Comprehension} {scope : Scope} {pos spos py : Pos} {y : Str} {okT : Expr → Prop} {items : List D} {outs : List (List D)}
    (st : CompSt sc scope (⟨tgt, iter, [], 0⟩ :: gs)) (h1 : EvIt c sc ρ okT iter items) (hok : okT tgt) (hlen : outs.length = items.length)
    (hstep : ∀ (j : Nat) d o, items[j]? = some d → outs[j]? = some o → ∃ ρ', Asg (relD sc scope) (inner scope ρ) tgt d ρ' ∧ Sub (inner scope ρ) ρ' ∧ EvC c (relD sc scope) elt gs ρ' o) (hz : outs.flatten.length ≤ sizeLine)
    (hy : sc.names.lookup y = some .local) (hyd : (y == ("__debug__" : Str)) = false) (hsw : ∀ env : Env, env.scope.kind = .function → env.kindOf y = some .local → swapsWith (.ListComp elt (⟨tgt, iter, [], 0⟩ :: gs) scope pos) (some (.Name y py)) spos.line env = pure true)
    (hset : ∀ env x, foldedSetIterable iter env x = pure x := by intro _ _; rfl) :
    Ex c sc ρ (.Assign [.Name y py] (.ListComp elt (⟨tgt, iter, [], 0⟩ :: gs) scope pos) spos) (.next (upd ρ y (.list outs.flatten))) := fun X env s hs hn hG eo =>
  assign_comp KG hl hs hG eo st h1 hok hlen hstep hz hy hyd (hsw env eo.kind (by unfold Env.kindOf; rw [hs]; exact hy)) (fun s' e' g => ⟨g, rfl, e'⟩) hset
end

/- a function entered -/
structure FnAt (c : Cx) (a : Addr) (name qual : Str) (params : Arguments) (body : List Stmt) (scope : Scope) (dV kV cdv : Value) : Prop where
  get : ∀ h, c.G h → h.NoLimit ∧ ∃ fo doc pm an ct, h.get? a = some fo ∧ fo.data = .func (fnX name qual params body scope [] dV kV doc pm an cdv ct) ∧ h.CodeRec cdv qual

theorem binds_get {X : Addr → Prop} {h : Heap} : ∀ (bs : List (Str × Value)) (ds : List D) (ρ : Str → Option D) (m : Str → Option Value), RdAll X h (bs.map (·.2)) ds → (∀ x d, ρ x = some d → ∃ v, m x = some v ∧ Rd X h v d) →
    ∀ x d, updAll ρ (bs.map (·.1)) ds x = some d → ∃ v, (bs.reverse.lookup x).or (m x) = some v ∧ Rd X h v d
  | [], ds, ρ, m, r, hm, x, d, hx => by
    rw [r.1.symm.trans rfl |> List.length_eq_zero_iff.mp] at hx
    simpa using hm x d hx
  | (y, v) :: bs, ds, ρ, m, r, hm, x, d, hx => by
    obtain ⟨e, es, rfl⟩ : ∃ e es, ds = e :: es := by
      cases ds with
      | nil => exact absurd r.1 (by simp)
      | cons e es => exact ⟨e, es, rfl⟩
    have := binds_get bs es (upd ρ y e) (fun z => if z = y then some v else m z) r.tail (fun z d' hz => by
      by_cases hzy : z = y
      · subst hzy
        have : d' = e := by simp [upd] at hz; exact hz.symm
        subst this
        exact ⟨v, by simp, r.head⟩
      · obtain ⟨u, hu, ru⟩ := hm z d' (by simpa [upd, hzy] using hz)
        exact ⟨u, by simp [hzy, hu], ru⟩) x d hx
    obtain ⟨u, hu, ru⟩ := this
    refine ⟨u, ?_, ru⟩
    rw [List.reverse_cons, List.lookup_append]
    rw [← hu]
    cases hq : bs.reverse.lookup x with
    | some z => rfl
    | none =>
      simp only [Option.none_or]
      by_cases hxy : x = y
      · subst hxy; simp
      · rw [if_neg hxy, List.lookup_cons, beq_eq_false_iff_ne.mpr hxy]; rfl

/-- the frame of a call -/
def callX (X : Addr → Prop) (L : Addr) : Addr → Prop := fun a => X a ∨ a = L
section
variable {c : Cx}
theorem enter (KG : Known c.G) {a : Addr} {name qual : Str} {params : Arguments} {body : List Stmt} {scope : Scope} {dV kV cdv : Value} (Fa : FnAt c a name qual params body scope dV kV cdv) {pos : List Value} {kw : List (Str × Value)} {binds : List (Str × Value)} {ds : List D} {X : Addr → Prop} {s : Shared} {Q : Value → Shared → Prop} {E : Value → Shared → Prop}
    (hroom : c.A.depth < recursionLimit) (hG : c.G s.heap) (xo : Xok X s.heap)
    (hbind : ∀ fd : FuncData, (∃ doc pm an ct, fd = fnX name qual params body scope [] dV kV doc pm an cdv ct) → BindsTo s fd ⟨pos, kw⟩ binds) (hr : RdAll X s.heap (binds.map (·.2)) ds)
    (hcell : ∀ x ∈ scope.names, x.2 ≠ .cell) (hloc : ∀ x ∈ binds, scope.names.lookup x.1 = some .local ∧ (x.1 == ("__debug__" : Str)) = false)
    (h : ∀ env s₁, env.scope = scope → env.cells = [] → (env.code = cdv ∧ env.qual = qual ++ ".<locals>." ∧ env.frame = some env.locals) → Gw noX s s₁ → EnvOk (callX X env.locals) env s₁.heap (updAll (fun _ => none) (binds.map (·.1)) ds) → s.heap.get? env.locals = none → ¬ X env.locals → c.G s₁.heap → RdAll (callX X env.locals) s₁.heap (binds.map (·.2)) ds →
      wpAny (model c.prog c.w) (c.A.deeper env) (execs body env) (fun f s' => Q (match f with | .ret v => v | _ => .none) s') noE s₁)
    (hco : scope.isCoroutine = false) (hgen : scope.isGenerator = false) (hk : scope.kind = .function) :
    wpAny (model c.prog c.w) c.A (call (.ref a) pos kw) Q E s := by
  obtain ⟨hlim, fo, doc, pm, an, ct, ho, hd, hcd⟩ := Fa.get _ hG
  refine wpAny_call (codeAny_call_def hroom ho hd hlim hcd rfl (hbind _ ⟨_, _, _, _, rfl⟩) hcell (fun x hx => (hloc x hx).1) (fun h₁ hns hk₁ => ?_) hco hgen hk)
  have g : Gw noX s { s with heap := h₁, toks := s.toks + binds.length } := .every hk₁
  have hnone : s.heap.get? s.heap.objs.size = none := size_none _ (Nat.le_refl _)
  have nX : ¬ X s.heap.objs.size := xo.fresh
  have more : ∀ b, callX X s.heap.objs.size b → X b ∨ s.heap.get? b = none := fun b hb => hb.imp id fun (q : b = s.heap.objs.size) => by rw [q]; exact hnone
  have eo : EnvOk (callX X s.heap.objs.size) (callEnv (fnX name qual params body scope [] dV kV doc pm an cdv ct) s.heap.objs.size a) h₁ (updAll (fun _ => none) (binds.map (·.1)) ds) := by
    refine ⟨hk, rfl, rfl, ⟨fun b hb => .inl (xo.xt.tbs b hb), fun b hb => hb.elim (xo.xt.hi b) fun (q : b = s.heap.objs.size) => .inr (by rw [q]; exact KG.big _ hG)⟩, fun b hb => ?_, fresh_ntb KG hG hnone, .inr rfl, ⟨_, hns, fun x d hx _ => ?_⟩, fun x d hx hnl => ?_, fun p hp => (nomatch hp), .nil, fun x d hx => ?_, fun x hx => ?_⟩
    · rcases hb with q | q
      · obtain ⟨o, ho⟩ := xo.al b q; exact ⟨o, hk₁ _ _ ho⟩
      · obtain ⟨o, _, _, q2, _⟩ := hns
        have q' : b = s.heap.objs.size := q
        exact ⟨o, q' ▸ q2⟩
    · obtain ⟨v, hv, r⟩ := binds_get binds ds (fun _ => none) (fun _ => none) hr (fun x d q => by cases q) x d hx
      exact ⟨v, by simpa using hv, (r.more more).mono fun b o _ q => hk₁ b o q⟩
    · exfalso
      obtain ⟨v, hv, r⟩ := binds_get binds ds (fun _ => none) (fun _ => none) hr (fun x d q => by cases q) x d hx
      have hm : (x, v) ∈ binds := List.mem_reverse.mp (mem_of_lookup (by simpa using hv))
      exact hnl (hloc _ hm).1
    · obtain ⟨v, hv, r⟩ := binds_get binds ds (fun _ => none) (fun _ => none) hr (fun x d q => by cases q) x d hx
      have hm : (x, v) ∈ binds := List.mem_reverse.mp (mem_of_lookup (by simpa using hv))
      exact (hloc _ hm).2
    · exact absurd rfl (hcell (x, .cell) (mem_of_lookup hx))
  refine wpAny_mono (h _ _ rfl rfl ⟨rfl, rfl, rfl⟩ g eo hnone nX (KG.keeps _ _ hG g.kp) ((hr.more more).mono fun b o _ q => hk₁ b o q)) (fun f s' hq => ?_) fun _ _ x => x.elim
  exact hq
end
end Mine
namespace Mine
open PySem PySem.Spec PySem.Calls PyProof.Rows PySem.W

/- the program's parts, named -/
def stAt (k : Nat) : Stmt := (PySem.Challenge.pw_rs0185_01.main.body)[k]?.getD (.Pass default)
def bodyOf : Stmt → List Stmt
  | .FunctionDef _ _ b _ _ _ _ _ _ _ => b
  | .ClassDef _ _ _ b _ _ _ _ _ _ _ => b
  | _ => []
def argsOf : Stmt → Arguments
  | .FunctionDef _ a _ _ _ _ _ _ _ _ => a
  | _ => default
def scopeOf : Stmt → Scope
  | .FunctionDef _ _ _ _ _ _ s _ _ _ => s
  | _ => default
def methAt (k : Nat) : Stmt := (bodyOf (stAt 2))[k]?.getD (.Pass default)

structure LimN (n : Nat) (c : Cx) : Prop where
  hand : c.A.handled = none
  depth : c.A.depth + 20 + n < recursionLimit
  units : c.A.units + 1000 + 10 * n < cLine
theorem LimN.lim {n : Nat} {c : Cx} (h : LimN n c) : Lim c := ⟨h.hand, by have := h.depth; omega, by have := h.units; omega⟩
theorem LimN.room {n : Nat} {c : Cx} (h : LimN n c) : c.A.depth < recursionLimit := by have := h.depth; omega
def Cx.dp (c : Cx) (env : Env) : Cx := { c with A := c.A.deeper env }
theorem LimN.dp {n : Nat} {c : Cx} (h : LimN (n + 1) c) (env : Env) : LimN n (c.dp env) :=
  ⟨h.hand, by have := h.depth; show c.A.depth + 1 + 20 + n < _; omega, by have := h.units; show c.A.units + 3 + 1000 + 10 * n < _; omega⟩
theorem LimN.less {n m : Nat} {c : Cx} (h : LimN n c) (k : m ≤ n) : LimN m c := ⟨h.hand, by have := h.depth; omega, by have := h.units; omega⟩

theorem Ev.iteI {c : Cx} {sc : Scope} {ρ : Str → Option D} (KG : Known c.G) {t a b : Expr} {pos : Pos} {x : Bool} {i j : Int} (ht : EvT c sc ρ t x) (ha : Ev c sc ρ a (.int i)) (hb : Ev c sc ρ b (.int j)) : Ev c sc ρ (.IfExp t a b pos) (.int (if x = true then i else j)) :=
  .ite KG ht (fun h => by rw [if_pos h]; exact ha) (fun h => by rw [if_neg (by rw [h]; decide)]; exact hb)
def okB (sc : Scope) (x : Str) : Bool := ((sc.names.lookup x == some .local) || (sc.names.lookup x == some .cell)) && ((x == ("__debug__" : Str)) == false)
theorem ok1 {sc : Scope} {x : Str} (h : okB sc x = true) : okName sc x := by
  unfold okB at h
  simp only [Bool.and_eq_true, Bool.or_eq_true, beq_iff_eq] at h
  exact h
theorem okA {sc : Scope} {xs : List (Str × Pos)} (h : (xs.all fun x => okB sc x.1) = true) : ∀ x ∈ xs, okName sc x.1 := fun x hx => ok1 (List.all_eq_true.mp h x hx)
theorem locs_of {sc : Scope} {bs : List (Str × Value)} (h : ((bs.map (·.1)).all fun x => (sc.names.lookup x == some .local) && ((x == ("__debug__" : Str)) == false)) = true) : ∀ x ∈ bs, sc.names.lookup x.1 = some .local ∧ (x.1 == ("__debug__" : Str)) = false := fun x hx => by
  have := List.all_eq_true.mp h x.1 (List.mem_map_of_mem hx)
  simpa using this
theorem inter_fn {env : Env} (h : env.scope.kind = .function) : interactive env = false := by unfold interactive; rw [h]; rfl
theorem szl (n : Nat) (h : n ≤ 1000) : n ≤ sizeLine := by rw [PySem.sizeLine_eq]; omega

/-- what a frame knows, as a table -/
def af (l : List (Str × D)) : Str → Option D := fun x => l.lookup x
noncomputable def AllAt (ρ : Str → Option D) : List (Str × D) → Prop
  | [] => True
  | p :: r => ρ p.1 = some p.2 ∧ AllAt ρ r
theorem sub_af {ρ : Str → Option D} : ∀ {l : List (Str × D)}, AllAt ρ l → Sub (af l) ρ
  | [], _ => fun x d h => by cases h
  | (y, e) :: r, h => fun x d hx => by
    unfold af at hx
    rw [List.lookup_cons] at hx
    cases q : x == y with
    | true =>
      rw [q] at hx
      have : x = y := by simpa using q
      subst this
      cases hx; exact h.1
    | false => rw [q] at hx; exact sub_af h.2 x d hx
theorem Ev.weak {c : Cx} {sc : Scope} {ρ ρ' : Str → Option D} {e : Expr} {d : D} (h : Ev c sc ρ' e d) (k : Sub ρ' ρ) : Ev c sc ρ e d := fun X env s hs hG eo => h X env s hs hG (eo.sub k)
theorem Ex.weak {c : Cx} {sc : Scope} {ρ ρ' : Str → Option D} {st : Stmt} {fl : Fl} (h : Ex c sc ρ' st fl) (k : Sub ρ' ρ) : Ex c sc ρ st fl := fun X env s hs hn hG eo => h X env s hs hn hG (eo.sub k)
theorem Exs.weak {c : Cx} {sc : Scope} {ρ ρ' : Str → Option D} {st : List Stmt} {fl : Fl} (h : Exs c sc ρ' st fl) (k : Sub ρ' ρ) : Exs c sc ρ st fl := fun X env s hs hn hG eo => h X env s hs hn hG (eo.sub k)

theorem Exs.sub {c : Cx} {sc : Scope} {ρ ρ' : Str → Option D} (k : Sub ρ' ρ) : Exs c sc ρ [] (.next ρ') := fun X env s hs hn hG eo => wpAny_execs_nil ⟨.refl s, rfl, eo.sub k⟩

structure Fnw (c : Cx) (nm : Str) (a : Addr) (k : Nat) (dV kV cdv : Value) : Prop where
  g : GlobIs c nm (.ref a)
  kp : keepIn c.K (.ref a) = true
  f : FnAt c a nm nm (argsOf (stAt k)) (bodyOf (stAt k)) (scopeOf (stAt k)) dV kV cdv
/-- bisect's four, called with two, or with a key -/
structure Bis (c : Cx) (nm : Str) (a : Addr) (k : Nat) (dV kV cdv : Value) : Prop extends Fnw c nm a k dV kV cdv where
  two : ∃ t, ∀ (s : Shared) (fd : FuncData) (v x : Value), c.G s.heap → (∃ doc pm an ct, fd = fnX nm nm (argsOf (stAt k)) (bodyOf (stAt k)) (scopeOf (stAt k)) [] dV kV doc pm an cdv ct) → BindsTo s fd ⟨[v, x], []⟩ [("a", v), ("x", x), ("lo", .int 0 t), ("hi", .none), ("key", .none)]
  key2 : ∃ t, ∀ (s : Shared) (fd : FuncData) (v x f : Value), c.G s.heap → (∃ doc pm an ct, fd = fnX nm nm (argsOf (stAt k)) (bodyOf (stAt k)) (scopeOf (stAt k)) [] dV kV doc pm an cdv ct) → BindsTo s fd ⟨[v, x], [("key", f)]⟩ [("a", v), ("x", x), ("lo", .int 0 t), ("hi", .none), ("key", f)]
  key4 : ∀ (s : Shared) (fd : FuncData) (v x l h f : Value), c.G s.heap → (∃ doc pm an ct, fd = fnX nm nm (argsOf (stAt k)) (bodyOf (stAt k)) (scopeOf (stAt k)) [] dV kV doc pm an cdv ct) → BindsTo s fd ⟨[v, x, l, h], [("key", f)]⟩ [("a", v), ("x", x), ("lo", l), ("hi", h), ("key", f)]

/-- two things of a table's change that the walk allows -/
def TabFree (G : Heap → Prop) : Prop := ∀ h h' P ps, G h → tb P → (∀ b o, b ≠ P → h.get? b = some o → h'.get? b = some o) → h'.get? P = some (tabO ps) → G h'
/-- the class -/
structure Ws (c : Cx) : Prop where
  g : GlobIs c "Whitespace" (.ref 83)
  kp : keepIn c.K (.ref 83) = true
  mkI : makesIn c.K 83 = true
  init : findIn c.K (.ref 83) "__init__" = some (some (.ref 38))
  initT : typeIn c.K (.ref 38) = some (.type "function")
  sa : findIn c.K (.ref 83) "__setattr__" = some (some (.builtin "object.__setattr__"))
  over : plainOver c.K 83 = true
  dict : hasDictIn c.K 83 = true
  raw : findIn c.K (.ref 83) "raw" = some none
  n : findIn c.K (.ref 83) "n" = some none
  nt : findIn c.K (.ref 83) "nt" = some none
  norm : findIn c.K (.ref 83) "norm" = some none
  simple : findIn c.K (.ref 83) "is_simple" = some none
  pg : ∀ nm, plainGet c.K 83 nm = true
  rd : readsIn c.K 83 (.type "type") = true
  S : ∃ t, findCls c.K (.ref 83) (.type "type") "S" = some (.val (.str " " t))
  T : ∃ t, findCls c.K (.ref 83) (.type "type") "T" = some (.val (.str "\t" t))
  eqF : findIn c.K (.ref 83) "equal" = some (some (.ref 59))
  eqT : isFn c.K (.ref 59) = true
  eqK : keepIn c.K (.ref 59) = true
  ilF : findIn c.K (.ref 83) "indent_level" = some (some (.ref 52))
  ilT : isFn c.K (.ref 52) = true
  ilK : keepIn c.K (.ref 52) = true
  fI : FnAt c 38 "__init__" "Whitespace.__init__" (argsOf (methAt 1)) (bodyOf (methAt 1)) (scopeOf (methAt 1)) .none .none (.ref 37)
  fL : FnAt c 52 "indent_level" "Whitespace.indent_level" (argsOf (methAt 3)) (bodyOf (methAt 3)) (scopeOf (methAt 3)) .none .none (.ref 51)
  fE : FnAt c 59 "equal" "Whitespace.equal" (argsOf (methAt 4)) (bodyOf (methAt 4)) (scopeOf (methAt 4)) .none .none (.ref 58)
theorem Ws.at' {c : Cx} (h : Ws c) (A' : Around) : Ws { c with A := A' } where
  g := h.g
  kp := h.kp
  mkI := h.mkI
  init := h.init
  initT := h.initT
  sa := h.sa
  over := h.over
  dict := h.dict
  raw := h.raw
  n := h.n
  nt := h.nt
  norm := h.norm
  simple := h.simple
  pg := h.pg
  rd := h.rd
  S := h.S
  T := h.T
  eqF := h.eqF
  eqT := h.eqT
  eqK := h.eqK
  ilF := h.ilF
  ilT := h.ilT
  ilK := h.ilK
  fI := ⟨h.fI.get⟩
  fL := ⟨h.fL.get⟩
  fE := ⟨h.fE.get⟩
structure Wld (c : Cx) : Prop where
  ws : Ws c
  hdR : ∀ h, c.G h → CodeHd h 157 153
  hdL : ∀ h, c.G h → CodeHd h 167 165
  mg : ∀ h, c.G h → ∃ mg, h.Ns mainGlobals mg ∧ ∀ P, tb P → h.BuiltinsAt mg P
  lim : ∀ h, c.G h → h.NoLimit
  KG : Known c.G
  KI : KIn c
  pair : Fnw c "_law_pair" 137 12 .none .none (.ref 136)
  given : Fnw c "_law_given" 144 13 .none .none (.ref 143)
  marks : Fnw c "_law_marks" 151 14 .none .none (.ref 150)
  row : Fnw c "_law_row" 158 15 .none .none (.ref 157)
  lead : Fnw c "_law_lead" 163 16 .none .none (.ref 162)
  gi : Fnw c "_grouping_intervals" 130 10 .none .none (.ref 129)
  ir : Bis c "insort_right" 96 4 (.ref 88) (.ref 89) (.ref 95)
  br : Bis c "bisect_right" 105 5 (.ref 97) (.ref 98) (.ref 104)
  il : Bis c "insort_left" 114 6 (.ref 106) (.ref 107) (.ref 113)
  bl : Bis c "bisect_left" 123 7 (.ref 115) (.ref 116) (.ref 122)
  sum : GlobIs c "sum" (.builtin "sum")
  len : GlobIs c "len" (.builtin "len")
  max : GlobIs c "max" (.builtin "max")
  sorted : GlobIs c "sorted" (.builtin "sorted")
  range : GlobIs c "range" (.type "range")
  enum : GlobIs c "enumerate" (.type "enumerate")
  zip : GlobIs c "zip" (.type "zip")
  tuple : GlobIs c "tuple" (.type "tuple")
  list : GlobIs c "list" (.type "list")
  cmax : ∃ t, GlobIs c "CHAR_MAX" (.int 127 t)
theorem Fnw.dp {c : Cx} {nm : Str} {a : Addr} {k : Nat} {dV kV cdv : Value} (h : Fnw c nm a k dV kV cdv) (env : Env) : Fnw (c.dp env) nm a k dV kV cdv := ⟨h.g, h.kp, ⟨h.f.get⟩⟩
theorem Bis.dp {c : Cx} {nm : Str} {a : Addr} {k : Nat} {dV kV cdv : Value} (h : Bis c nm a k dV kV cdv) (env : Env) : Bis (c.dp env) nm a k dV kV cdv := ⟨h.toFnw.dp env, h.two, h.key2, h.key4⟩
theorem Wld.dp {c : Cx} (h : Wld c) (env : Env) : Wld (c.dp env) where
  ws := h.ws.at' _
  hdR := h.hdR
  hdL := h.hdL
  mg := h.mg
  lim := h.lim
  KG := h.KG
  KI := h.KI
  pair := h.pair.dp env
  given := h.given.dp env
  marks := h.marks.dp env
  row := h.row.dp env
  lead := h.lead.dp env
  gi := h.gi.dp env
  ir := h.ir.dp env
  br := h.br.dp env
  il := h.il.dp env
  bl := h.bl.dp env
  sum := h.sum
  len := h.len
  max := h.max
  sorted := h.sorted
  range := h.range
  enum := h.enum
  zip := h.zip
  tuple := h.tuple
  list := h.list
  cmax := h.cmax

theorem Fnw.at' {c : Cx} {nm : Str} {a : Addr} {k : Nat} {dV kV cdv : Value} (h : Fnw c nm a k dV kV cdv) (A' : Around) : Fnw ({ c with A := A' }) nm a k dV kV cdv := ⟨h.g, h.kp, ⟨h.f.get⟩⟩
theorem Bis.at' {c : Cx} {nm : Str} {a : Addr} {k : Nat} {dV kV cdv : Value} (h : Bis c nm a k dV kV cdv) (A' : Around) : Bis ({ c with A := A' }) nm a k dV kV cdv := ⟨h.toFnw.at' A', h.two, h.key2, h.key4⟩
theorem Wld.at' {c : Cx} (h : Wld c) (A' : Around) : Wld ({ c with A := A' }) where
  ws := h.ws.at' _
  hdR := h.hdR
  hdL := h.hdL
  mg := h.mg
  lim := h.lim
  KG := h.KG
  KI := h.KI
  pair := h.pair.at' A'
  given := h.given.at' A'
  marks := h.marks.at' A'
  row := h.row.at' A'
  lead := h.lead.at' A'
  gi := h.gi.at' A'
  ir := h.ir.at' A'
  br := h.br.at' A'
  il := h.il.at' A'
  bl := h.bl.at' A'
  sum := h.sum
  len := h.len
  max := h.max
  sorted := h.sorted
  range := h.range
  enum := h.enum
  zip := h.zip
  tuple := h.tuple
  list := h.list
  cmax := h.cmax

def Cx.og (c : Cx) (code : Code) (fs : List Frame) : Cx := { c with A := c.A.in1.over code fs }

section
variable {c : Cx}
/-- a call of a plain function -/
theorem callE (KG : Known c.G) {n : Nat} (hl : LimN n c) {a : Addr} {name qual : Str} {params : Arguments} {body : List Stmt} {scope : Scope} {dV kV cdv : Value} (Fa : FnAt c a name qual params body scope dV kV cdv) {pos : List Value} {kw : List (Str × Value)} {binds : List (Str × Value)} {ds : List D} {d : D} {X : Addr → Prop} {s : Shared}
    (hG : c.G s.heap) (xo : Xok X s.heap)
    (hbind : ∀ fd : FuncData, (∃ doc pm an ct, fd = fnX name qual params body scope [] dV kV doc pm an cdv ct) → BindsTo s fd ⟨pos, kw⟩ binds) (hr : RdAll X s.heap (binds.map (·.2)) ds)
    (hcell : ∀ x ∈ scope.names, x.2 ≠ .cell) (hloc : ∀ x ∈ binds, scope.names.lookup x.1 = some .local ∧ (x.1 == ("__debug__" : Str)) = false)
    (h : ∀ env, Exs (c.dp env) scope (updAll (fun _ => none) (binds.map (·.1)) ds) body (.ret d))
    (hco : scope.isCoroutine = false) (hgen : scope.isGenerator = false) (hk : scope.kind = .function) : Gives c X s (call (.ref a) pos kw) d := by
  refine enter KG Fa hl.room hG xo hbind hr hcell hloc (fun env s₁ hs hcs _ g eo hL hXL hG₁ _ => ?_) hco hgen hk
  refine wp_up (h env _ env s₁ hs (fun x c' hc' => by rw [hcs] at hc'; cases hc') hG₁ eo) fun f s₂ h₂ => ?_
  obtain ⟨g₂, v, rfl, r⟩ := h₂
  refine ⟨(g.none.trans g₂).narrow fun a ha => .inr ?_, r.less fun a ha => .inl ha⟩
  rcases ha with rfl | ⟨p, hp, _⟩
  · exact hL
  · rw [hcs] at hp; cases hp
end
end Mine
namespace Mine
open PySem PySem.Spec PySem.Calls PyProof.Rows PySem.W
section
variable {c : Cx}
theorem log2_small (n : Nat) (h : n < 2 ^ 60) : n.log2 < 60 := by
  by_cases h0 : n = 0
  · subst h0; decide
  · exact (Nat.log2_lt h0).mpr h
theorem pylong_ok {a b : Int} (hb : b.natAbs < 2 ^ 60) : Builtin.divisionGoesByPylong a b = false := by
  unfold Builtin.divisionGoesByPylong
  have := log2_small _ hb
  simp only [Bool.and_eq_false_iff, decide_eq_false_iff_not]
  left
  split <;> omega
theorem BinOk.fdivS {a b : Int} (h : b ≠ 0) (hb : b.natAbs < 2 ^ 60) : BinOk c .FloorDiv (.int a) (.int b) (.int (a.fdiv b)) := .fdiv h (pylong_ok hb)

def pairA (n : Int) : Int := 1 + n.fmod 4
def pairB (n : Int) : Int := 1 + (if ((n.fdiv 16).fmod 3 == 2) = true then n else n.fdiv 4).fmod 4
theorem body_pair (KG : Known c.G) (n : Int) : Exs c (scopeOf (stAt 12)) (updAll (fun _ => none) ["cell"] [.int n]) (bodyOf (stAt 12)) (.ret (.tup [.int (pairA n), .int (pairB n)])) := by
  refine Exs.retC (Ex.ret ?_)
  refine Ev.tuple KG (.cons KG ?_ (.cons KG ?_ .nil)) (szl _ (by show 2 ≤ 1000; omega))
  · refine Ev.bin KG .intC (Ev.bin KG (.name rfl) .intC (BinOk.mod (by decide))) BinOk.add
  · refine Ev.bin KG .intC (Ev.bin KG (Ev.iteI KG (EvT.cmp KG (Ev.bin KG (Ev.bin KG (.name rfl) .intC (BinOk.fdivS ?_ ?_)) .intC (BinOk.mod ?_)) .intC CmpOk.eqI) (.name rfl) (Ev.bin KG (.name rfl) .intC (BinOk.fdivS ?_ ?_))) .intC (BinOk.mod ?_)) BinOk.add
    all_goals decide
theorem CallOk.of1 {nm x : Str} {a : Addr} {k : Nat} {cdv : Value} {n : Nat} (W : Wld c) (hl : LimN n c) (F : Fnw c nm a k .none .none cdv) {e d : D}
    (hb : ∀ (s : Shared) (v : Value) (fd : FuncData), (∃ doc pm an ct, fd = fnX nm nm (argsOf (stAt k)) (bodyOf (stAt k)) (scopeOf (stAt k)) [] .none .none doc pm an cdv ct) → BindsTo s fd ⟨[v], []⟩ [(x, v)])
    (hcell : ∀ x ∈ (scopeOf (stAt k)).names, x.2 ≠ .cell) (hloc : (scopeOf (stAt k)).names.lookup x = some .local ∧ (x == ("__debug__" : Str)) = false)
    (h : ∀ env, Exs (c.dp env) (scopeOf (stAt k)) (updAll (fun _ => none) [x] [e]) (bodyOf (stAt k)) (.ret d))
    (hco : (scopeOf (stAt k)).isCoroutine = false) (hgen : (scopeOf (stAt k)).isGenerator = false) (hk : (scopeOf (stAt k)).kind = .function) : CallOk c nm [e] d :=
  ⟨.ref a, F.g, .k _ F.kp, fun X s vs hG xo r => by
    obtain ⟨v, us, rfl, r1, r2⟩ := r.consInv
    rw [r2.nilInv]
    exact callE W.KG hl F.f (binds := [(x, v)]) hG xo (hb s v) (.one r1) hcell (fun y hy => by rw [List.mem_singleton.mp hy]; exact hloc) h hco hgen hk⟩
theorem call_pair (W : Wld c) {m : Nat} (hl : LimN m c) (n : Int) : CallOk c "_law_pair" [.int n] (.tup [.int (pairA n), .int (pairB n)]) :=
  .of1 W hl W.pair (x := "cell") (fun s v fd h => by obtain ⟨_, _, _, _, rfl⟩ := h; exact BindsTo.of_eq rfl) (by decide) ⟨rfl, rfl⟩ (fun env => body_pair (c := c.dp env) W.KG n) rfl rfl rfl

def givenI (n a b : Int) : List Int := if (n.fdiv 16).fmod 3 = 0 then [a, b] else if (n.fdiv 16).fmod 3 = 1 then [a, b, 127, 3] else [a, 0, 9]
theorem body_given (W : Wld c) {m : Nat} (hl : LimN m c) (n : Int) : Exs c (scopeOf (stAt 13)) (updAll (fun _ => none) ["cell"] [.int n]) (bodyOf (stAt 13)) (.ret (.list ((givenI n (pairA n) (pairB n)).map .int))) := by
  have KG := W.KG
  refine Exs.cons KG (Ex.asgT KG hl.lim (xs := [("one", _), ("two", _)]) (Ev.callF KG W.KI rfl (call_pair W hl n) (.cons KG (.name rfl) .nil)) (okA rfl) rfl) ?_
  refine Exs.retC (Ex.ret ?_)
  refine Ev.itemL KG (ds := [.list [.int (pairA n), .int (pairB n)], .list [.int (pairA n), .int (pairB n), .int 127, .int 3], .list [.int (pairA n), .int 0, .int 9]]) (Ev.list KG (.cons KG (Ev.list KG (.cons KG (.name rfl) (.cons KG (.name rfl) .nil)) ?_) (.cons KG (Ev.list KG (.cons KG (.name rfl) (.cons KG (.name rfl) (.cons KG .intC (.cons KG .intC .nil)))) ?_) (.cons KG (Ev.list KG (.cons KG (.name rfl) (.cons KG .intC (.cons KG .intC .nil))) ?_) .nil))) ?_) (Ev.bin KG (Ev.bin KG (.name rfl) .intC (BinOk.fdivS ?_ ?_)) .intC (BinOk.mod ?_)) ?_ ?_ ?_
  all_goals first | exact szl _ (Nat.le_of_ble_eq_true rfl) | decide | skip
  · exact Int.fmod_nonneg_of_pos _ (by decide)
  · exact Int.lt_trans (Int.fmod_lt_of_pos _ (by decide)) (by decide)
  · have h0 : 0 ≤ (n.fdiv 16).fmod 3 := Int.fmod_nonneg_of_pos _ (by decide)
    have h1 : (n.fdiv 16).fmod 3 < 3 := Int.fmod_lt_of_pos _ (by decide)
    unfold givenI
    have : (n.fdiv 16).fmod 3 = 0 ∨ (n.fdiv 16).fmod 3 = 1 ∨ (n.fdiv 16).fmod 3 = 2 := by omega
    rcases this with e | e | e <;> rw [e] <;> rfl
theorem call_given (W : Wld c) {m : Nat} (hl : LimN (m + 1) c) (n : Int) : CallOk c "_law_given" [.int n] (.list ((givenI n (pairA n) (pairB n)).map .int)) :=
  .of1 W hl W.given (x := "cell") (fun s v fd h => by obtain ⟨_, _, _, _, rfl⟩ := h; exact BindsTo.of_eq rfl) (by decide) ⟨rfl, rfl⟩ (fun env => body_given (W.dp env) (hl.dp env) n) rfl rfl rfl
end
end Mine
namespace Mine
open PySem PySem.Spec PySem.Calls PyProof.Rows PySem.W
section
variable {c : Cx} {sc : Scope} {ρ ρ' : Str → Option D}
theorem Ex.while (KG : Known c.G) {St : Type} (ρs : St → Str → Option D) (P : St → Prop) (cond : St → Bool) (next fin : St → St) (m : St → Nat) {test : Expr} {body : List Stmt} {pos : Pos}
    (htest : ∀ st, P st → EvT c sc (ρs st) test (cond st)) (hbody : ∀ st, P st → cond st = true → Exs c sc (ρs st) body (.next (ρs (next st))))
    (hP : ∀ st, P st → cond st = true → P (next st)) (hm : ∀ st, P st → cond st = true → m (next st) < m st) (hf1 : ∀ st, P st → cond st = true → fin (next st) = fin st) (hf0 : ∀ st, P st → cond st = false → fin st = st)
    {st : St} (h0 : P st) : Ex c sc (ρs st) (.While test body [] pos) (.next (ρs (fin st))) := fun X env s hs hn hG eo => by
  refine wpAny_While ?_
  refine codeAny_whileLoop (fun n s' => ∃ st', P st' ∧ fin st' = fin st ∧ m st' = n ∧ Gw (Own env) s s' ∧ EnvOk X env s'.heap (ρs st')) (fun n s' hI => ?_) (m st) ⟨st, h0, rfl, rfl, .refl s, eo⟩
  obtain ⟨st', hp, hf, rfl, g, eo'⟩ := hI
  have hG' := apart_own KG eo hG g
  refine wp_up (htest st' hp X env s' hs hG' eo') fun b s₁ h₁ => ?_
  obtain ⟨g₁, rfl⟩ := h₁
  have hG₁ := KG.keeps _ _ hG' g₁.kp
  have eo₁ := eo'.gw KG g₁ hG'
  cases hb : cond st' with
  | true =>
    refine wp_up (hbody st' hp hb X env s₁ hs hn hG₁ eo₁) fun f s₂ h₂ => ?_
    obtain ⟨g₂, rfl, eo₂⟩ := h₂
    exact ⟨m (next st'), hm st' hp hb, next st', hP st' hp hb, (hf1 st' hp hb).trans hf, rfl, (g.trans g₁.none).trans g₂, eo₂⟩
  | false =>
    rw [hf0 st' hp hb] at hf
    subst hf
    exact wpAny_execs_nil ⟨g.trans g₁.none, rfl, eo₁⟩

/-- the place that bisecting tells, of a test at each place -/
noncomputable def bis (p : Nat → Bool) : Nat → Nat → Nat → Nat
  | 0, lo, hi => lo
  | k + 1, lo, hi => if lo < hi then (if p ((lo + hi) / 2) then bis p k lo ((lo + hi) / 2) else bis p k ((lo + hi) / 2 + 1) hi) else lo
theorem bis_more (p : Nat → Bool) : ∀ (k j lo hi : Nat), hi - lo ≤ k → hi - lo ≤ j → bis p k lo hi = bis p j lo hi
  | 0, 0, _, _, _, _ => rfl
  | 0, j + 1, lo, hi, h, _ => by rw [bis, bis, if_neg (by omega)]
  | k + 1, 0, lo, hi, _, h => by rw [bis, bis, if_neg (by omega)]
  | k + 1, j + 1, lo, hi, h1, h2 => by
    rw [bis, bis]
    split
    · rename_i hlt
      rw [bis_more p k j lo ((lo + hi) / 2) (by omega) (by omega), bis_more p k j ((lo + hi) / 2 + 1) hi (by omega) (by omega)]
    · rfl
/-- the loop of bisect's -/
theorem Ex.bisect (KG : Known c.G) (ρs : Nat × Nat → Str → Option D) (N : Nat) (p : Nat → Bool) {test : Expr} {body : List Stmt} {pos : Pos}
    (htest : ∀ lo hi, hi ≤ N → EvT c sc (ρs (lo, hi)) test (decide ((lo : Int) < hi))) (hbody : ∀ lo hi, lo < hi → hi ≤ N → Exs c sc (ρs (lo, hi)) body (.next (ρs (if p ((lo + hi) / 2) then (lo, (lo + hi) / 2) else ((lo + hi) / 2 + 1, hi))))) :
    Ex c sc (ρs (0, N)) (.While test body [] pos) (.next (ρs (bis p N 0 N, bis p N 0 N))) := by
  have key : ∀ st : Nat × Nat, (st.1 ≤ st.2 ∧ st.2 ≤ N) → st.1 < st.2 → bis p N st.1 st.2 = (if p ((st.1 + st.2) / 2) then bis p N st.1 ((st.1 + st.2) / 2) else bis p N ((st.1 + st.2) / 2 + 1) st.2) := fun st hp hlt => by
    rw [bis_more p N (N + 1) st.1 st.2 (by omega) (by omega)]
    rw [bis, if_pos hlt]
  refine Ex.while KG ρs (fun st => st.1 ≤ st.2 ∧ st.2 ≤ N) (fun st => decide ((st.1 : Int) < st.2)) (fun st => if p ((st.1 + st.2) / 2) then (st.1, (st.1 + st.2) / 2) else ((st.1 + st.2) / 2 + 1, st.2)) (fun st => (bis p N st.1 st.2, bis p N st.1 st.2)) (fun st => st.2 - st.1) (fun st hp => htest st.1 st.2 hp.2) (fun st hp hc => ?_) (fun st hp hc => ?_) (fun st hp hc => ?_) (fun st hp hc => ?_) (fun st hp hc => ?_) (st := (0, N)) ⟨Nat.zero_le _, Nat.le_refl N⟩
  · exact hbody st.1 st.2 (by simpa using hc) hp.2
  · have : st.1 < st.2 := by simpa using hc
    split
    · exact ⟨by show st.1 ≤ (st.1 + st.2) / 2; omega, by show (st.1 + st.2) / 2 ≤ N; omega⟩
    · exact ⟨by show (st.1 + st.2) / 2 + 1 ≤ st.2; omega, hp.2⟩
  · have : st.1 < st.2 := by simpa using hc
    split
    · show (st.1 + st.2) / 2 - st.1 < st.2 - st.1; omega
    · show st.2 - ((st.1 + st.2) / 2 + 1) < st.2 - st.1; omega
  · have : st.1 < st.2 := by simpa using hc
    rw [key st hp this]
    split <;> rfl
  · have hn : ¬ st.1 < st.2 := by simpa using hc
    have he : st.1 = st.2 := by omega
    have : bis p N st.1 st.2 = st.1 := by
      cases N with
      | zero => rfl
      | succ k => rw [bis, if_neg hn]
    rw [this]
    exact Prod.ext rfl he

theorem fdiv2 (lo hi : Nat) : ((lo : Int) + (hi : Int)).fdiv 2 = (((lo + hi) / 2 : Nat) : Int) := by
  rw [Int.fdiv_eq_ediv_of_nonneg _ (by decide)]; omega

/-- what is asked of the marks at hand: a test of each by the mark sought -/
theorem bis_i (W : Wld c) {m : Nat} (hl : LimN m c) (xs : List Int) (x : Int) (t : Tok) (hz : xs.length < 1000) :
    Exs c (scopeOf (stAt 5)) (updAll (fun _ => none) ["a", "x", "lo", "hi", "key"] [.list (xs.map .int), .int x, .int 0, .none, .none]) (bodyOf (stAt 5)) (.ret (.int (bis (fun i => decide (x < xs.getD i 0)) xs.length 0 xs.length : Nat))) := by
  have KG := W.KG
  refine Exs.cons KG (Ex.iff KG (EvT.cmp KG (.name rfl) .intC CmpOk.lt) (fun h => absurd h (by decide)) (fun _ => .nil)) ?_
  refine Exs.cons KG (Ex.iff KG (EvT.cmp KG (.name rfl) .noneC CmpOk.isNone') (fun _ => Exs.cons KG (Ex.asg KG (Ev.callF KG W.KI rfl (.len W.len (by rw [List.length_map]; omega)) (.cons KG (.name rfl) .nil)) (ok1 rfl)) .nil) (fun h => absurd h (by decide))) ?_
  rw [List.length_map]
  refine Exs.cons KG (Ex.iff KG (EvT.cmp KG (.name rfl) .noneC CmpOk.isNone') (fun _ => Exs.cons KG (Ex.weak (Ex.bisect KG (fun st => af [("a", .list (xs.map .int)), ("x", .int x), ("lo", .int (st.1 : Nat)), ("hi", .int (st.2 : Nat)), ("key", .none)]) xs.length (fun i => decide (x < xs.getD i 0)) (fun lo hi h => EvT.cmp KG (.name rfl) (.name rfl) CmpOk.lt) (fun lo hi hlt hle => ?_)) (sub_af ⟨rfl, rfl, rfl, rfl, rfl, trivial⟩)) .nil) (fun h => absurd h (by decide))) ?_
  · refine Exs.cons KG (Ex.asg KG (Ev.bin KG (Ev.bin KG (.name rfl) (.name rfl) BinOk.add) .intC (BinOk.fdivS (by decide) (by decide))) (ok1 rfl)) ?_
    dsimp only
    rw [fdiv2]
    have hmid : (lo + hi) / 2 < xs.length := by omega
    refine Exs.cons KG (Ex.iff KG (EvT.cmp KG (.name rfl) (Ev.itemL KG (.name rfl) (.name rfl) (by omega) (by omega) (d := .int (xs.getD ((lo + hi) / 2) 0)) ?_) CmpOk.lt) (fun h => ?_) (fun h => ?_)) .nil
    · rw [Int.toNat_natCast, List.getElem?_map, List.getElem?_eq_getElem hmid]
      simp [List.getD, hmid]
    · rw [if_pos h]
      exact Exs.cons KG (Ex.asg KG (.name rfl) (ok1 rfl)) (Exs.sub (sub_af ⟨rfl, rfl, rfl, rfl, rfl, trivial⟩))
    · rw [if_neg (by rw [h]; decide)]
      exact Exs.cons KG (Ex.asg KG (Ev.bin KG (.name rfl) .intC BinOk.add) (ok1 rfl)) (Exs.sub (sub_af ⟨rfl, rfl, rfl, rfl, rfl, trivial⟩))
  · exact Exs.retC (Ex.ret (.name rfl))
end
end Mine
namespace Mine
open PySem PySem.Spec PySem.Calls PyProof.Rows PySem.W
section
variable {c : Cx} {sc : Scope} {ρ ρ' : Str → Option D}

/-- the frame of a call, at first -/
theorem frame_ok (KG : Known c.G) {X : Addr → Prop} {s : Shared} {h₁ : Heap} {binds : List (Str × Value)} {ds : List D} {env : Env} (hG : c.G s.heap) (xo : Xok X s.heap) (hk : env.scope.kind = .function) (hg : env.globals = mainGlobals) (hb : env.builtins = builtinsNs)
    (hL : env.locals = s.heap.objs.size) (hcs : env.cells = []) (hns : h₁.Ns s.heap.objs.size fun x => binds.reverse.lookup x) (hk₁ : ∀ b o, s.heap.get? b = some o → h₁.get? b = some o) (hr : RdAll X s.heap (binds.map (·.2)) ds)
    (hcell : ∀ x ∈ env.scope.names, x.2 ≠ .cell) (hloc : ∀ x ∈ binds, env.scope.names.lookup x.1 = some .local ∧ (x.1 == ("__debug__" : Str)) = false) :
    EnvOk (callX X env.locals) env h₁ (updAll (fun _ => none) (binds.map (·.1)) ds) ∧ s.heap.get? env.locals = none ∧ ¬ X env.locals := by
  have hnone : s.heap.get? s.heap.objs.size = none := size_none _ (Nat.le_refl _)
  have nX : ¬ X s.heap.objs.size := xo.fresh
  have more : ∀ b, callX X s.heap.objs.size b → X b ∨ s.heap.get? b = none := fun b hb => hb.imp id fun (q : b = s.heap.objs.size) => by rw [q]; exact hnone
  rw [hL]
  refine ⟨⟨hk, hg, hb, ⟨fun b hb => .inl (xo.xt.tbs b hb), fun b hb => hb.elim (xo.xt.hi b) fun (q : b = s.heap.objs.size) => .inr (by rw [q]; exact KG.big _ hG)⟩, fun b hb => ?_, hL ▸ fresh_ntb KG hG hnone, .inr hL, ⟨_, hL ▸ hns, fun x d hx _ => ?_⟩, fun x d hx hnl => ?_, fun p hp => ?_, ?_, fun x d hx => ?_, fun x hx => ?_⟩, hnone, nX⟩
  · rcases hb with q | q
    · obtain ⟨o, ho⟩ := xo.al b q; exact ⟨o, hk₁ _ _ ho⟩
    · obtain ⟨o, _, _, q2, _⟩ := hns
      have q' : b = s.heap.objs.size := q
      exact ⟨o, q' ▸ q2⟩
  · obtain ⟨v, hv, r⟩ := binds_get binds ds (fun _ => none) (fun _ => none) hr (fun x d q => by cases q) x d hx
    exact ⟨v, by simpa using hv, (r.more more).mono fun b o _ q => hk₁ b o q⟩
  · exfalso
    obtain ⟨v, hv, r⟩ := binds_get binds ds (fun _ => none) (fun _ => none) hr (fun x d q => by cases q) x d hx
    have hm : (x, v) ∈ binds := List.mem_reverse.mp (mem_of_lookup (by simpa using hv))
    exact hnl (hloc _ hm).1
  · rw [hcs] at hp; cases hp
  · rw [hcs]; exact .nil
  · obtain ⟨v, hv, r⟩ := binds_get binds ds (fun _ => none) (fun _ => none) hr (fun x d q => by cases q) x d hx
    have hm : (x, v) ∈ binds := List.mem_reverse.mp (mem_of_lookup (by simpa using hv))
    exact (hloc _ hm).2
  · exact absurd rfl (hcell (x, .cell) (mem_of_lookup hx))

/-- a lambda called -/
theorem callLam (W : Wld c) {n : Nat} (hl : LimN n c) {nm qual : Str} {params : Arguments} {body : Expr} {scope : Scope} {pm cdv ct : Value} {X : Addr → Prop} {s : Shared} {v : Value} {vs : List Value} {binds : List (Str × Value)} {ds : List D} {d : D}
    (hG : c.G s.heap) (xo : Xok X s.heap) (r : Rd X s.heap v (.fn (kla_fn nm qual params body scope [] pm cdv ct))) (hbind : bindArgs (kla_fn nm qual params body scope [] pm cdv ct) ⟨vs, []⟩ = pure binds) (hr : RdAll X s.heap (binds.map (·.2)) ds)
    (hcell : ∀ x ∈ scope.names, x.2 ≠ .cell) (hloc : ∀ x ∈ binds, scope.names.lookup x.1 = some .local ∧ (x.1 == ("__debug__" : Str)) = false)
    (h : ∀ env, Ev (c.dp env) scope (updAll (fun _ => none) (binds.map (·.1)) ds) body d)
    (hco : scope.isCoroutine = false) (hgen : scope.isGenerator = false) (hk : scope.kind = .function) : Gives c X s (call v vs) d := by
  cases r with
  | fn hx h1 h2 h3 hy h4 h5 h6 h7 =>
    refine wpAny_call (kla_callFunE hl.room h1 h2 hco hgen rfl ⟨_, _, _, _, h3, h4, h5, h7 ▸ h6⟩ ?_)
    rw [hbind]
    refine wpAny_pure (wpAny_newFunctionEnv hcell (fun x hx => (hloc x hx).1) (fun h₁ hns hsb => ⟨(W.lim _ hG).fresh _ hsb, ?_⟩) hk)
    have hk₁ : ∀ b o, s.heap.get? b = some o → h₁.get? b = some o := fun b o e => hsb.extBut b o (Nat.ne_of_lt (Heap.lt_size e)) (Heap.get?_push_of_some _ e)
    have g : Gw noX s { s with heap := h₁, toks := s.toks + binds.length } := .every hk₁
    refine kla_codeExpr ?_
    obtain ⟨eo, hLn, nX⟩ := frame_ok W.KG (env := newEnv scope s.heap.objs.size mainGlobals [] (qual ++ ".<locals>.") (some _) cdv none builtinsNs) hG xo hk rfl rfl rfl rfl hns hk₁ hr hcell hloc
    refine wp_up (h _ _ _ { s with heap := h₁, toks := s.toks + binds.length } rfl (W.KG.keeps _ _ hG g.kp) eo) fun u s₂ h₂ => ?_
    exact ⟨g.trans h₂.1, h₂.2.less fun a ha => .inl ha⟩

/-- a call of a function held by a local name -/
theorem Ev.callV (KG : Known c.G) {f : Str} {fpos pos : Pos} {e : Expr} {rest : List Expr} {fd : FuncData} {ds : List D} {d : D} (hf : ρ f = some (.fn fd)) (h : Evs c sc ρ (e :: rest) ds)
    (hc : ∀ X (s : Shared) v vs, c.G s.heap → Xok X s.heap → Rd X s.heap v (.fn fd) → RdAll X s.heap vs ds → Gives c X s (call v vs) d)
    (he : ∀ env, starEach (e :: rest) env = (false, eval e env) :: starEach rest env := by intro _; rfl) (hplain : ∀ env, (backTo pos (starEach rest env)).any (·.1) = false := by intro _; rfl) :
    Ev c sc ρ (.Call (.Name f fpos) (e :: rest) [] pos) d := fun X env s hs hG eo => by
  refine wpAny_Call_ofName (wp_up (Ev.name (c := c) hf X env s hs hG eo) fun v s₁ h₁ => ?_)
  obtain ⟨g₁, r₁⟩ := h₁
  have hG₁ := KG.keeps _ _ hG g₁.kp
  have eo₁ := eo.gw KG g₁ hG
  have r₁' := r₁
  cases r₁ with
  | @fn f' fo fd' k oc vs q t hx h1 h2 h3 hy h4 h5 h6 h7 =>
    refine callWith_function (o := fo) (fd := fd) ?_
    have h' := h X env pos s₁ hs hG₁ eo₁
    rw [he] at h' ⊢
    refine evalArgs_plain (wp_up h' fun vs s₂ h₂ => ?_)
    obtain ⟨g₂, rs⟩ := h₂
    refine ⟨⟨g₂.kp.keep _ _ (fun z => z) (fun z => hx (eo.xt.tbs _ z)) h1, h2⟩, ?_⟩
    rw [List.nil_append]
    exact wp_up (hc X s₂ _ vs (KG.keeps _ _ hG₁ g₂.kp) (eo₁.xok.gw KG hG₁ g₂) (r₁'.gw eo.xt g₂.none) rs) fun u s₃ h₃ => ⟨(g₁.trans g₂).trans h₃.1, h₃.2⟩

/-- what a key tells of a pair: its first -/
def KeyFn (fd : FuncData) : Prop := ∀ (c : Cx) (n : Nat), Wld c → LimN n c → ∀ (k t : Int) X (s : Shared) v u, c.G s.heap → Xok X s.heap → Rd X s.heap v (.fn fd) → Rd X s.heap u (.tup [.int k, .int t]) → Gives c X s (call v [u]) (.int k)

def prD (p : Int × Int) : D := .tup [.int p.1, .int p.2]
theorem bisL_i (W : Wld c) {m : Nat} (hl : LimN m c) (xs : List Int) (x : Int) (hz : xs.length < 1000) :
    Exs c (scopeOf (stAt 7)) (updAll (fun _ => none) ["a", "x", "lo", "hi", "key"] [.list (xs.map .int), .int x, .int 0, .none, .none]) (bodyOf (stAt 7)) (.ret (.int (bis (fun i => !decide (xs.getD i 0 < x)) xs.length 0 xs.length : Nat))) := by
  have KG := W.KG
  refine Exs.cons KG (Ex.iff KG (EvT.cmp KG (.name rfl) .intC CmpOk.lt) (fun h => absurd h (by decide)) (fun _ => .nil)) ?_
  refine Exs.cons KG (Ex.iff KG (EvT.cmp KG (.name rfl) .noneC CmpOk.isNone') (fun _ => Exs.cons KG (Ex.asg KG (Ev.callF KG W.KI rfl (.len W.len (by rw [List.length_map]; omega)) (.cons KG (.name rfl) .nil)) (ok1 rfl)) .nil) (fun h => absurd h (by decide))) ?_
  rw [List.length_map]
  refine Exs.cons KG (Ex.iff KG (EvT.cmp KG (.name rfl) .noneC CmpOk.isNone') (fun _ => Exs.cons KG (Ex.weak (Ex.bisect KG (fun st => af [("a", .list (xs.map .int)), ("x", .int x), ("lo", .int (st.1 : Nat)), ("hi", .int (st.2 : Nat)), ("key", .none)]) xs.length (fun i => !decide (xs.getD i 0 < x)) (fun lo hi h => EvT.cmp KG (.name rfl) (.name rfl) CmpOk.lt) (fun lo hi hlt hle => ?_)) (sub_af ⟨rfl, rfl, rfl, rfl, rfl, trivial⟩)) .nil) (fun h => absurd h (by decide))) ?_
  · refine Exs.cons KG (Ex.asg KG (Ev.bin KG (Ev.bin KG (.name rfl) (.name rfl) BinOk.add) .intC (BinOk.fdivS (by decide) (by decide))) (ok1 rfl)) ?_
    dsimp only
    rw [fdiv2]
    have hmid : (lo + hi) / 2 < xs.length := by omega
    refine Exs.cons KG (Ex.iff KG (EvT.cmp KG (Ev.itemL KG (.name rfl) (.name rfl) (by omega) (by omega) (d := .int (xs.getD ((lo + hi) / 2) 0)) ?_) (.name rfl) CmpOk.lt) (fun h => ?_) (fun h => ?_)) .nil
    · rw [Int.toNat_natCast, List.getElem?_map, List.getElem?_eq_getElem hmid]
      simp [List.getD, hmid]
    · rw [if_neg (by rw [h]; decide)]
      exact Exs.cons KG (Ex.asg KG (Ev.bin KG (.name rfl) .intC BinOk.add) (ok1 rfl)) (Exs.sub (sub_af ⟨rfl, rfl, rfl, rfl, rfl, trivial⟩))
    · rw [if_pos (by rw [h]; decide)]
      exact Exs.cons KG (Ex.asg KG (.name rfl) (ok1 rfl)) (Exs.sub (sub_af ⟨rfl, rfl, rfl, rfl, rfl, trivial⟩))
  · exact Exs.retC (Ex.ret (.name rfl))
theorem isNone_fn {fd : FuncData} : CmpOk c .Is (.fn fd) .none (.bool false) := CmpOk.isNone fun X h v r e => by subst e; cases r

theorem bis_k (W : Wld c) {m : Nat} (hl : LimN m c) {fd : FuncData} (K : KeyFn fd) (xs : List (Int × Int)) (x : Int) (hz : xs.length < 1000) :
    Exs c (scopeOf (stAt 5)) (updAll (fun _ => none) ["a", "x", "lo", "hi", "key"] [.list (xs.map prD), .int x, .int 0, .none, .fn fd]) (bodyOf (stAt 5)) (.ret (.int (bis (fun i => decide (x < (xs.getD i (0, 0)).1)) xs.length 0 xs.length : Nat))) := by
  have KG := W.KG
  refine Exs.cons KG (Ex.iff KG (EvT.cmp KG (.name rfl) .intC CmpOk.lt) (fun h => absurd h (by decide)) (fun _ => .nil)) ?_
  refine Exs.cons KG (Ex.iff KG (EvT.cmp KG (.name rfl) .noneC CmpOk.isNone') (fun _ => Exs.cons KG (Ex.asg KG (Ev.callF KG W.KI rfl (.len W.len (by rw [List.length_map]; omega)) (.cons KG (.name rfl) .nil)) (ok1 rfl)) .nil) (fun h => absurd h (by decide))) ?_
  rw [List.length_map]
  refine Exs.cons KG (Ex.iff KG (EvT.cmp KG (.name rfl) .noneC isNone_fn) (fun h => absurd h (by decide)) (fun _ => Exs.cons KG (Ex.weak (Ex.bisect KG (fun st => af [("a", .list (xs.map prD)), ("x", .int x), ("lo", .int (st.1 : Nat)), ("hi", .int (st.2 : Nat)), ("key", .fn fd)]) xs.length (fun i => decide (x < (xs.getD i (0, 0)).1)) (fun lo hi h => EvT.cmp KG (.name rfl) (.name rfl) CmpOk.lt) (fun lo hi hlt hle => ?_)) (sub_af ⟨rfl, rfl, rfl, rfl, rfl, trivial⟩)) .nil)) ?_
  · refine Exs.cons KG (Ex.asg KG (Ev.bin KG (Ev.bin KG (.name rfl) (.name rfl) BinOk.add) .intC (BinOk.fdivS (by decide) (by decide))) (ok1 rfl)) ?_
    dsimp only
    rw [fdiv2]
    have hmid : (lo + hi) / 2 < xs.length := by omega
    refine Exs.cons KG (Ex.iff KG (EvT.cmp KG (.name rfl) (Ev.callV KG rfl (.cons KG (Ev.itemL KG (.name rfl) (.name rfl) (by omega) (by omega) (d := prD (xs.getD ((lo + hi) / 2) (0, 0))) ?_) .nil) (d := .int (xs.getD ((lo + hi) / 2) (0, 0)).1) ?_) CmpOk.lt) (fun h => ?_) (fun h => ?_)) .nil
    · rw [Int.toNat_natCast, List.getElem?_map, List.getElem?_eq_getElem hmid]
      simp [List.getD, hmid]
    · intro X s v vs hG xo r rs
      obtain ⟨u, us, rfl, r1, r2⟩ := rs.consInv
      rw [r2.nilInv]
      exact K c m W hl _ _ X s v u hG xo r r1
    · rw [if_pos h]
      exact Exs.cons KG (Ex.asg KG (.name rfl) (ok1 rfl)) (Exs.sub (sub_af ⟨rfl, rfl, rfl, rfl, rfl, trivial⟩))
    · rw [if_neg (by rw [h]; decide)]
      exact Exs.cons KG (Ex.asg KG (Ev.bin KG (.name rfl) .intC BinOk.add) (ok1 rfl)) (Exs.sub (sub_af ⟨rfl, rfl, rfl, rfl, rfl, trivial⟩))
  · exact Exs.retC (Ex.ret (.name rfl))
theorem bisL_k (W : Wld c) {m : Nat} (hl : LimN m c) {fd : FuncData} (K : KeyFn fd) (xs : List (Int × Int)) (x : Int) (hz : xs.length < 1000) :
    Exs c (scopeOf (stAt 7)) (updAll (fun _ => none) ["a", "x", "lo", "hi", "key"] [.list (xs.map prD), .int x, .int 0, .none, .fn fd]) (bodyOf (stAt 7)) (.ret (.int (bis (fun i => !decide ((xs.getD i (0, 0)).1 < x)) xs.length 0 xs.length : Nat))) := by
  have KG := W.KG
  refine Exs.cons KG (Ex.iff KG (EvT.cmp KG (.name rfl) .intC CmpOk.lt) (fun h => absurd h (by decide)) (fun _ => .nil)) ?_
  refine Exs.cons KG (Ex.iff KG (EvT.cmp KG (.name rfl) .noneC CmpOk.isNone') (fun _ => Exs.cons KG (Ex.asg KG (Ev.callF KG W.KI rfl (.len W.len (by rw [List.length_map]; omega)) (.cons KG (.name rfl) .nil)) (ok1 rfl)) .nil) (fun h => absurd h (by decide))) ?_
  rw [List.length_map]
  refine Exs.cons KG (Ex.iff KG (EvT.cmp KG (.name rfl) .noneC isNone_fn) (fun h => absurd h (by decide)) (fun _ => Exs.cons KG (Ex.weak (Ex.bisect KG (fun st => af [("a", .list (xs.map prD)), ("x", .int x), ("lo", .int (st.1 : Nat)), ("hi", .int (st.2 : Nat)), ("key", .fn fd)]) xs.length (fun i => !decide ((xs.getD i (0, 0)).1 < x)) (fun lo hi h => EvT.cmp KG (.name rfl) (.name rfl) CmpOk.lt) (fun lo hi hlt hle => ?_)) (sub_af ⟨rfl, rfl, rfl, rfl, rfl, trivial⟩)) .nil)) ?_
  · refine Exs.cons KG (Ex.asg KG (Ev.bin KG (Ev.bin KG (.name rfl) (.name rfl) BinOk.add) .intC (BinOk.fdivS (by decide) (by decide))) (ok1 rfl)) ?_
    dsimp only
    rw [fdiv2]
    have hmid : (lo + hi) / 2 < xs.length := by omega
    refine Exs.cons KG (Ex.iff KG (EvT.cmp KG (Ev.callV KG rfl (.cons KG (Ev.itemL KG (.name rfl) (.name rfl) (by omega) (by omega) (d := prD (xs.getD ((lo + hi) / 2) (0, 0))) ?_) .nil) (d := .int (xs.getD ((lo + hi) / 2) (0, 0)).1) ?_) (.name rfl) CmpOk.lt) (fun h => ?_) (fun h => ?_)) .nil
    · rw [Int.toNat_natCast, List.getElem?_map, List.getElem?_eq_getElem hmid]
      simp [List.getD, hmid]
    · intro X s v vs hG xo r rs
      obtain ⟨u, us, rfl, r1, r2⟩ := rs.consInv
      rw [r2.nilInv]
      exact K c m W hl _ _ X s v u hG xo r r1
    · rw [if_neg (by rw [h]; decide)]
      exact Exs.cons KG (Ex.asg KG (Ev.bin KG (.name rfl) .intC BinOk.add) (ok1 rfl)) (Exs.sub (sub_af ⟨rfl, rfl, rfl, rfl, rfl, trivial⟩))
    · rw [if_pos (by rw [h]; decide)]
      exact Exs.cons KG (Ex.asg KG (.name rfl) (ok1 rfl)) (Exs.sub (sub_af ⟨rfl, rfl, rfl, rfl, rfl, trivial⟩))
  · exact Exs.retC (Ex.ret (.name rfl))
end
end Mine
namespace Mine
open PySem PySem.Spec PySem.Calls PyProof.Rows PySem.W
section
variable {c : Cx} {sc : Scope} {ρ ρ' : Str → Option D}

/-- a call by name with a keyword -/
def CallKOk (c : Cx) (f : Str) (ds : List D) (k : Str) (dk d : D) : Prop := ∃ fv, GlobIs c f fv ∧ keepIn c.K fv = true ∧
  ∀ (X : Addr → Prop) (s : Shared) (vs : List Value) (kv : Value), c.G s.heap → Xok X s.heap → RdAll X s.heap vs ds → Rd X s.heap kv dk → Gives c X s (call fv vs [(k, kv)]) d
theorem Ev.callFK (KG : Known c.G) (KI : KIn c) {f k : Str} {e kx : Expr} {rest : List Expr} {ds : List D} {dk d : D} {fpos kpos pos : Pos} (hk : sc.names.lookup f = some .globalImplicit) (hf : CallKOk c f ds k dk d) (h : Evs c sc ρ (e :: rest) ds) (hkx : Ev c sc ρ kx dk)
    (he : ∀ env, starEach (e :: rest) env = (false, eval e env) :: starEach rest env := by intro _; rfl) (hplain : ∀ env, ((backTo pos (starEach (e :: rest) env)).any (·.1) || (backToKw pos (keywordEach [{ arg := some k, value := kx, pos := kpos }] env)).any (·.1.isNone)) = false := by intro _; rfl)
    (hd : (f == ("__debug__" : Str)) = false := by decide) :
    Ev c sc ρ (.Call (.Name f fpos) (e :: rest) [{ arg := some k, value := kx, pos := kpos }] pos) d := fun X env s hs hG eo => by
  obtain ⟨fv, g, kk, hc⟩ := hf
  refine wpAny_Call_ofName (g.load hG eo.kind eo.glob eo.blt (by unfold Env.kindOf; rw [hs]; exact hk) hd ?_)
  have hkw : backToKw pos (keywordEach [{ arg := some k, value := kx, pos := kpos }] env) = [(some k, do let v ← eval kx env; standAt pos; pure v)] := rfl
  refine callWith_KW (KI _ hG) kk (by rw [hkw]; rfl) (wp_up (h X env pos s hs hG eo) fun vs s₁ h₁ => ?_) (hplain env) (he env)
  have hG₁ := KG.keeps _ _ hG h₁.1.kp
  have eo₁ := eo.gw KG h₁.1 hG
  rw [hkw]
  refine wpAny_evalAll_cons (wpAny_bind (wp_up (hkx X env s₁ hs hG₁ eo₁) fun kv s₂ h₂ => wpAny_bind (wpAny_standAt (wpAny_pure (wpAny_evalAll_nil ?_)))))
  have hG₂ := KG.keeps _ _ hG₁ h₂.1.kp
  refine ⟨KI _ hG₂, ?_⟩
  rw [List.nil_append]
  exact wp_up (hc X s₂ vs kv hG₂ (eo₁.xok.gw KG hG₁ h₂.1) (h₁.2.gw eo.xt h₂.1.none) h₂.2) fun v s₃ h₃ => ⟨(h₁.1.trans h₂.1).trans h₃.1, h₃.2⟩

/-- a frame with one list of its own that it turns in place -/
structure Mu (X : Addr → Prop) (env : Env) (h : Heap) (ρ : Str → Option D) (A : Addr) (nm : Str) (ds : List D) : Prop where
  eo : EnvOk X env h ρ
  XA : X A
  nt : ¬ tb A
  no : ¬ Own env A
  nmv : ρ nm = some (.val (.ref A))
  lc : env.kindOf nm = some .local
  at' : ∃ vs, h.PlainList A vs ∧ RdAll X h vs.toList ds
def rm (X : Addr → Prop) (A : Addr) : Addr → Prop := fun a => X a ∧ a ≠ A
theorem Mu.read {X : Addr → Prop} {env : Env} {h : Heap} {A : Addr} {nm : Str} {ds : List D} (m : Mu X env h ρ A nm ds) : EnvOk (rm X A) env h (upd ρ nm (.list ds)) := by
  have e := m.eo
  have le : ∀ a, rm X A a → X a := fun a ha => ha.1
  have ro : ∀ a, Own env a → rm X A a := fun a ha => ⟨(own_X e ha).1, fun z => m.no (z ▸ ha)⟩
  obtain ⟨mm, hn, hm⟩ := e.loc
  refine ⟨e.kind, e.glob, e.blt, ⟨fun b hb => ⟨e.xt.tbs b hb, fun z => m.nt (z ▸ hb)⟩, fun a ha => e.xt.hi a ha.1⟩, fun a ha => e.al a ha.1, e.ntb, ro _ (.inl rfl), ⟨mm, hn, fun x d hx hk => ?_⟩, fun x d hx hk => ?_, fun p hp => ?_, e.apart, fun x d hx => ?_, e.hasC⟩
  · by_cases hxn : x = nm
    · subst hxn
      have : d = .list ds := by simp [upd] at hx; exact hx.symm
      subst this
      obtain ⟨v, hv, r⟩ := hm x _ m.nmv hk
      cases r
      obtain ⟨vs, ⟨n, ha⟩, r⟩ := m.at'
      exact ⟨_, hv, RdAll.list (vs := vs.toList) (n := n) (fun z => z.2 rfl) (by simpa using ha) (r.less le)⟩
    · obtain ⟨v, hv, r⟩ := hm x d (by simpa [upd, hxn] using hx) hk
      exact ⟨v, hv, r.less le⟩
  · have hxn : x ≠ nm := fun z => hk (z ▸ m.lc)
    obtain ⟨h1, c, v, h2, h3, r⟩ := e.cel x d (by simpa [upd, hxn] using hx) hk
    exact ⟨h1, c, v, h2, h3, r.less le⟩
  · obtain ⟨h1, h2⟩ := e.cells p hp
    exact ⟨ro _ (.inr ⟨p, hp, rfl⟩), h2⟩
  · by_cases hxn : x = nm
    · exact hxn ▸ e.gl nm _ m.nmv
    · exact e.gl x d (by simpa [upd, hxn] using hx)
/-- nothing turned but what is no one's -/
theorem Mu.gw (KG : Known c.G) {X : Addr → Prop} {env : Env} {s s' : Shared} {A : Addr} {nm : Str} {ds : List D} (m : Mu X env s.heap ρ A nm ds) (hG : c.G s.heap) (g : Gw noX s s') : Mu X env s'.heap ρ A nm ds := by
  refine ⟨m.eo.gw KG g hG, m.XA, m.nt, m.no, m.nmv, m.lc, ?_⟩
  obtain ⟨vs, a, r⟩ := m.at'
  exact ⟨vs, a.at fun o q => g.kp.keep _ o (fun z => z) m.nt q, r.gw m.eo.xt g.none⟩
/-- a store to a name of its own -/
theorem Mu.store {prog : Program} {w : World} {Ar : Around} {X : Addr → Prop} {env : Env} {s : Shared} {A : Addr} {nm x : Str} {ds : List D} {v : Value} {d : D} {Q : Unit → Shared → Prop} {E : Value → Shared → Prop} (m : Mu X env s.heap ρ A nm ds) (hs : env.scope = sc) (r : Rd X s.heap v d) (hx : okName sc x) (hne : nm ≠ x)
    (h : ∀ s', Mu X env s'.heap (upd ρ x d) A nm ds → Gw (Own env) s s' → Q () s') : wpAny (model prog w) Ar (storeName env x v) Q E s := by
  refine store_ok m.eo r (by unfold Env.kindOf; rw [hs]; exact hx.1) hx.2 fun s' e' g => ?_
  have g' : Gw (Own env) s s' := g.wide fun a ha => by
    rcases ha with rfl | ⟨c, q, rfl⟩
    · exact .inl rfl
    · exact .inr ⟨_, mem_of_lookup q, rfl⟩
  refine h s' ⟨e', m.XA, m.nt, m.no, by simp [upd, hne, m.nmv], m.lc, ?_⟩ g'
  obtain ⟨vs, a, r⟩ := m.at'
  exact ⟨vs, a.at fun o q => g'.kp.keep _ o m.no m.nt q, r.gw m.eo.xt (g'.wide fun a ha => (own_X m.eo ha).1)⟩

/-- how a statement of such a frame ends -/
inductive Fm
  | next (ρ : Str → Option D) (ds : List D)
  | brk (ρ : Str → Option D) (ds : List D)
  | ret (ds : List D)
  | retN (ds : List D)
def FmOk (X : Addr → Prop) (env : Env) (A : Addr) (nm : Str) : Fm → Flow → Shared → Prop
  | .next ρ ds, f, s => f = .next ∧ Mu X env s.heap ρ A nm ds
  | .brk ρ ds, f, s => f = .brk ∧ Mu X env s.heap ρ A nm ds
  | .ret ds, f, s => f = .ret (.ref A) ∧ ∃ vs, s.heap.PlainList A vs ∧ RdAll X s.heap vs.toList ds
  | .retN ds, f, s => f = .ret .none ∧ ∃ vs, s.heap.PlainList A vs ∧ RdAll X s.heap vs.toList ds
def Exm (c : Cx) (sc : Scope) (nm : Str) (ρ : Str → Option D) (ds : List D) (st : Stmt) (fl : Fm) : Prop :=
  ∀ (X : Addr → Prop) (env : Env) (A : Addr) (s : Shared), env.scope = sc → (∀ x, OwnN env x) → c.G s.heap → Mu X env s.heap ρ A nm ds →
    wpAny (model c.prog c.w) c.A (exec st env) (fun f s' => Gw (fun a => Own env a ∨ a = A) s s' ∧ FmOk X env A nm fl f s') noE s
def Exms (c : Cx) (sc : Scope) (nm : Str) (ρ : Str → Option D) (ds : List D) (st : List Stmt) (fl : Fm) : Prop :=
  ∀ (X : Addr → Prop) (env : Env) (A : Addr) (s : Shared), env.scope = sc → (∀ x, OwnN env x) → c.G s.heap → Mu X env s.heap ρ A nm ds →
    wpAny (model c.prog c.w) c.A (execs st env) (fun f s' => Gw (fun a => Own env a ∨ a = A) s s' ∧ FmOk X env A nm fl f s') noE s
variable {nm : Str} {ds : List D}
theorem mu_G (KG : Known c.G) {X : Addr → Prop} {env : Env} {A : Addr} {s s' : Shared} {h : Heap} (m : Mu X env h ρ A nm ds) (hG : c.G s.heap) (g : Gw (fun a => Own env a ∨ a = A) s s') : c.G s'.heap :=
  KG.apart _ _ _ (fun a ha => m.eo.xt.hi a (ha.elim (fun q => (own_X m.eo q).1) fun z => z ▸ m.XA)) hG g.kp
theorem Exms.nil : Exms c sc nm ρ ds [] (.next ρ ds) := fun X env A s _ _ _ m => wpAny_execs_nil ⟨.refl s, rfl, m⟩
theorem Mu.sub {X : Addr → Prop} {env : Env} {h : Heap} {A : Addr} (m : Mu X env h ρ A nm ds) (k : Sub ρ' ρ) (hn : ρ' nm = some (.val (.ref A))) : Mu X env h ρ' A nm ds := ⟨m.eo.sub k, m.XA, m.nt, m.no, hn, m.lc, m.at'⟩
theorem Exms.cons (KG : Known c.G) {st : Stmt} {rest : List Stmt} {fl : Fm} {es : List D} (h : Exm c sc nm ρ ds st (.next ρ' es)) (k : Exms c sc nm ρ' es rest fl) : Exms c sc nm ρ ds (st :: rest) fl := fun X env A s hs hn hG m => by
  refine wpAny_execs_cons (wp_up (h X env A s hs hn hG m) fun f s₁ h₁ => ?_)
  obtain ⟨g, rfl, m₁⟩ := h₁
  exact wp_up (k X env A s₁ hs hn (mu_G KG m hG g) m₁) fun f' s₂ h₂ => ⟨g.trans h₂.1, h₂.2⟩
theorem Exms.brkC {st : Stmt} {rest : List Stmt} {es : List D} (h : Exm c sc nm ρ ds st (.brk ρ' es)) : Exms c sc nm ρ ds (st :: rest) (.brk ρ' es) := fun X env A s hs hn hG m => by
  refine wpAny_execs_cons (wp_up (h X env A s hs hn hG m) fun f s₁ h₁ => ?_)
  obtain ⟨g, rfl, r⟩ := h₁
  exact ⟨g, rfl, r⟩
theorem Exms.retC {st : Stmt} {rest : List Stmt} {es : List D} (h : Exm c sc nm ρ ds st (.ret es)) : Exms c sc nm ρ ds (st :: rest) (.ret es) := fun X env A s hs hn hG m => by
  refine wpAny_execs_cons (wp_up (h X env A s hs hn hG m) fun f s₁ h₁ => ?_)
  obtain ⟨g, rfl, r⟩ := h₁
  exact ⟨g, rfl, r⟩
theorem Exm.iff (KG : Known c.G) {t : Expr} {b : Bool} {body orelse : List Stmt} {pos : Pos} {fl : Fm} (ht : EvT c sc (upd ρ nm (.list ds)) t b) (h1 : b = true → Exms c sc nm ρ ds body fl) (h2 : b = false → Exms c sc nm ρ ds orelse fl) : Exm c sc nm ρ ds (.If t body orelse pos) fl := fun X env A s hs hn hG m => by
  refine wpAny_If (wp_up (ht _ env s hs hG m.read) fun r s₁ h₁ => ?_)
  obtain ⟨g, rfl⟩ := h₁
  have hG₁ := KG.keeps _ _ hG g.kp
  have m₁ := m.gw KG hG g
  cases r with
  | true => exact wp_up (h1 rfl X env A s₁ hs hn hG₁ m₁) fun f s₂ h₂ => ⟨g.none.trans h₂.1, h₂.2⟩
  | false => exact wp_up (h2 rfl X env A s₁ hs hn hG₁ m₁) fun f s₂ h₂ => ⟨g.none.trans h₂.1, h₂.2⟩
theorem Exm.asgI (KG : Known c.G) {x : Str} {px pos : Pos} {e : Expr} {k : Int} (h : Ev c sc (upd ρ nm (.list ds)) e (.int k)) (hx : okName sc x) (hne : nm ≠ x) (hsw : ∀ env, swapsWith e (some (.Name x px)) pos.line env = pure false := by intro _; rfl) : Exm c sc nm ρ ds (.Assign [.Name x px] e pos) (.next (upd ρ x (.int k)) ds) := fun X env A s hs hn hG m => by
  refine wpAny_Assign_Name (wp_up (h _ env s hs hG m.read) fun v s₁ h₁ => ?_) (hsw env)
  obtain ⟨t, rfl⟩ := h₁.2.intInv
  exact (m.gw KG hG h₁.1).store hs (.int k t) hx hne fun s' m' g => ⟨h₁.1.none.trans (g.wide fun a q => .inl q), rfl, m'⟩
theorem Exm.brk {pos : Pos} : Exm c sc nm ρ ds (.Break pos) (.brk ρ ds) := fun X env A s hs hn hG m => by
  have e : exec (.Break pos) env = (do standAt pos; pure Flow.brk) := rfl
  rw [e]
  exact wpAny_bind (wpAny_standAt (wpAny_pure ⟨.refl s, rfl, m⟩))
theorem Exm.ret {p pos : Pos} : Exm c sc nm ρ ds (.Return (some (.Name nm p)) pos) (.ret ds) := fun X env A s hs hn hG m => by
  refine wpAny_Return_some (wpAny_Name (load_ok m.eo m.nmv fun v r => ?_) (m.eo.gl _ _ m.nmv))
  cases r
  exact ⟨.refl s, rfl, m.at'⟩

/-- a turn of the list, by a method of two or one -/
theorem Exm.append (KG : Known c.G) {e : Expr} {d : D} {np apos cpos pos : Pos} (he : Ev c sc (upd ρ nm (.list ds)) e d) (hi : ∃ k, d = .int k) (hz : ds.length ≤ 1000) (hline : (apos.endLine == cpos.line) = true := by rfl)
    (hst : ∀ env, starEach [e] env = (false, eval e env) :: starEach [] env := by intro _; rfl)
    (hbase : ∀ env, attributeBase (.Name nm np) "append" env (eval (.Name nm np) env) = eval (.Name nm np) env := by intro _; rfl)
    (hfew : ∀ env, ((backTo cpos (starEach [e] env)).all (fun x => !x.1) && (backToKw cpos (keywordEach [] env)).all (fun x => x.1.isSome) && decide ([e].length + ([] : List Keyword).length + (if ([] : List Keyword).isEmpty then 0 else 1) < 30)) = true := by intro _; rfl)
    (hsw : ∀ env, swapsWith (.Call (.Attribute (.Name nm np) "append" apos) [e] [] cpos) none pos.line env = pure false := by intro _; rfl) :
    Exm c sc nm ρ ds (.Expr (.Call (.Attribute (.Name nm np) "append" apos) [e] [] cpos) pos) (.next ρ (ds ++ [d])) := fun X env A s hs hn hG m => by
  obtain ⟨k, rfl⟩ := hi
  refine wpAny_Expr_any ?_ (inter_fn m.eo.kind) (hsw env)
  refine wpAny_Call_method (hbase env) (hfew env) hline PySem.F.plainAttrs_list PySem.F.slot_list_append PySem.F.type_list_append (wpAny_Name (load_ok m.eo m.nmv fun v r => ?_) (m.eo.gl _ _ m.nmv))
  cases r
  obtain ⟨vs, ⟨n, ha⟩, rs⟩ := m.at'
  refine ⟨⟨_, ha, rfl⟩, fun a e => by cases e; exact ⟨_, ha, rfl⟩, ?_⟩
  refine callWith_builtin (by rw [hst]; rfl) ?_
  rw [hst]
  refine evalArgs_plain (Calls.spliced_cons (wp_up (he _ env s hs hG m.read) fun v s₁ h₁ => Calls.spliced_nil ?_))
  obtain ⟨t, rfl⟩ := h₁.2.intInv
  have m₁ := m.gw KG hG h₁.1
  obtain ⟨us, hb, ru⟩ := m₁.at'
  have hsz : us.size = ds.length := by have := ru.1; simpa using this
  refine wpAny_list_append_plain hb (fun h' hl' hs' => ?_) (by rw [hsz]; exact szl _ hz)
  have kx : ∀ b o, b ≠ A → s₁.heap.get? b = some o → h'.get? b = some o := fun b o hb q => hs'.extBut b o hb q
  have g : Gw (fun a => a = A) s₁ { s₁ with heap := h' } := .heap (tk := s₁.toks) (.all (fun b hb z => m.nt (z ▸ hb)) fun b o hb q => kx b o hb q)
  refine ⟨h₁.1.none.trans (g.wide fun a q => .inr q), rfl, ?_, m.XA, m.nt, m.no, m.nmv, m.lc, ?_⟩
  · refine m₁.eo.leave g (fun a ha => ha ▸ ⟨m.XA, m.no⟩) (fun _ q => q) (fun a q => (own_X m.eo q).1) m.eo.xt fun a ha => ?_
    by_cases hA : a = A
    · obtain ⟨n, q⟩ := hl'; exact ⟨_, hA ▸ q⟩
    · obtain ⟨o, q⟩ := m₁.eo.al a ha; exact ⟨o, kx a o hA q⟩
  · refine ⟨_, hl', ?_⟩
    rw [Array.toList_push]
    exact (ru.append (.one (.int k t))).mono fun b o hx q => kx b o (fun z => hx (z ▸ m.XA)) q
end
end Mine
namespace Mine
open PySem PySem.Spec PySem.Calls PyProof.Rows PySem.W
def insAt {α : Type} (l : List α) (k : Nat) (x : α) : List α := l.take k ++ x :: l.drop k
section
variable {c : Cx} {sc : Scope} {ρ ρ' : Str → Option D} {nm : Str} {ds : List D}

theorem insert_vals' {s : Shared} {prog : Program} {w : World} {Ar : Around} {A : Addr} {vs : Array Value} {x : Int} {t : Tok} {u : Value} {Q : Value → Shared → Prop} {E : Value → Shared → Prop} (ha : s.heap.PlainList A vs) (h0 : 0 ≤ x) (hk : x.toNat ≤ vs.size) (hfit : ¬(!Builtin.List.listFitsIndex x) = true) (hz : vs.size ≤ sizeLine)
    (h : ∀ h' vs', h'.PlainList A vs' → vs'.toList = insAt vs.toList x.toNat u → Heap.SameBut A s.heap h' → Q .none { s with heap := h' }) : wpAny (model prog w) Ar (call (.builtin "list.insert") [.ref A, .int x t, u]) Q E s := by
  obtain ⟨n, ha⟩ := ha
  have g1 := @AutoListH.list_insert_list_int_val_1 A vs n x t u hfit
  have g2 := g1 hz
  refine call_meets PySem.F.slot_list_insert ⟨_, ha, rfl⟩ PySem.F.entry_list_insert (PySem.F.args_list_insert_3 _ _ _) g2 ⟨ha, ?_⟩
  have e := Heap.get?_update_self (Obj.mapSeq fun xs => have k' := if x < 0 then (x + ((xs.size : Nat) : Int)).toNat else min x.toNat xs.size; (xs.extract 0 k').push u ++ xs.extract k') ha rfl
  refine h _ _ ⟨_, e⟩ ?_ (Heap.SameBut.update ..)
  have hneg : ¬ x < 0 := by omega
  have hmin : min x.toNat vs.size = x.toNat := by omega
  show ((vs.extract 0 (if x < 0 then (x + ((vs.size : Nat) : Int)).toNat else min x.toNat vs.size)).push u ++ vs.extract (if x < 0 then (x + ((vs.size : Nat) : Int)).toNat else min x.toNat vs.size)).toList = _
  rw [if_neg hneg, hmin]
  unfold insAt
  have e2 : List.take (vs.size - x.toNat) (List.drop x.toNat vs.toList) = List.drop x.toNat vs.toList := List.take_of_length_le (by simp)
  simp [e2]
theorem fits_small {k n : Nat} (h : k ≤ n) (hz : n ≤ 1000) : ¬(!Builtin.List.listFitsIndex (k : Int)) = true := by
  simp [Builtin.List.listFitsIndex]; omega
theorem insert_vals {s : Shared} {prog : Program} {w : World} {Ar : Around} {A : Addr} {vs : Array Value} {k : Nat} {t : Tok} {u : Value} {Q : Value → Shared → Prop} {E : Value → Shared → Prop} (ha : s.heap.PlainList A vs) (hk : k ≤ vs.size) (hz : vs.size ≤ 1000)
    (h : ∀ h' vs', h'.PlainList A vs' → vs'.toList = insAt vs.toList k u → Heap.SameBut A s.heap h' → Q .none { s with heap := h' }) : wpAny (model prog w) Ar (call (.builtin "list.insert") [.ref A, .int (k : Nat) t, u]) Q E s := by
  have hz' : vs.size ≤ sizeLine := szl vs.size hz
  have hf := fits_small hk hz
  generalize hx : (k : Int) = x at hf ⊢
  have hk' : x.toNat = k := by omega
  exact insert_vals' ha (by omega) (by omega) hf hz' (by rw [hk']; exact h)
theorem RdAll.insAt {X : Addr → Prop} {h : Heap} {vs : List Value} {v : Value} {d : D} (r : RdAll X h vs ds) (q : Rd X h v d) (k : Nat) : RdAll X h (Mine.insAt vs k v) (Mine.insAt ds k d) :=
  (r.take k).append (.cons q (r.drop k))

theorem Exm.insert (KG : Known c.G) {lo x : Str} {lp xp np apos cpos pos : Pos} {k : Nat} {d : D} (hlo : ρ lo = some (.int (k : Nat))) (hx : ρ x = some d) (hk : k ≤ ds.length) (hz : ds.length ≤ 1000) (hline : (apos.endLine == cpos.line) = true := by rfl)
    (hbase : ∀ env, attributeBase (.Name nm np) "insert" env (eval (.Name nm np) env) = eval (.Name nm np) env := by intro _; rfl)
    (hfew : ∀ env, ((backTo cpos (starEach [.Name lo lp, .Name x xp] env)).all (fun x => !x.1) && (backToKw cpos (keywordEach [] env)).all (fun x => x.1.isSome) && decide ([Expr.Name lo lp, .Name x xp].length + ([] : List Keyword).length + (if ([] : List Keyword).isEmpty then 0 else 1) < 30)) = true := by intro _; rfl)
    (hsw : ∀ env, swapsWith (.Call (.Attribute (.Name nm np) "insert" apos) [.Name lo lp, .Name x xp] [] cpos) none pos.line env = pure false := by intro _; rfl) :
    Exm c sc nm ρ ds (.Expr (.Call (.Attribute (.Name nm np) "insert" apos) [.Name lo lp, .Name x xp] [] cpos) pos) (.next ρ (insAt ds k d)) := fun X env A s hs hn hG m => by
  refine wpAny_Expr_any ?_ (inter_fn m.eo.kind) (hsw env)
  refine wpAny_Call_method (hbase env) (hfew env) hline PySem.F.plainAttrs_list PySem.F.slot_list_insert PySem.F.type_list_insert (wpAny_Name (load_ok m.eo m.nmv fun v r => ?_) (m.eo.gl _ _ m.nmv))
  cases r
  obtain ⟨vs, ha, rs⟩ := m.at'
  obtain ⟨n, ha'⟩ := id ha
  refine ⟨⟨_, ha', rfl⟩, fun a e => by cases e; exact ⟨_, ha', rfl⟩, ?_⟩
  have e1 : starEach [.Name lo lp, .Name x xp] env = [(false, eval (.Name lo lp) env), (false, eval (.Name x xp) env)] := rfl
  refine callWith_builtin (by rw [e1]; rfl) ?_
  rw [e1]
  refine evalArgs_plain (Calls.spliced_cons (wpAny_Name (load_ok m.eo hlo fun v r => Calls.spliced_cons (wpAny_Name (load_ok m.eo hx fun u ru => Calls.spliced_nil ?_) (m.eo.gl _ _ hx))) (m.eo.gl _ _ hlo)))
  obtain ⟨t, rfl⟩ := r.intInv
  have hsz : vs.size = ds.length := by have := rs.1; simpa using this
  refine insert_vals ha (by omega) (by omega) fun h' vs' hl' hv hs' => ?_
  have kx : ∀ b o, b ≠ A → s.heap.get? b = some o → h'.get? b = some o := fun b o hb q => hs'.extBut b o hb q
  have g : Gw (fun a => a = A) s { s with heap := h' } := .heap (tk := s.toks) (.all (fun b hb z => m.nt (z ▸ hb)) fun b o hb q => kx b o hb q)
  refine ⟨g.wide fun a q => .inr q, rfl, ?_, m.XA, m.nt, m.no, m.nmv, m.lc, vs', hl', ?_⟩
  · refine m.eo.leave g (fun a ha => ha ▸ ⟨m.XA, m.no⟩) (fun _ q => q) (fun a q => (own_X m.eo q).1) m.eo.xt fun a ha => ?_
    by_cases hA : a = A
    · obtain ⟨n, q⟩ := hl'; exact ⟨_, hA ▸ q⟩
    · obtain ⟨o, q⟩ := m.eo.al a ha; exact ⟨o, kx a o hA q⟩
  · rw [hv]
    exact (rs.insAt ru k).mono fun b o hx q => kx b o (fun z => hx (z ▸ m.XA)) q

theorem prD_inj (xs : List (Int × Int)) (k : Nat) (p : Int × Int) : insAt (xs.map prD) k (prD p) = (insAt xs k p).map prD := by
  unfold insAt; simp [List.map_take, List.map_drop]

noncomputable def rIx (xs : List (Int × Int)) (x : Int) : Nat := bis (fun i => decide (x < (xs.getD i (0, 0)).1)) xs.length 0 xs.length
noncomputable def lIx (xs : List (Int × Int)) (x : Int) : Nat := bis (fun i => !decide ((xs.getD i (0, 0)).1 < x)) xs.length 0 xs.length
theorem bis_le (p : Nat → Bool) : ∀ k lo hi, lo ≤ hi → bis p k lo hi ≤ hi
  | 0, lo, hi, h => h
  | k + 1, lo, hi, h => by
    unfold bis
    split
    · split
      · exact Nat.le_trans (bis_le p k lo _ (by omega)) (by omega)
      · exact bis_le p k _ hi (by omega)
    · exact h

theorem call_bisk (W : Wld c) {m : Nat} (hl : LimN (m + 1) c) {fd : FuncData} (K : KeyFn fd) (xs : List (Int × Int)) (x : Int) (hz : xs.length < 1000) :
    CallKOk c "bisect_right" [.list (xs.map prD), .int x, .int 0, .none] "key" (.fn fd) (.int (rIx xs x : Nat)) :=
  ⟨.ref 105, W.br.g, W.br.kp, fun X s vs kv hG xo r rk => by
    obtain ⟨v1, us, rfl, r1, r⟩ := r.consInv
    obtain ⟨v2, us, rfl, r2, r⟩ := r.consInv
    obtain ⟨v3, us, rfl, r3, r⟩ := r.consInv
    obtain ⟨v4, us, rfl, r4, r⟩ := r.consInv
    rw [r.nilInv]
    exact callE W.KG hl W.br.f hG xo (fun fd' h => W.br.key4 s fd' v1 v2 v3 v4 kv hG h) (ds := [_, _, _, _, _]) (.cons r1 (.cons r2 (.cons r3 (.cons r4 (.one rk))))) (by decide) (locs_of rfl) (fun env => bis_k (W.dp env) (hl.dp env) K xs x hz) rfl rfl rfl⟩
theorem call_bislk (W : Wld c) {m : Nat} (hl : LimN (m + 1) c) {fd : FuncData} (K : KeyFn fd) (xs : List (Int × Int)) (x : Int) (hz : xs.length < 1000) :
    CallKOk c "bisect_left" [.list (xs.map prD), .int x, .int 0, .none] "key" (.fn fd) (.int (lIx xs x : Nat)) :=
  ⟨.ref 123, W.bl.g, W.bl.kp, fun X s vs kv hG xo r rk => by
    obtain ⟨v1, us, rfl, r1, r⟩ := r.consInv
    obtain ⟨v2, us, rfl, r2, r⟩ := r.consInv
    obtain ⟨v3, us, rfl, r3, r⟩ := r.consInv
    obtain ⟨v4, us, rfl, r4, r⟩ := r.consInv
    rw [r.nilInv]
    exact callE W.KG hl W.bl.f hG xo (fun fd' h => W.bl.key4 s fd' v1 v2 v3 v4 kv hG h) (ds := [_, _, _, _, _]) (.cons r1 (.cons r2 (.cons r3 (.cons r4 (.one rk))))) (by decide) (locs_of rfl) (fun env => bisL_k (W.dp env) (hl.dp env) K xs x hz) rfl rfl rfl⟩
theorem call_bis2 (W : Wld c) {m : Nat} (hl : LimN (m + 1) c) (xs : List Int) (x : Int) (hz : xs.length < 1000) :
    CallOk c "bisect_right" [.list (xs.map .int), .int x] (.int (bis (fun i => decide (x < xs.getD i 0)) xs.length 0 xs.length : Nat)) :=
  ⟨.ref 105, W.br.g, .k _ W.br.kp, fun X s vs hG xo r => by
    obtain ⟨v1, us, rfl, r1, r⟩ := r.consInv
    obtain ⟨v2, us, rfl, r2, r⟩ := r.consInv
    rw [r.nilInv]
    obtain ⟨t, hb⟩ := W.br.two
    exact callE W.KG hl W.br.f hG xo (fun fd' h => hb s fd' v1 v2 hG h) (ds := [_, _, _, _, _]) (.cons r1 (.cons r2 (.cons (.int 0 t) (.cons .none (.one .none))))) (by decide) (locs_of rfl) (fun env => bis_i (W.dp env) (hl.dp env) xs x t hz) rfl rfl rfl⟩
theorem call_bisl2 (W : Wld c) {m : Nat} (hl : LimN (m + 1) c) (xs : List Int) (x : Int) (hz : xs.length < 1000) :
    CallOk c "bisect_left" [.list (xs.map .int), .int x] (.int (bis (fun i => !decide (xs.getD i 0 < x)) xs.length 0 xs.length : Nat)) :=
  ⟨.ref 123, W.bl.g, .k _ W.bl.kp, fun X s vs hG xo r => by
    obtain ⟨v1, us, rfl, r1, r⟩ := r.consInv
    obtain ⟨v2, us, rfl, r2, r⟩ := r.consInv
    rw [r.nilInv]
    obtain ⟨t, hb⟩ := W.bl.two
    exact callE W.KG hl W.bl.f hG xo (fun fd' h => hb s fd' v1 v2 hG h) (ds := [_, _, _, _, _]) (.cons r1 (.cons r2 (.cons (.int 0 t) (.cons .none (.one .none))))) (by decide) (locs_of rfl) (fun env => bisL_i (W.dp env) (hl.dp env) xs x hz) rfl rfl rfl⟩

theorem body_ir (W : Wld c) {m : Nat} (hl : LimN (m + 1) c) {fd : FuncData} (K : KeyFn fd) (xs : List (Int × Int)) (p : Int × Int) (hz : xs.length < 1000) (A : Addr) :
    Exms c (scopeOf (stAt 4)) "a" (updAll (fun _ => none) ["a", "x", "lo", "hi", "key"] [.val (.ref A), prD p, .int 0, .none, .fn fd]) (xs.map prD) (bodyOf (stAt 4)) (.next (upd (updAll (fun _ => none) ["a", "x", "lo", "hi", "key"] [.val (.ref A), prD p, .int 0, .none, .fn fd]) "lo" (.int (rIx xs p.1 : Nat))) ((insAt xs (rIx xs p.1) p).map prD)) := by
  have KG := W.KG
  refine Exms.cons KG (Exm.iff KG (EvT.cmp KG (.name rfl) .noneC isNone_fn) (fun h => absurd h (by decide)) (fun _ => Exms.cons KG (Exm.asgI KG (Ev.callFK KG W.KI rfl (call_bisk W hl K xs p.1 hz) (.cons KG (.name rfl) (.cons KG (Ev.callV KG rfl (.cons KG (.name rfl) .nil) (d := .int p.1) ?_) (.cons KG (.name rfl) (.cons KG (.name rfl) .nil)))) (.name rfl)) (ok1 rfl) (by decide)) .nil)) ?_
  · intro X s v vs hG xo r rs
    obtain ⟨u, us, rfl, r1, r2⟩ := rs.consInv
    rw [r2.nilInv]
    exact K c _ W hl _ _ X s v u hG xo r r1
  · rw [← prD_inj]
    exact Exms.cons KG (Exm.insert KG rfl rfl (by rw [List.length_map]; exact bis_le _ _ _ _ (Nat.zero_le _)) (by rw [List.length_map]; omega)) .nil
theorem body_il (W : Wld c) {m : Nat} (hl : LimN (m + 1) c) {fd : FuncData} (K : KeyFn fd) (xs : List (Int × Int)) (p : Int × Int) (hz : xs.length < 1000) (A : Addr) :
    Exms c (scopeOf (stAt 6)) "a" (updAll (fun _ => none) ["a", "x", "lo", "hi", "key"] [.val (.ref A), prD p, .int 0, .none, .fn fd]) (xs.map prD) (bodyOf (stAt 6)) (.next (upd (updAll (fun _ => none) ["a", "x", "lo", "hi", "key"] [.val (.ref A), prD p, .int 0, .none, .fn fd]) "lo" (.int (lIx xs p.1 : Nat))) ((insAt xs (lIx xs p.1) p).map prD)) := by
  have KG := W.KG
  refine Exms.cons KG (Exm.iff KG (EvT.cmp KG (.name rfl) .noneC isNone_fn) (fun h => absurd h (by decide)) (fun _ => Exms.cons KG (Exm.asgI KG (Ev.callFK KG W.KI rfl (call_bislk W hl K xs p.1 hz) (.cons KG (.name rfl) (.cons KG (Ev.callV KG rfl (.cons KG (.name rfl) .nil) (d := .int p.1) ?_) (.cons KG (.name rfl) (.cons KG (.name rfl) .nil)))) (.name rfl)) (ok1 rfl) (by decide)) .nil)) ?_
  · intro X s v vs hG xo r rs
    obtain ⟨u, us, rfl, r1, r2⟩ := rs.consInv
    rw [r2.nilInv]
    exact K c _ W hl _ _ X s v u hG xo r r1
  · rw [← prD_inj]
    exact Exms.cons KG (Exm.insert KG rfl rfl (by rw [List.length_map]; exact bis_le _ _ _ _ (Nat.zero_le _)) (by rw [List.length_map]; omega)) .nil
end
end Mine
namespace Mine
open PySem PySem.Spec PySem.Calls PyProof.Rows PySem.W

/-- all stands but X and the table P -/
structure Gp (P : Addr) (X : Addr → Prop) (s s' : Shared) : Prop where
  keep : ∀ b o, ¬ X b → b ≠ P → s.heap.get? b = some o → s'.heap.get? b = some o
  os : s'.os = s.os
  bare : AllBare s.gens → AllBare s'.gens
theorem Gp.refl {P : Addr} {X : Addr → Prop} (s : Shared) : Gp P X s s := ⟨fun _ _ _ _ e => e, rfl, fun x => x⟩
theorem Gp.trans {P : Addr} {X : Addr → Prop} {s₁ s₂ s₃ : Shared} (a : Gp P X s₁ s₂) (b : Gp P X s₂ s₃) : Gp P X s₁ s₃ := ⟨fun c o h1 h2 e => b.keep c o h1 h2 (a.keep c o h1 h2 e), b.os.trans a.os, fun x => b.bare (a.bare x)⟩
theorem Gp.wide {P : Addr} {X X' : Addr → Prop} {s s' : Shared} (k : ∀ a, X a → X' a) (a : Gp P X s s') : Gp P X' s s' := ⟨fun b o h1 h2 e => a.keep b o (fun z => h1 (k b z)) h2 e, a.os, a.bare⟩
theorem Gp.narrow {P : Addr} {X X' : Addr → Prop} {s s' : Shared} (k : ∀ a, X a → X' a ∨ s.heap.get? a = none) (a : Gp P X s s') : Gp P X' s s' :=
  ⟨fun b o h1 h2 e => a.keep b o (fun z => by rcases k b z with q | q; exact h1 q; rw [e] at q; cases q) h2 e, a.os, a.bare⟩
theorem Gp.of {G : Heap → Prop} (KG : Known G) {P : Addr} {X : Addr → Prop} {s s' : Shared} (hG : G s.heap) (g : Gw X s s') : Gp P X s s' :=
  ⟨fun b o h1 h2 e => by
    by_cases ht : tb b
    · obtain ⟨ps, hp⟩ := KG.table _ hG b ht
      rw [hp] at e; cases e
      exact g.kp.tabs b ps ht hp
    · exact g.kp.keep b o h1 ht e, g.os, g.bare.1⟩
theorem Gp.none {P : Addr} {X : Addr → Prop} {s s' : Shared} (a : Gp P noX s s') : Gp P X s s' := a.wide fun _ q => q.elim

section
variable {c : Cx} {sc : Scope} {ρ ρ' : Str → Option D}
theorem Rd.gp {P : Addr} {X : Addr → Prop} {s s' : Shared} {v : Value} {d : D} (hP : tb P) (xt : XT X) (g : Gp P X s s') (r : Rd X s.heap v d) : Rd X s'.heap v d :=
  r.mono fun b o hx e => g.keep b o hx (fun z => hx (xt.tbs b (z ▸ hP))) e
theorem RdAll.gp {P : Addr} {X : Addr → Prop} {s s' : Shared} {v : List Value} {d : List D} (hP : tb P) (xt : XT X) (g : Gp P X s s') (r : RdAll X s.heap v d) : RdAll X s'.heap v d :=
  r.mono fun b o hx e => g.keep b o hx (fun z => hx (xt.tbs b (z ▸ hP))) e
/-- the frame, when the table alone turned -/
theorem EnvOk.tab {P : Addr} {X : Addr → Prop} {env : Env} {s s' : Shared} (hP : tb P) (e : EnvOk X env s.heap ρ) (g : Gp P noX s s') (hp : ∃ o, s'.heap.get? P = some o) : EnvOk X env s'.heap ρ := by
  have k : ∀ b o, ¬ tb b → s.heap.get? b = some o → s'.heap.get? b = some o := fun b o ht q => g.keep b o (fun z => z) (fun z => ht (z ▸ hP)) q
  have kr : ∀ v d, Rd X s.heap v d → Rd X s'.heap v d := fun v d r => r.gp hP e.xt g.none
  obtain ⟨m, hn, hm⟩ := e.loc
  refine ⟨e.kind, e.glob, e.blt, e.xt, fun a ha => ?_, e.ntb, e.locX, ⟨m, hn.at' fun o q => k _ o e.ntb q, fun x d hx hk => ?_⟩, fun x d hx hk => ?_, fun p hp => ?_, e.apart, e.gl, e.hasC⟩
  · by_cases ha' : a = P
    · exact ha' ▸ hp
    · obtain ⟨o, q⟩ := e.al a ha
      exact ⟨o, g.keep a o (fun z => z) ha' q⟩
  · obtain ⟨v, hv, r⟩ := hm x d hx hk
    exact ⟨v, hv, kr _ _ r⟩
  · obtain ⟨h1, c, v, h2, ⟨o, h3, h4⟩, r⟩ := e.cel x d hx hk
    exact ⟨h1, c, v, h2, ⟨o, k _ _ (e.cells _ (mem_of_lookup h2)).2.2.1 h3, h4⟩, kr _ _ r⟩
  · obtain ⟨h1, h2, h3, v, o, h4, h5⟩ := e.cells p hp
    exact ⟨h1, h2, h3, v, o, k _ _ h3 h4, h5⟩
theorem Mu.tab {P : Addr} {X : Addr → Prop} {env : Env} {s s' : Shared} {A : Addr} {nm : Str} {ds : List D} (hP : tb P) (m : Mu X env s.heap ρ A nm ds) (g : Gp P noX s s') (hp : ∃ o, s'.heap.get? P = some o) : Mu X env s'.heap ρ A nm ds := by
  refine ⟨m.eo.tab hP g hp, m.XA, m.nt, m.no, m.nmv, m.lc, ?_⟩
  obtain ⟨vs, a, r⟩ := m.at'
  exact ⟨vs, a.at fun o q => g.keep _ o (fun z => z) (fun z => m.nt (z ▸ hP)) q, r.gp hP m.eo.xt g.none⟩

/-- the table of a code that has made a lambda at this place, or not yet -/
def TabSt (X : Addr → Prop) (h : Heap) (P : Addr) (pos : Pos) (q : Str) (made : Bool) : Prop :=
  ∃ ps, h.get? P = some (tabO ps) ∧ TriplesOk ps.toList ∧ (match made with
    | false => codeAmong pos ps.toList = none
    | true => ∃ k, codeAmong pos ps.toList = some (.ref k) ∧ h.CodeRec (.ref k) q ∧ ¬ X k)
theorem codeAmong_other {pos pos' : Pos} {x : Value} : ∀ (l : List Value), TriplesOk l → codeAmong pos' l = none → ((pos.line : Int) == pos'.line && (pos.col : Int) == pos'.col) = false → codeAmong pos' (l ++ [rawInt pos.line, rawInt pos.col, x]) = none := fun l h hn hne => by
  fun_induction TriplesOk l with
  | case1 => simp only [List.nil_append, codeAmong, rawInt]; rw [hne]; rfl
  | case2 a t b u x rest ih =>
    simp only [List.cons_append, codeAmong] at hn ⊢
    split at hn
    · cases hn
    · rename_i hc; rw [if_neg hc]; exact ih h hn
  | case3 l h1 h2 => exact h.elim

theorem lam_new (W : Wld c) (TF : TabFree c.G) {P cd : Addr} (hP : tb P) {X : Addr → Prop} {env : Env} {s : Shared} {params : Arguments} {body : Expr} {scope : Scope} {pos : Pos} {made : Bool} {Q : Value → Shared → Prop} {E : Value → Shared → Prop} (hG : c.G s.heap) (eo : EnvOk X env s.heap ρ) (hc : env.code = .ref cd) (hd : CodeHd s.heap cd P)
    (hdef : defaultsOf params env = ([], [])) (hfree : ∀ x ∈ scope.names, x.2 ≠ .free) (T : TabSt X s.heap P pos (env.qual ++ "<lambda>") made)
    (h : ∀ v s' pm k ct, Gp P noX s s' → c.G s'.heap → TabSt X s'.heap P pos (env.qual ++ "<lambda>") true → (∀ pos', TabSt X s.heap P pos' (env.qual ++ "<lambda>") false → ((pos.line : Int) == pos'.line && (pos.col : Int) == pos'.col) = false → TabSt X s'.heap P pos' (env.qual ++ "<lambda>") false) → Rd X s'.heap v (.fn (kla_fn "<lambda>" (env.qual ++ "<lambda>") params body scope [] pm (.ref k) ct)) → Q v s') :
    wpAny (model c.prog c.w) c.A (eval (.Lambda params body scope pos) env) Q E s := by
  obtain ⟨mg, hmg, hbm⟩ := W.mg _ hG
  obtain ⟨ps, hps, htr, hst⟩ := T
  have hPl : mainGlobals ≠ P := by rcases hP with rfl | rfl <;> decide
  have xo := eo.xok
  refine kla_eval hdef ?_
  cases made with
  | false =>
    refine kla_makeFunction (closureFor_none hfree) eo.glob hmg hc hd hps htr hst hPl (hbm P hP) fun c' ctv h' tk hx hge hlt hrec htab => ?_
    have nX : ∀ a, @LE.le Nat _ s.heap.objs.size a → ¬ X a := fun a ha z => by
      obtain ⟨o, ho⟩ := xo.al a z
      exact absurd (Heap.lt_size ho) (Nat.not_lt.mpr ha)
    have kpush : ∀ (o' : Obj) b o, h'.get? b = some o → (h'.push o').get? b = some o := fun o' b o q => Heap.get?_push_of_some _ q
    have hsz : @LE.le Nat _ s.heap.objs.size h'.objs.size := Nat.le_of_lt (Nat.lt_of_le_of_lt hge hlt)
    have g : Gp P noX s { s with heap := h'.push (kla_obj "<lambda>" (env.qual ++ "<lambda>") params body scope [] ((mg "__name__").getD .none) c' ctv), toks := tk } := ⟨fun b o _ hb q => kpush _ _ _ (hx b o hb q), rfl, fun x => x⟩
    have htab' := kpush (kla_obj "<lambda>" (env.qual ++ "<lambda>") params body scope [] ((mg "__name__").getD .none) c' ctv) _ _ htab
    have hl : (ps ++ #[rawInt pos.line, rawInt pos.col, .ref c']).toList = ps.toList ++ [rawInt pos.line, rawInt pos.col, .ref c'] := by simp
    refine h _ _ ((mg "__name__").getD .none) c' ctv g (TF _ _ P _ hG hP (fun b o hb q => g.keep b o (fun z => z) hb q) htab') ⟨_, htab', ?_, c', ?_, hrec.keeps (kpush _), nX c' hge⟩ ?_ ?_
    · rw [hl]; exact TriplesOk_snoc _ _ _ _ htr
    · rw [hl]; exact codeAmong_snoc _ htr hst
    · intro pos' hn hne
      obtain ⟨ps', q1, q2, q3⟩ := hn
      rw [hps] at q1; cases q1
      refine ⟨_, htab', ?_, ?_⟩
      · rw [hl]; exact TriplesOk_snoc _ _ _ _ htr
      · show codeAmong pos' _ = none
        rw [hl]; exact codeAmong_other _ htr q3 hne
    · obtain ⟨k, oc, vs, t, e1, e2, e3, e4⟩ := hrec
      cases e1
      exact .fn (nX _ hsz) (Heap.get?_push_size _ rfl) rfl rfl (nX _ hge) (kpush _ _ _ e2) e3 e4 rfl
  | true =>
    obtain ⟨k, hk, hrec, hXk⟩ := hst
    refine kla_makeFunctionHit (closureFor_none hfree) eo.glob hmg hc hd hps htr hk (hbm P hP) fun ctv h' tk hx hsz => ?_
    have nX : ∀ a, @LE.le Nat _ s.heap.objs.size a → ¬ X a := fun a ha z => by
      obtain ⟨o, ho⟩ := xo.al a z
      exact absurd (Heap.lt_size ho) (Nat.not_lt.mpr ha)
    have kall : ∀ (o' : Obj) b o, s.heap.get? b = some o → (h'.push o').get? b = some o := fun o' b o q => Heap.get?_push_of_some _ (hx b o q)
    refine h _ _ ((mg "__name__").getD .none) k ctv ⟨fun b o _ hb q => kall _ _ _ q, rfl, fun x => x⟩ (W.KG.keeps _ _ hG (.every (kall _))) ⟨ps, kall _ _ _ hps, htr, k, hk, hrec.keeps (kall _), hXk⟩ (fun pos' hn _ => ?_) ?_
    · obtain ⟨ps', q1, q2, q3⟩ := hn
      exact ⟨ps', kall _ _ _ q1, q2, q3⟩
    obtain ⟨k', oc, vs, t, e1, e2, e3, e4⟩ := hrec
    cases e1
    exact .fn (nX _ hsz) (Heap.get?_push_size _ rfl) rfl rfl hXk (kall _ _ _ e2) e3 e4 rfl
end
end Mine
namespace Mine
open PySem PySem.Spec PySem.Calls PyProof.Rows PySem.W
section
variable {c : Cx} {sc : Scope} {ρ ρ' : Str → Option D}

theorem call_insort (W : Wld c) {n : Nat} (hl : LimN (n + 1) c) {nm : Str} {a : Addr} {k : Nat} {dV kV cdv : Value} (B : Bis c nm a k dV kV cdv) {fd : FuncData} (xs ys : List (Int × Int)) (p : Int × Int) {ρe : Addr → Str → Option D}
    (hbody : ∀ (c' : Cx) (A : Addr), Wld c' → LimN n c' → Exms c' (scopeOf (stAt k)) "a" (updAll (fun _ => none) ["a", "x", "lo", "hi", "key"] [.val (.ref A), prD p, .int 0, .none, .fn fd]) (xs.map prD) (bodyOf (stAt k)) (.next (ρe A) (ys.map prD)))
    {X : Addr → Prop} {s : Shared} {A : Addr} {u kf : Value} {vs : Array Value} (hG : c.G s.heap) (xo : Xok X s.heap) (hA : X A) (hAt : ¬ tb A) (ha : s.heap.PlainList A vs) (ra : RdAll X s.heap vs.toList (xs.map prD)) (ru : Rd X s.heap u (prD p)) (rk : Rd X s.heap kf (.fn fd))
    (hcell : ∀ x ∈ (scopeOf (stAt k)).names, x.2 ≠ .cell) (hloc : ((["a", "x", "lo", "hi", "key"] : List Str).all fun x => ((scopeOf (stAt k)).names.lookup x == some .local) && ((x == ("__debug__" : Str)) == false)) = true)
    (hco : (scopeOf (stAt k)).isCoroutine = false) (hgen : (scopeOf (stAt k)).isGenerator = false) (hk : (scopeOf (stAt k)).kind = .function) :
    wpAny (model c.prog c.w) c.A (call (.ref a) [.ref A, u] [("key", kf)]) (fun v s' => v = .none ∧ Gw (fun b => b = A) s s' ∧ ∃ vs', s'.heap.PlainList A vs' ∧ RdAll X s'.heap vs'.toList (ys.map prD)) noE s := by
  obtain ⟨t, hb⟩ := B.key2
  refine enter W.KG B.f hl.room hG xo (fun fd' h => hb s fd' (.ref A) u kf hG h) (ds := [.val (.ref A), prD p, .int 0, .none, .fn fd]) (.cons (.val _) (.cons ru (.cons (.int 0 t) (.cons .none (.one rk))))) hcell (locs_of hloc) (fun env s₁ hs hcs _ g eo hL hXL hG₁ _ => ?_) hco hgen hk
  obtain ⟨na, ha'⟩ := id ha
  have hAL : A ≠ env.locals := fun z => by rw [z, hL] at ha'; cases ha'
  have m : Mu (callX X env.locals) env s₁.heap (updAll (fun _ => none) ["a", "x", "lo", "hi", "key"] [.val (.ref A), prD p, .int 0, .none, .fn fd]) A "a" (xs.map prD) := by
    refine ⟨eo, .inl hA, hAt, fun z => ?_, rfl, ?_, vs, ha.at fun o q => g.kp.keep _ o (fun z => z) hAt q, ?_⟩
    · rcases z with z | ⟨q, hq, _⟩
      · exact hAL z
      · rw [hcs] at hq; cases hq
    · unfold Env.kindOf
      rw [hs]
      have := (locs_of (bs := [("a", .none)]) (sc := scopeOf (stAt k)) (by rw [List.all_cons, Bool.and_eq_true] at hloc; show ((["a"] : List Str).all _) = true; rw [List.all_cons, hloc.1]; rfl) ("a", .none) (.head _)).1
      exact this
    · have more : ∀ b, callX X env.locals b → X b ∨ s.heap.get? b = none := fun b hb => hb.imp id fun (q : b = env.locals) => by rw [q]; exact hL
      exact (ra.more more).mono fun b o hx q => g.kp.keep b o (fun z => z) (fun z => hx (eo.xt.tbs b z)) q
  refine wp_up (hbody (c.dp env) A (W.dp env) (hl.dp env) _ env A s₁ hs (fun x c' hc' => by rw [hcs] at hc'; cases hc') hG₁ m) fun f s₂ h₂ => ?_
  obtain ⟨g₂, rfl, m₂⟩ := h₂
  refine ⟨rfl, (g.none.trans g₂).narrow fun b hb => ?_, ?_⟩
  · rcases hb with (rfl | ⟨q, hq, _⟩) | q
    · exact .inr hL
    · rw [hcs] at hq; cases hq
    · exact .inl q
  · obtain ⟨vs', h1, h2⟩ := m₂.at'
    exact ⟨vs', h1, h2.less fun b hb => .inl hb⟩

/-- a lambda that tells the first of a pair -/
def IsKey (params : Arguments) (body : Expr) (scope : Scope) : Prop := ∀ (q : Str) (pm cdv ct : Value), KeyFn (kla_fn "<lambda>" q params body scope [] pm cdv ct)

/-- what a turn's call needs of its insort -/
structure InsOk (c : Cx) (a : Addr) (fd : FuncData) (xs ys : List (Int × Int)) (p : Int × Int) : Prop where
  go : ∀ (X : Addr → Prop) (s : Shared) (A : Addr) (u kf : Value) (vs : Array Value), c.G s.heap → Xok X s.heap → X A → ¬ tb A → s.heap.PlainList A vs → RdAll X s.heap vs.toList (xs.map prD) → Rd X s.heap u (prD p) → Rd X s.heap kf (.fn fd) →
    wpAny (model c.prog c.w) c.A (call (.ref a) [.ref A, u] [("key", kf)]) (fun v s' => v = .none ∧ Gw (fun b => b = A) s s' ∧ ∃ vs', s'.heap.PlainList A vs' ∧ RdAll X s'.heap vs'.toList (ys.map prD)) noE s
theorem ins_r (W : Wld c) {n : Nat} (hl : LimN (n + 2) c) {fd : FuncData} (K : KeyFn fd) (xs : List (Int × Int)) (p : Int × Int) (hz : xs.length < 1000) : InsOk c 96 fd xs (insAt xs (rIx xs p.1) p) p :=
  ⟨fun X s A u kf vs hG xo hA hAt ha ra ru rk => call_insort W hl W.ir xs _ p (ρe := fun A => _) (fun c' A W' hl' => body_ir W' hl' K xs p hz A) hG xo hA hAt ha ra ru rk (by decide) rfl rfl rfl rfl⟩
theorem ins_l (W : Wld c) {n : Nat} (hl : LimN (n + 2) c) {fd : FuncData} (K : KeyFn fd) (xs : List (Int × Int)) (p : Int × Int) (hz : xs.length < 1000) : InsOk c 114 fd xs (insAt xs (lIx xs p.1) p) p :=
  ⟨fun X s A u kf vs hG xo hA hAt ha ra ru rk => call_insort W hl W.il xs _ p (ρe := fun A => _) (fun c' A W' hl' => body_il W' hl' K xs p hz A) hG xo hA hAt ha ra ru rk (by decide) rfl rfl rfl rfl⟩

/-- the call within _law_row -/
theorem turn_call (W : Wld c) (TF : TabFree c.G) {f : Str} {a : Addr} (g : GlobIs c f (.ref a)) (kk : keepIn c.K (.ref a) = true) {np rp pp kpos cpos pos lpos : Pos} {params : Arguments} {body : Expr} {scope : Scope} {xs ys : List (Int × Int)} {p : Int × Int}
    {X : Addr → Prop} {env : Env} {s : Shared} {A : Addr} {made : Bool} (hG : c.G s.heap) (m : Mu X env s.heap ρ A "row" (xs.map prD)) (hp : ρ "pair" = some (prD p)) (hc : env.code = .ref 157) (hf : env.kindOf f = some .globalImplicit) (hfd : (f == ("__debug__" : Str)) = false)
    (hdef : defaultsOf params env = ([], [])) (hfree : ∀ x ∈ scope.names, x.2 ≠ .free) (T : TabSt X s.heap 153 lpos (env.qual ++ "<lambda>") made) (Kk : ∀ fd, KeyFn fd → InsOk c a fd xs ys p) (hK : IsKey params body scope)
    {Q : Flow → Shared → Prop} {E : Value → Shared → Prop}
    (h : ∀ s', Gp 153 (fun b => b = A) s s' → c.G s'.heap → Mu X env s'.heap ρ A "row" (ys.map prD) → TabSt X s'.heap 153 lpos (env.qual ++ "<lambda>") true → (∀ pos', TabSt X s.heap 153 pos' (env.qual ++ "<lambda>") false → ((lpos.line : Int) == pos'.line && (lpos.col : Int) == pos'.col) = false → TabSt X s'.heap 153 pos' (env.qual ++ "<lambda>") false) → Q .next s')
    (hsw : ∀ env, swapsWith (.Call (.Name f np) [.Name "row" rp, .Name "pair" pp] [{ arg := some "key", value := .Lambda params body scope lpos, pos := kpos }] cpos) none pos.line env = pure false := by intro _; rfl) :
    wpAny (model c.prog c.w) c.A (exec (.Expr (.Call (.Name f np) [.Name "row" rp, .Name "pair" pp] [{ arg := some "key", value := .Lambda params body scope lpos, pos := kpos }] cpos) pos) env) Q E s := by
  refine wpAny_Expr_any ?_ (inter_fn m.eo.kind) (hsw env)
  refine wpAny_Call_ofName (g.load hG m.eo.kind m.eo.glob m.eo.blt hf hfd ?_)
  have e1 : starEach [.Name "row" rp, .Name "pair" pp] env = [(false, eval (.Name "row" rp) env), (false, eval (.Name "pair" pp) env)] := rfl
  have e2 : backToKw cpos (keywordEach [{ arg := some "key", value := .Lambda params body scope lpos, pos := kpos }] env) = [(some ("key" : Str), do let v ← eval (.Lambda params body scope lpos) env; standAt cpos; pure v)] := rfl
  refine callWith_KW (W.KI _ hG) kk (by rw [e2]; rfl) ?_
  rw [e1]
  refine Calls.spliced_cons (wpAny_Name (load_ok m.eo m.nmv fun v r => Calls.spliced_cons (wpAny_Name (load_ok m.eo hp fun u ru => Calls.spliced_nil ?_) (m.eo.gl _ _ hp))) (m.eo.gl _ _ m.nmv))
  cases r
  rw [e2]
  refine wpAny_evalAll_cons (wpAny_bind (lam_new W TF (.inl rfl) hG m.eo hc (W.hdR _ hG) hdef hfree T fun kf s₁ pm k ct g₁ hG₁ T₁ T₂ rk => wpAny_bind (wpAny_standAt (wpAny_pure (wpAny_evalAll_nil ?_)))))
  refine ⟨W.KI _ hG₁, ?_⟩
  have hp1 : ∃ o, s₁.heap.get? 153 = some o := by obtain ⟨ps, q, _⟩ := T₁; exact ⟨_, q⟩
  have m₁ := m.tab (.inl rfl) g₁ hp1
  obtain ⟨vs, ha, ra⟩ := m₁.at'
  show wpAny _ _ (call (.ref a) ([] ++ [.ref A, u]) [(("key" : Str), kf)]) _ _ _
  rw [List.nil_append]
  refine wp_up ((Kk _ (hK _ _ _ _)).go X s₁ A u kf vs hG₁ m₁.eo.xok m₁.XA m₁.nt ha ra (ru.gp (.inl rfl) m.eo.xt g₁.none) rk) fun v s₂ h₂ => ?_
  obtain ⟨rfl, g₂, vs', ha', ra'⟩ := h₂
  have hG₂ : c.G s₂.heap := W.KG.apart _ _ _ (fun b (hb : b = A) => m.eo.xt.hi b (hb ▸ m.XA)) hG₁ g₂.kp
  have tk : ∀ ps, s₁.heap.get? 153 = some (tabO ps) → s₂.heap.get? 153 = some (tabO ps) := fun ps q => g₂.kp.tabs _ _ (.inl rfl) q
  refine h s₂ ((g₁.none).trans (Gp.of W.KG hG₁ g₂)) hG₂ ⟨?_, m.XA, m.nt, m.no, m.nmv, m.lc, vs', ha', ra'⟩ ?_ ?_
  · refine m₁.eo.leave g₂ (fun b hb => hb ▸ ⟨m.XA, m.no⟩) (fun _ q => q) (fun b q => (own_X m.eo q).1) m.eo.xt fun b hb => ?_
    by_cases hA : b = A
    · obtain ⟨n, q⟩ := ha'; exact ⟨_, hA ▸ q⟩
    · by_cases ht : tb b
      · obtain ⟨ps, q⟩ := W.KG.table _ hG₂ b ht; exact ⟨_, q⟩
      · obtain ⟨o, q⟩ := m₁.eo.al b hb; exact ⟨o, g₂.kp.keep b o hA ht q⟩
  · obtain ⟨ps, q1, q2, k', q3, ⟨kc, oc, ws, t, z1, z2, z3⟩, q5⟩ := T₁
    cases z1
    refine ⟨ps, tk ps q1, q2, _, q3, ⟨_, oc, ws, t, rfl, ?_, z3⟩, q5⟩
    exact g₂.kp.keep _ oc (fun z => q5 (z ▸ m.XA)) (fun z => q5 (m.eo.xt.tbs _ z)) z2
  · intro pos' hn hne
    obtain ⟨ps, q1, q2, q3⟩ := T₂ pos' hn hne
    exact ⟨ps, tk ps q1, q2, q3⟩
end
end Mine
namespace Mine
open PySem PySem.Spec PySem.Calls PyProof.Rows PySem.W
section
variable {c : Cx} {sc : Scope} {ρ ρ' : Str → Option D}

/-- a new list, held by a name, that the frame means to turn -/
theorem new_list (KG : Known c.G) {X : Addr → Prop} {env : Env} {s : Shared} {nm : Str} {np lp pos : Pos} {es : List Expr} {ns : List Int} {Q : Flow → Shared → Prop} {E : Value → Shared → Prop} (hG : c.G s.heap) (eo : EnvOk X env s.heap ρ) (hs : env.scope = sc) (hnm : sc.names.lookup nm = some .local) (hnd : (nm == ("__debug__" : Str)) = false)
    (hes : Evs c sc ρ es (ns.map .int)) (hz : ns.length ≤ 1000)
    (h : ∀ A s', s.heap.get? A = none → ¬ X A → low ≤ A → Gw (Own env) s s' → c.G s'.heap → Mu (fun a => X a ∨ a = A) env s'.heap (upd ρ nm (.val (.ref A))) A nm (ns.map .int) → Q .next s')
    (hsw : ∀ env, swapsWith (.List es lp) (some (.Name nm np)) pos.line env = pure false := by intro _; rfl) :
    wpAny (model c.prog c.w) c.A (exec (.Assign [.Name nm np] (.List es lp) pos) env) Q E s := by
  refine wpAny_Assign_Name (wpAny_List (wp_up (hes X env _ s hs hG eo) fun vs s₁ h₁ => ?_)) (hsw env)
  obtain ⟨g₁, r₁⟩ := h₁
  refine ⟨by rw [r₁.1, List.length_map]; exact szl _ hz, ?_⟩
  have hG₁ := KG.keeps _ _ hG g₁.kp
  have big : @LE.le Nat _ low s₁.heap.objs.size := KG.big _ hG₁
  have n₁ : s₁.heap.get? s₁.heap.objs.size = none := size_none _ (Nat.le_refl _)
  have n₀ := was_none (X := X) KG hG g₁ n₁
  have nt := fresh_ntb KG hG₁ n₁
  have eo₁ := eo.gw KG g₁ hG
  have nX : ¬ X s₁.heap.objs.size := eo₁.xok.fresh
  have kp : ∀ b o, s₁.heap.get? b = some o → (s₁.heap.push { cls := .type "list", data := .seq vs.toArray }).get? b = some o := fun b o q => Heap.get?_push_of_some _ q
  have eo₂ : EnvOk (fun a => X a ∨ a = s₁.heap.objs.size) env (s₁.heap.push { cls := .type "list", data := .seq vs.toArray }) ρ := by
    refine eo₁.grow ⟨fun b hb => .inl (eo.xt.tbs b hb), fun a ha => ha.elim (eo.xt.hi a) fun (z : a = s₁.heap.objs.size) => .inr (by rw [z]; exact big)⟩ (fun b o _ q => kp b o q) (fun a q => .inl q) (fun a ha => ?_) fun a ha => ha.imp id fun (z : a = s₁.heap.objs.size) => by rw [z]; exact n₁
    rcases ha with q | q
    · obtain ⟨o, ho⟩ := eo₁.al a q; exact ⟨o, kp _ _ ho⟩
    · have q' : a = s₁.heap.objs.size := q
      exact ⟨_, q' ▸ Heap.get?_push_size _ rfl⟩
  have hlc : env.kindOf nm = some .local := by unfold Env.kindOf; rw [hs]; exact hnm
  have no : ¬ Own env s₁.heap.objs.size := fun z => nX (own_X eo z).1
  refine store_ok (s := { s₁ with heap := s₁.heap.push { cls := .type "list", data := .seq vs.toArray } }) eo₂ (.val (.ref s₁.heap.objs.size)) (.inl hlc) hnd fun s' e' g => ?_
  have g' : Gw (Own env) { s₁ with heap := s₁.heap.push { cls := .type "list", data := .seq vs.toArray } } s' := g.wide fun a ha => by
    rcases ha with rfl | ⟨c, q, rfl⟩
    · exact .inl rfl
    · exact .inr ⟨_, mem_of_lookup q, rfl⟩
  have gg : Gw (Own env) s s' := (g₁.none.trans .push).trans g'
  refine h s₁.heap.objs.size s' n₀ nX big gg (apart_own KG eo hG gg) ⟨e', .inr rfl, nt, no, by simp [upd], hlc, vs.toArray, ⟨_, g'.kp.keep _ _ no nt (Heap.get?_push_size _ rfl)⟩, ?_⟩
  have r₂ : RdAll (fun a => X a ∨ a = s₁.heap.objs.size) (s₁.heap.push { cls := .type "list", data := .seq vs.toArray }) vs (ns.map .int) := .ofInts r₁.ints
  exact .ofInts (by simpa using r₁.ints)

/-- all of one, then the others -/
noncomputable def rowF (left : Bool) (ps : List (Int × Int)) : List (Int × Int) := ps.foldl (fun acc p => insAt acc (if left then lIx acc p.1 else rIx acc p.1) p) []
theorem rowF_snoc (left : Bool) (ps : List (Int × Int)) (p : Int × Int) : rowF left (ps ++ [p]) = insAt (rowF left ps) (if left then lIx (rowF left ps) p.1 else rIx (rowF left ps) p.1) p := by unfold rowF; rw [List.foldl_append]; rfl
theorem insAt_len {α : Type} (l : List α) (k : Nat) (x : α) : (insAt l k x).length = l.length + 1 := by unfold insAt; simp; omega
theorem rowF_len (left : Bool) (ps : List (Int × Int)) : (rowF left ps).length = ps.length := by
  unfold rowF
  have : ∀ (acc : List (Int × Int)), (ps.foldl (fun acc p => insAt acc (if left then lIx acc p.1 else rIx acc p.1) p) acc).length = acc.length + ps.length := by
    induction ps with
    | nil => intro acc; rfl
    | cons p ps ih => intro acc; rw [List.foldl_cons, ih, insAt_len, List.length_cons]; omega
  simpa using this []

theorem TabSt.less {X X' : Addr → Prop} {h : Heap} {P : Addr} {pos : Pos} {q : Str} {made : Bool} (T : TabSt X h P pos q made) (k : ∀ a, X' a → X a) : TabSt X' h P pos q made := by
  obtain ⟨ps, h1, h2, h3⟩ := T
  refine ⟨ps, h1, h2, ?_⟩
  cases made with
  | false => exact h3
  | true => obtain ⟨k', q1, q2, q3⟩ := h3; exact ⟨k', q1, q2, fun z => q3 (k _ z)⟩
theorem TabSt.gw {X : Addr → Prop} {s s' : Shared} {P : Addr} {pos : Pos} {q : Str} {made : Bool} (hP : tb P) (xt : XT X) (T : TabSt X s.heap P pos q made) (g : Gw X s s') : TabSt X s'.heap P pos q made := by
  obtain ⟨ps, h1, h2, h3⟩ := T
  refine ⟨ps, g.kp.tabs _ _ hP h1, h2, ?_⟩
  cases made with
  | false => exact h3
  | true =>
    obtain ⟨k', q1, ⟨kc, oc, ws, t, z1, z2, z3⟩, q3⟩ := h3
    cases z1
    exact ⟨_, q1, ⟨_, oc, ws, t, rfl, g.kp.keep _ oc q3 (fun z => q3 (xt.tbs _ z)) z2, z3⟩, q3⟩
end
end Mine
namespace Mine
open PySem PySem.Spec PySem.Calls PyProof.Rows PySem.W
section
variable {c : Cx} {sc : Scope} {ρ ρ' : Str → Option D}

theorem EnvOk.leaveA {X X₀ Y : Addr → Prop} {env : Env} {s s' : Shared} (KG : Known c.G) (hG' : c.G s'.heap) (e : EnvOk X env s.heap ρ) (g : Gw Y s s') (hY : ∀ a, Y a → X a ∧ ¬ Own env a) (h₀ : ∀ a, X₀ a → X a) (ho : ∀ a, Own env a → X₀ a) (xt : XT X₀) (hY' : ∀ a, Y a → X₀ a → ∃ o, s'.heap.get? a = some o) : EnvOk X₀ env s'.heap ρ :=
  e.leave g hY h₀ ho xt fun a ha => by
    by_cases ht : tb a
    · obtain ⟨ps, q⟩ := KG.table _ hG' a ht; exact ⟨_, q⟩
    · by_cases hy : Y a
      · exact hY' a hy ha
      · obtain ⟨o, q⟩ := e.al a (h₀ a ha)
        exact ⟨o, g.kp.keep a o hy ht q⟩

/-- the two lambdas of _law_row, by their places -/
def lamKw : Stmt → Expr
  | .Expr (.Call _ _ [kw] _) _ => kw.value
  | _ => default
def rowIf : Stmt := match bodyOf (stAt 15) with
  | [_, .For _ _ [st] _ _, _] => st
  | _ => .Pass default
def lamRow (left : Bool) : Expr := match rowIf with
  | .If _ [a] [b] _ => if left then lamKw a else lamKw b
  | _ => default
def lamPos : Expr → Pos
  | .Lambda _ _ _ p => p
  | _ => default
def lpR (left : Bool) : Pos := lamPos (lamRow left)
def lamArgs : Expr → Arguments
  | .Lambda a _ _ _ => a
  | _ => default
def lamBody : Expr → Expr
  | .Lambda _ b _ _ => b
  | _ => default
def lamScope : Expr → Scope
  | .Lambda _ _ s _ => s
  | _ => default

theorem isKey_row (left : Bool) : IsKey (lamArgs (lamRow left)) (lamBody (lamRow left)) (lamScope (lamRow left)) := fun q pm cdv ct c n W hl k t X s v u hG xo r ru => by
  cases left <;>
  exact callLam W hl hG xo r (binds := [("one", u)]) (ds := [.tup [.int k, .int t]]) rfl (.one ru) (by decide) (locs_of rfl) (fun env => Ev.itemT (c := c.dp env) W.KG (.name rfl) .intC (by decide) (by decide) rfl) rfl rfl rfl

theorem EvT.name {x : Str} {p : Pos} {b : Bool} (h : ρ x = some (.bool b)) : EvT c sc ρ (.Name x p) b := EvT.bool (Ev.name h)

theorem row_turn (W : Wld c) (TF : TabFree c.G) {n : Nat} (hl : LimN (n + 2) c) {left : Bool} {X : Addr → Prop} {env : Env} {s : Shared} {A : Addr} {made : Bool} {xs : List (Int × Int)} {p : Int × Int} {Q : Flow → Shared → Prop} {E : Value → Shared → Prop} (hs : env.scope = scopeOf (stAt 15)) (hc : env.code = .ref 157) (hG : c.G s.heap) (m : Mu X env s.heap ρ A "row" (xs.map prD))
    (hp : ρ "pair" = some (prD p)) (hleft : ρ "left" = some (.bool left)) (T : TabSt X s.heap 153 (lpR left) (env.qual ++ "<lambda>") made) (hz : xs.length < 1000)
    (h : ∀ s', Gp 153 (fun b => b = A) s s' → c.G s'.heap → Mu X env s'.heap ρ A "row" ((insAt xs (if left then lIx xs p.1 else rIx xs p.1) p).map prD) → TabSt X s'.heap 153 (lpR left) (env.qual ++ "<lambda>") true → (∀ pos', TabSt X s.heap 153 pos' (env.qual ++ "<lambda>") false → (((lpR left).line : Int) == pos'.line && ((lpR left).col : Int) == pos'.col) = false → TabSt X s'.heap 153 pos' (env.qual ++ "<lambda>") false) → Q .next s') :
    wpAny (model c.prog c.w) c.A (execs [rowIf] env) Q E s := by
  refine wpAny_execs_cons (wpAny_If (wp_up (EvT.name (c := c) (ρ := ρ) (sc := scopeOf (stAt 15)) hleft X env s hs hG m.eo) fun b s₁ h₁ => ?_))
  obtain ⟨g₁, rfl⟩ := h₁
  have hG₁ := W.KG.keeps _ _ hG g₁.kp
  have m₁ := m.gw W.KG hG g₁
  have T₁ := T.gw (.inl rfl) m.eo.xt g₁.none
  have hk : ∀ f : Str, (scopeOf (stAt 15)).names.lookup f = some .globalImplicit → env.kindOf f = some .globalImplicit := fun f hf => by unfold Env.kindOf; rw [hs]; exact hf
  have hfin : ∀ s₂, Gp 153 (fun b => b = A) s₁ s₂ → c.G s₂.heap → Mu X env s₂.heap ρ A "row" ((insAt xs (if b then lIx xs p.1 else rIx xs p.1) p).map prD) → TabSt X s₂.heap 153 (lpR b) (env.qual ++ "<lambda>") true → (∀ pos', TabSt X s₁.heap 153 pos' (env.qual ++ "<lambda>") false → (((lpR b).line : Int) == pos'.line && ((lpR b).col : Int) == pos'.col) = false → TabSt X s₂.heap 153 pos' (env.qual ++ "<lambda>") false) → Q .next s₂ := fun s₂ g hG₂ m₂ T₂ T₃ =>
    h s₂ ((Gp.of W.KG hG g₁).none.trans g) hG₂ m₂ T₂ fun pos' hn hne => T₃ pos' (hn.gw (.inl rfl) m.eo.xt g₁.none) hne
  cases b with
  | true => exact wpAny_execs_cons (turn_call W TF W.il.g W.il.kp (lpos := lpR true) (params := lamArgs (lamRow true)) (body := lamBody (lamRow true)) (scope := lamScope (lamRow true)) hG₁ m₁ hp hc (hk _ rfl) rfl rfl (by decide) T₁ (fun fd K => ins_l W hl K xs p hz) (isKey_row true) fun s₂ g hG₂ m₂ T₂ T₃ => wpAny_execs_nil (wpAny_execs_nil (hfin s₂ g hG₂ m₂ T₂ T₃)))
  | false => exact wpAny_execs_cons (turn_call W TF W.ir.g W.ir.kp (lpos := lpR false) (params := lamArgs (lamRow false)) (body := lamBody (lamRow false)) (scope := lamScope (lamRow false)) hG₁ m₁ hp hc (hk _ rfl) rfl rfl (by decide) T₁ (fun fd K => ins_r W hl K xs p hz) (isKey_row false) fun s₂ g hG₂ m₂ T₂ T₃ => wpAny_execs_nil (wpAny_execs_nil (hfin s₂ g hG₂ m₂ T₂ T₃)))
end
end Mine
namespace Mine
open PySem PySem.Spec PySem.Calls PyProof.Rows PySem.W
section
variable {c : Cx} {sc : Scope} {ρ ρ' : Str → Option D}

theorem map_drop_cons {α β : Type} {f : α → β} {a : α} {r : List α} : (a :: r).map f = f a :: r.map f := rfl

theorem Mu.wr {X X₀ wr : Addr → Prop} {env : Env} {s s' : Shared} {A : Addr} {nm : Str} {ds : List D} (KG : Known c.G) (hG' : c.G s'.heap) (m : Mu X env s.heap ρ A nm ds) (g : Gw wr s s') (hY : ∀ a, wr a → X a ∧ ¬ Own env a) (hA : ¬ wr A) (h₀ : ∀ a, X₀ a → X a) (ho : ∀ a, Own env a → X₀ a) (hA₀ : X₀ A) (xt : XT X₀) (hY' : ∀ a, wr a → X₀ a → ∃ o, s'.heap.get? a = some o) : Mu X₀ env s'.heap ρ A nm ds := by
  refine ⟨m.eo.leaveA KG hG' g hY h₀ ho xt hY', hA₀, m.nt, m.no, m.nmv, m.lc, ?_⟩
  obtain ⟨vs, a, r⟩ := m.at'
  exact ⟨vs, a.at fun o q => g.kp.keep _ o hA m.nt q, (r.mono fun b o hx q => g.kp.keep b o (fun z => hx (hY b z).1) (fun z => hx (m.eo.xt.tbs b z)) q).less h₀⟩

theorem row_for (W : Wld c) (TF : TabFree c.G) {n : Nat} (hl : LimN (n + 2) c) {left : Bool} {X : Addr → Prop} {env : Env} {s : Shared} {A : Addr} {ps : List (Int × Int)} {Q : Flow → Shared → Prop} {E : Value → Shared → Prop} (hs : env.scope = scopeOf (stAt 15)) (hc : env.code = .ref 157) (hG : c.G s.heap) (hn : ∀ x, OwnN env x)
    (m : Mu X env s.heap ρ A "row" []) (hlaid : ρ "laid" = some (.list (ps.map prD))) (hleft : ρ "left" = some (.bool left)) (hpr : ρ "pair" = none) (T : TabSt X s.heap 153 (lpR left) (env.qual ++ "<lambda>") false) (hz : ps.length < 1000) {tp pos : Pos} {e : Expr} (he : e = .Name "laid" tp)  {np : Pos}
    (h : ∀ s', Gp 153 (fun a => Own env a ∨ a = A) s s' → c.G s'.heap → Mu X env s'.heap ρ A "row" ((rowF left ps).map prD) → (∀ pos', TabSt X s.heap 153 pos' (env.qual ++ "<lambda>") false → (((lpR left).line : Int) == pos'.line && ((lpR left).col : Int) == pos'.col) = false → TabSt X s'.heap 153 pos' (env.qual ++ "<lambda>") false) → Q .next s') :
    wpAny (model c.prog c.w) c.A (exec (.For (.Name "pair" np) e [rowIf] [] pos) env) Q E s := by
  subst he
  have KG := W.KG
  refine wpAny_For (wp_up (EvIt.list KG hl.lim (Ev.name (c := c) (sc := scopeOf (stAt 15)) hlaid) X env s hs hG m.eo) fun x s₁ h₁ => wp_up h₁ fun it s₂ h₂ => ?_)
  obtain ⟨I, fp, wr, St, rfl, g₂, It, hw, hf, hst⟩ := h₂
  have hG₂ := KG.keeps _ _ hG g₂.kp
  have m₂ := m.gw KG hG g₂
  have xtw : XT (fun a => X a ∨ wr a) := ⟨fun b hb => .inl (m.eo.xt.tbs b hb), fun a ha => ha.elim (m.eo.xt.hi a) fun q => .inr (hw a q).2.2⟩
  have wX : ∀ a, wr a → ¬ X a := fun a q => (hf a (It.sub a q)).2
  have mw : Mu (fun a => X a ∨ wr a) env s₂.heap ρ A "row" ((rowF left []).map prD) := by
    refine ⟨m.eo.grow xtw (fun b o ht q => g₂.kp.keep b o (fun z => z) ht q) (fun a q => .inl q) (fun a ha => ha.elim (fun q => m₂.eo.al a q) fun q => (hf a (It.sub a q)).1) fun a ha => ha.imp id fun q => (hw a q).1, .inl m.XA, m.nt, m.no, m.nmv, m.lc, ?_⟩
    obtain ⟨vs, a, r⟩ := m₂.at'
    have : vs.toList = [] := r.nilInv
    exact ⟨vs, a, by rw [this]; exact .nil⟩
  have hAw : ¬ wr A := fun z => wX A z m.XA
  have hwO : ∀ a, wr a → (X a ∨ wr a) ∧ ¬ Own env a := fun a q => ⟨.inr q, fun z => wX a q (own_X m.eo z).1⟩
  refine codeAny_forLoop (fun k s' => ∃ done rem made, ps = done ++ rem ∧ k = rem.length ∧ c.G s'.heap ∧ Mu (fun a => X a ∨ wr a) env s'.heap ρ A "row" ((rowF left done).map prD) ∧ St (fun a => X a ∨ wr a) (rem.map prD) s'.heap ∧ TabSt (fun a => X a ∨ wr a) s'.heap 153 (lpR left) (env.qual ++ "<lambda>") made ∧
      (∀ pos', TabSt X s.heap 153 pos' (env.qual ++ "<lambda>") false → (((lpR left).line : Int) == pos'.line && ((lpR left).col : Int) == pos'.col) = false → TabSt (fun a => X a ∨ wr a) s'.heap 153 pos' (env.qual ++ "<lambda>") false) ∧ Gp 153 (fun a => Own env a ∨ a = A ∨ wr a) s s') (fun k s' hI => ?_) ps.length
    ⟨[], ps, false, rfl, rfl, hG₂, mw, hst _ xtw (fun a ha => ha.elim .inl fun q => .inr (.inl q)), ?_, fun pos' T' _ => ?_, (Gp.of KG hG g₂).none⟩
  rotate_left
  · obtain ⟨ps', h1, h2, h3⟩ := T; exact ⟨ps', g₂.kp.tabs _ _ (.inl rfl) h1, h2, h3⟩
  · obtain ⟨ps', h1, h2, h3⟩ := T'; exact ⟨ps', g₂.kp.tabs _ _ (.inl rfl) h1, h2, h3⟩
  obtain ⟨done, rem, made, hps, rfl, hG', m', st', T', T2', g'⟩ := hI
  cases rem with
  | nil =>
    refine wp_up (It.done _ s' st') fun r s₃ h₃ => ?_
    obtain ⟨rfl, g₃⟩ := h₃
    have hG₃ : c.G s₃.heap := KG.apart _ _ _ (fun a ha => xtw.hi a (.inr ha)) hG' g₃.kp
    refine wpAny_execs_nil ?_
    rw [List.append_nil] at hps
    subst hps
    have gg : Gp 153 (fun a => Own env a ∨ a = A ∨ wr a) s s₃ := g'.trans ((Gp.of KG hG' g₃).wide fun a q => .inr (.inr q))
    refine h s₃ (gg.narrow fun a ha => ?_) hG₃ (m'.wr KG hG₃ g₃ hwO hAw (fun a q => .inl q) (fun a q => (own_X m.eo q).1) m.XA m.eo.xt fun a q z => absurd z (wX a q)) fun pos' T0 hne => ?_
    · rcases ha with q | q | q
      · exact .inl (.inl q)
      · exact .inl (.inr q)
      · exact .inr (hw a q).1
    · obtain ⟨ps', h1, h2, h3⟩ := T2' pos' T0 hne
      exact ⟨ps', g₃.kp.tabs _ _ (.inl rfl) h1, h2, h3⟩
  | cons p rem =>
    refine wp_up (It.next _ (prD p) (rem.map prD) s' (fun b q => .inr q) xtw m'.eo.al st') fun r s₃ h₃ => ?_
    obtain ⟨v, rfl, g₃, r₃, hgo⟩ := h₃
    have e1 : assign (.Name "pair" np) env v = (letOwnedTupleGo (.Name "pair" np) (.ref I) v >>= fun _ => assign (.Name "pair" np) env v) := (pure_bind _ _).symm
    dsimp only
    rw [e1]
    refine wpAny_bind (wp_up (hgo (.Name "pair" np) (.inl ⟨_, _, rfl⟩)) fun _ s₄ h₄ => ?_)
    obtain ⟨g₄, st₄⟩ := h₄
    have g₃₄ := g₃.trans g₄
    have hG₄ : c.G s₄.heap := KG.apart _ _ _ (fun a ha => xtw.hi a (.inr ha)) hG' g₃₄.kp
    have m₄ := m'.wr KG hG₄ g₃₄ hwO hAw (X₀ := fun a => X a ∨ wr a) (fun a q => q) (fun a q => .inl (own_X m.eo q).1) (.inl m.XA) xtw fun a q _ => It.ex _ _ _ st₄ a q
    have r₄ := r₃.gw xtw (g₄.wide fun a q => .inr q)
    refine wpAny_assign_Name (m₄.store hs r₄ (ok1 rfl) (by decide) fun s₅ m₅ g₅ => ?_)
    have hG₅ := apart_own KG m₄.eo hG₄ g₅
    have T₅ : TabSt (fun a => X a ∨ wr a) s₅.heap 153 (lpR left) (env.qual ++ "<lambda>") made := (T'.gw (.inl rfl) xtw (g₃₄.wide fun a q => .inr q)).gw (.inl rfl) xtw (g₅.wide fun a q => (own_X m₄.eo q).1)
    have T2₅ : ∀ pos', TabSt X s.heap 153 pos' (env.qual ++ "<lambda>") false → (((lpR left).line : Int) == pos'.line && ((lpR left).col : Int) == pos'.col) = false → TabSt (fun a => X a ∨ wr a) s₅.heap 153 pos' (env.qual ++ "<lambda>") false := fun pos' a b => ((T2' pos' a b).gw (.inl rfl) xtw (g₃₄.wide fun a q => .inr q)).gw (.inl rfl) xtw (g₅.wide fun a q => (own_X m₄.eo q).1)
    have st₅ : St (fun a => X a ∨ wr a) (rem.map prD) s₅.heap := It.frame _ _ _ _ xtw st₄ fun b o hb ht q => g₅.kp.keep b o (fun z => by
      rcases hb with hb | hb
      · exact hb (.inl (own_X m.eo z).1)
      · exact (hf b hb).2 (own_X m.eo z).1) ht q
    have hlen : (rowF left done).length < 1000 := by rw [rowF_len]; rw [hps, List.length_append] at hz; omega
    refine row_turn W TF hl hs hc hG₅ m₅ (if_pos rfl) (by rw [← hleft]; rfl) T₅ hlen fun s₆ g₆ hG₆ m₆ T₆ T2₆ => ?_
    refine ⟨rem.length, by simp, done ++ [p], rem, true, by rw [hps]; simp, rfl, hG₆, ?_, ?_, T₆, fun pos' a b => T2₆ pos' (T2₅ pos' a b) b, ?_⟩
    · rw [rowF_snoc]
      refine m₆.sub (fun x d hx => ?_) m.nmv
      unfold upd
      split
      · rename_i hx'; subst hx'; rw [hpr] at hx; cases hx
      · exact hx
    · refine It.frame _ _ _ _ xtw st₅ fun b o hb ht q => g₆.keep b o (fun z => ?_) (fun z => ht (z ▸ .inl rfl)) q
      have z' : b = A := z
      rcases hb with hb | hb
      · exact hb (.inl (z'.symm ▸ m.XA))
      · exact (hf b hb).2 (z'.symm ▸ m.XA)
    · exact ((g'.trans ((Gp.of KG hG' g₃₄).wide fun a q => .inr (.inr q))).trans ((Gp.of KG hG₄ g₅).wide fun a q => .inl q)).trans (g₆.wide fun a q => .inr (.inl q))

/-- _law_row -/
theorem call_row (W : Wld c) (TF : TabFree c.G) {n : Nat} (hl : LimN (n + 3) c) {left : Bool} {ps : List (Int × Int)} (hz : ps.length < 1000) {X : Addr → Prop} {s : Shared} {v : Value} (hG : c.G s.heap) (xo : Xok X s.heap) (r : Rd X s.heap v (.list (ps.map prD))) (T : TabSt X s.heap 153 (lpR left) ("_law_row.<locals>.<lambda>") false) :
    wpAny (model c.prog c.w) c.A (call (.ref 158) [v, .bool left]) (fun v s' => Gp 153 noX s s' ∧ c.G s'.heap ∧ Rd X s'.heap v (.list ((rowF left ps).map prD)) ∧ (∀ pos', TabSt X s.heap 153 pos' ("_law_row.<locals>.<lambda>") false → (((lpR left).line : Int) == pos'.line && ((lpR left).col : Int) == pos'.col) = false → TabSt X s'.heap 153 pos' ("_law_row.<locals>.<lambda>") false)) noE s := by
  have KG := W.KG
  refine enter KG W.row.f hl.room hG xo (binds := [("laid", v), ("left", .bool left)]) (ds := [.list (ps.map prD), .bool left]) (fun fd h => by obtain ⟨_, _, _, _, rfl⟩ := h; exact BindsTo.of_eq rfl) (.cons r (.one (.bool left))) (by decide) (locs_of rfl) (fun env s₁ hs hcs hcode g eo hL hXL hG₁ _ => ?_) rfl rfl rfl
  obtain ⟨hc, hq, hfr⟩ := hcode
  have hq' : env.qual ++ "<lambda>" = ("_law_row.<locals>.<lambda>" : Str) := by rw [hq]; decide
  have hn : ∀ x, OwnN env x := fun x c' hc' => by rw [hcs] at hc'; cases hc'
  have hOwn : ∀ a, Own env a → a = env.locals := fun a ha => by
    rcases ha with q | ⟨p, hp, _⟩
    · exact q
    · rw [hcs] at hp; cases hp
  refine wpAny_execs_cons (new_list (c := c.dp env) (nm := "row") (ns := []) KG hG₁ eo hs rfl rfl Evs.nil (by decide) fun A s₂ hA0 hAX hAl g₂ hG₂ m₂ => ?_)
  have hALne : A ≠ env.locals := fun z => hAX (.inr z)
  have hA0' : s.heap.get? A = none := was_none (X := X) KG hG g hA0
  have T1 : ∀ pos', TabSt X s.heap 153 pos' ("_law_row.<locals>.<lambda>") false → TabSt (fun a => callX X env.locals a ∨ a = A) s₂.heap 153 pos' (env.qual ++ "<lambda>") false := fun pos' T => by
    obtain ⟨ps', h1, h2, h3⟩ := T
    exact ⟨ps', g₂.kp.tabs _ _ (.inl rfl) (g.kp.tabs _ _ (.inl rfl) h1), h2, h3⟩
  refine wpAny_execs_cons (row_for (c := c.dp env) (W.dp env) TF (hl.dp env) hs hc hG₂ hn m₂ rfl rfl rfl (T1 _ T) hz rfl fun s₃ g₃ hG₃ m₃ T₃ => ?_)
  refine wpAny_execs_cons (wp_up (Exm.ret (c := c.dp env) (sc := scopeOf (stAt 15)) _ env A s₃ hs hn hG₃ m₃) fun f s₄ h₄ => ?_)
  obtain ⟨g₄, rfl, vs, ha, ra⟩ := h₄
  have hG₄ : c.G s₄.heap := mu_G (c := c.dp env) KG m₃ hG₃ g₄
  have gall : Gp 153 (fun a => a = env.locals ∨ a = A) s s₄ := (((Gp.of KG hG g).none.trans ((Gp.of KG hG₁ g₂).wide fun a q => .inl (hOwn a q))).trans (g₃.wide fun a q => q.imp (hOwn a) id)).trans ((Gp.of KG hG₃ g₄).wide fun a q => q.imp (hOwn a) id)
  refine ⟨gall.narrow fun a ha => .inr ?_, hG₄, ?_, fun pos' T0 hne => ?_⟩
  · rcases ha with rfl | rfl
    · exact hL
    · exact hA0'
  · obtain ⟨na, ha⟩ := ha
    exact RdAll.list (vs := vs.toList) (n := na) (fun z => hAX (.inl z)) (by simpa using ha) (ra.less fun a q => .inl (.inl q))
  · have := T₃ pos' (T1 _ T0) hne
    rw [hq'] at this
    obtain ⟨ps', h1, h2, h3⟩ := this
    exact ⟨ps', g₄.kp.tabs _ _ (.inl rfl) h1, h2, h3⟩
end
end Mine
namespace Mine
open PySem PySem.Spec PySem.Calls PyProof.Rows PySem.W
section
variable {M : Model} {A : Around} {R : GenEnd} {Y : Protocol} {n : Nat} {s₀ : Shared} {c : Code} {fs : List Frame} {s : Shared} {env : Env}
  {K : Flow → Sem Fin} {H : Value → Sem Fin} {gd : Bool → Bool} {lv : List Value → List Value}
theorem sg_wp {α : Type} {m : Sem α} {K : α → Sem Fin} (h : wpAny M (A.over c fs) m (fun a s' => Seg M A R Y n s₀ c (K a) fs s') noE s) : Seg M A R Y n s₀ c (m.wrap K H gd lv) fs s :=
  seg_wrap (wpAny_mono h (fun _ _ x => x) fun _ _ x => x.elim)
theorem sg_bind {α β : Type} {m : Sem α} {K' : α → Sem β} {K : β → Sem Fin} (h : wpAny M (A.over c fs) m (fun a s' => Seg M A R Y n s₀ c ((K' a).wrap K H gd lv) fs s') noE s) : Seg M A R Y n s₀ c ((m >>= K').wrap K H gd lv) fs s := by
  rw [Sem.bind_eq_wrap', Sem.wrap_wrap]
  exact seg_wrap (wpAny_mono h (fun _ _ x => x) fun _ _ x => x.elim)
theorem sg_if {t : Expr} {b o : List Stmt} {pos : Pos} (h : wpAny M (A.over c fs) (isTrue t env (eval t env)) (fun r s' => match r with
      | true => Seg M A R Y n s₀ c ((execs b env).wrap K H gd lv) fs s'
      | false => Seg M A R Y n s₀ c ((execs o env).wrap K H gd lv) fs s') noE s) : Seg M A R Y n s₀ c ((exec (.If t b o pos) env).wrap K H gd lv) fs s := by
  rw [exec_If]
  refine sg_bind (wpAny_standAt (sg_bind (wpAny_mono h (fun r s' h' => ?_) fun _ _ x => x)))
  cases r with
  | true => exact h'
  | false => exact h'
theorem sg_retN {pos : Pos} (h : Seg M A R Y n s₀ c (K (.ret .none)) fs s) : Seg M A R Y n s₀ c ((exec (.Return none pos) env).wrap K H gd lv) fs s :=
  sg_wp (wpAny_Return_none h)
theorem sg_own {code : Code} (h : ∀ p, Seg M A R Y n s₀ code (M.den code) (.ret (fun r => ((match r with | .ok f => (.pure f : Sem Flow) | .error e => .raise e).onRaise fun (x : Value) => do
        if (← field x 1) == Value.none then unsupported "frame.own-activation:exception-without-traceback"
        setFlight x env.frame).wrap K H gd lv) none (gd false) (lv []) c p [] :: fs) s) : Seg M A R Y n s₀ c ((runOwn code env).wrap K H gd lv) fs s := seg_call h
theorem sg_for {target iter : Expr} {body : List Stmt} {pos : Pos} (hset : ∀ x, foldedSetIterable iter env x = pure x)
    (h : wpAny M (A.over c fs) (eval iter env) (fun x s₁ => wpAny M (A.over c fs) (pyIter x) (fun it s₂ => ∀ p, Seg M A R Y n s₀ (.forLoop target it body [] env) (M.den (.forLoop target it body [] env)) (.ret (fun r => ((match r with | .ok f => (.pure f : Sem Flow) | .error e => .raise e).onRaise fun (x : Value) => do
        if (← field x 1) == Value.none then unsupported "frame.own-activation:exception-without-traceback"
        setFlight x env.frame).wrap K H gd lv) none (gd false) (lv []) c p [] :: fs) s₂) noE s₁) noE s) : Seg M A R Y n s₀ c ((exec (.For target iter body [] pos) env).wrap K H gd lv) fs s := by
  rw [exec_For]
  refine sg_bind (wpAny_standAt (sg_bind (wpAny_mono h (fun x s₁ h₁ => ?_) fun _ _ x => x)))
  rw [hset]
  refine sg_bind (wpAny_pure (sg_bind (wpAny_standAt (sg_bind (wpAny_holding (wpAny_mono h₁ (fun it s₂ h₂ => ?_) fun _ _ x => x))))))
  exact sg_own h₂
theorem sg_while {test : Expr} {body : List Stmt} {pos : Pos} (h : ∀ p, Seg M A R Y n s₀ (.whileLoop test body [] env) (M.den (.whileLoop test body [] env)) (.ret (fun r => ((match r with | .ok f => (.pure f : Sem Flow) | .error e => .raise e).onRaise fun (x : Value) => do
        if (← field x 1) == Value.none then unsupported "frame.own-activation:exception-without-traceback"
        setFlight x env.frame).wrap K H gd lv) none (gd false) (lv []) c p [] :: fs) s) : Seg M A R Y n s₀ c ((exec (.While test body [] pos) env).wrap K H gd lv) fs s := by
  rw [exec_While]
  exact sg_bind (wpAny_standAt (sg_own h))
/-- a yield whose value is let go -/
theorem sg_yield {e : Expr} {ypos pos : Pos} (hfs : splitAtGen fs = none) (hgd : gd false = false) (hfg : fs.any Frame.guarded = false)
    (h : wpAny M (A.over c fs) (eval e env) (fun v s' => ∀ kap : Resume → Shared → Prop, (∀ s'', Seg M A R Y n s'' c (K .next) fs s'' → kap (.send .none) s'') → Y n s₀ v s' kap) noE s)
    (hco : env.scope.isCoroutine = false) (hi : interactive env = false) :
    Seg M A R Y (n + 1) s₀ c ((exec (.Expr (.Yield (some e) ypos) pos) env).wrap K H gd lv) fs s :=
  seg_Expr_Yield hfs hgd hfg (wpAny_mono h (fun v s' h' => fun kap hk => h' kap fun s'' hs => hk .none s'' hs) fun _ _ x => x.elim) hco hi
end
section
variable {prog : Program} {w : World} {A : Around} {R : GenEnd} {Y : Protocol} {n : Nat} {s₀ : Shared} {fs : List Frame} {s : Shared} {env : Env}
/-- what a loop's body runs into -/
def loopK (code : Code) : Flow → Sem Fin := fun f => match f with
  | .next | .cont => .pure (.again code)
  | .brk => .pure (.done .next)
  | .ret v => .pure (.done (.ret v))
theorem sg_wturn {test : Expr} {body : List Stmt} (h : wpAny (model prog w) (A.over (.whileLoop test body [] env) fs) (isTrue test env (eval test env)) (fun b s' => b = true ∧ ∀ H gd lv, gd = id → Seg (model prog w) A R Y n s₀ (.whileLoop test body [] env) ((execs body env).wrap (loopK (.whileLoop test body [] env)) H gd lv) fs s') noE s) :
    Seg (model prog w) A R Y n s₀ (.whileLoop test body [] env) ((model prog w).den (.whileLoop test body [] env)) fs s :=
  seg_whileLoop (wpAny_mono h (fun b s' hb => by
    obtain ⟨rfl, hb⟩ := hb
    rw [if_pos rfl]
    exact hb _ id id rfl) fun _ _ x => x.elim)
theorem sg_fturn {target : Expr} {body : List Stmt} {it : Value} (h : wpAny (model prog w) (A.over (.forLoop target it body [] env) fs) (pyNext it) (fun r s' => match r with
      | none => Seg (model prog w) A R Y n s₀ (.forLoop target it body [] env) (.pure (.again (.block [] env))) fs s'
      | some v => wpAny (model prog w) (A.over (.forLoop target it body [] env) fs) (letOwnedTupleGo target it v) (fun _ s₁ => wpAny (model prog w) (A.over (.forLoop target it body [] env) fs) (assign target env v) (fun _ s₂ =>
        ∀ H gd lv, gd = id → Seg (model prog w) A R Y n s₀ (.forLoop target it body [] env) ((execs body env).wrap (loopK (.forLoop target it body [] env)) H gd lv) fs s₂) noE s₁) noE s') noE s) :
    Seg (model prog w) A R Y n s₀ (.forLoop target it body [] env) ((model prog w).den (.forLoop target it body [] env)) fs s := by
  show Seg _ A R Y n s₀ _ ((forTurn target it body [] env).onRaise (fun x => do noteFrame x env; theTreesLotGoes x)) fs s
  unfold forTurn
  rw [Sem.onRaise_eq_wrap]
  refine sg_bind (wpAny_standAt (sg_bind (wpAny_onRaise (wpAny_mono h (fun r s' h' => ?_) fun _ _ x => x.elim))))
  cases r with
  | none => exact h'
  | some v =>
    refine sg_bind (wpAny_mono h' (fun _ s₁ h₁ => sg_bind (wpAny_mono h₁ (fun _ s₂ h₂ => ?_) fun _ _ x => x)) fun _ _ x => x)
    rw [Sem.bind_eq_wrap', Sem.wrap_wrap]
    rw [Sem.wrap_congr (execs body env) _ _ (K' := loopK (.forLoop target it body [] env)) (H' := _) (fun f => by cases f <;> rfl) (fun e => rfl)]
    exact h₂ _ _ _ rfl
/-- the end of a loop, of its own frame -/
theorem sg_leaveN {c c₁ : Code} {p₁ : Pos} {K : Flow → Sem Fin} {H : Value → Sem Fin} {gd : Bool → Bool} {lv l : List Value} {lv' : List Value → List Value} {g : Bool} {f : Flow} (h : Seg (model prog w) A R Y n s₀ c₁ (K f) fs s) :
    Seg (model prog w) A R Y n s₀ c (.pure (.done f)) (.ret (fun r => ((match r with | .ok f => (.pure f : Sem Flow) | .error e => .raise e).onRaise fun (x : Value) => do
        if (← field x 1) == Value.none then unsupported "frame.own-activation:exception-without-traceback"
        setFlight x env.frame).wrap K H gd lv') none g l c₁ p₁ [] :: fs) s := seg_leaf (.ok f) h
/-- nothing left: the loop's else, which is empty -/
theorem sg_block {c : Code} (h : Seg (model prog w) A R Y n s₀ (.block [] env) (.pure (.done .next)) fs s) : Seg (model prog w) A R Y n s₀ c (.pure (.again (.block [] env))) fs s := by
  refine seg_again rfl ?_
  show Seg _ A R Y n s₀ _ (((execs [] env).onRaise (fun x => do noteFrame x env; theTreesLotGoes x)) >>= fun f => pure (Fin.done f)) fs s
  rw [Sem.onRaise_eq_wrap, Sem.bind_eq_wrap', Sem.wrap_wrap]
  exact sg_wp (wpAny_execs_nil h)
end
end Mine
namespace Mine
open PySem PySem.Spec PySem.Calls PyProof.Rows PySem.W

/-- what changed since, but for one generator's state -/
structure Gg (g : Nat) (X : Addr → Prop) (s s' : Shared) : Prop where
  kp : Kp X s.heap s'.heap
  os : s'.os = s.os
  bare : AllBare s.gens → AllBare s'.gens
  sz : s.gens.size ≤ s'.gens.size
  oth : ∀ i, i < s.gens.size → i ≠ g → s'.gens[i]? = s.gens[i]?
theorem Gg.refl {g : Nat} {X : Addr → Prop} (s : Shared) : Gg g X s s := ⟨.refl _, rfl, fun x => x, Nat.le_refl _, fun _ _ _ => rfl⟩
theorem Gg.trans {g : Nat} {X : Addr → Prop} {s₁ s₂ s₃ : Shared} (a : Gg g X s₁ s₂) (b : Gg g X s₂ s₃) : Gg g X s₁ s₃ :=
  ⟨a.kp.trans b.kp, b.os.trans a.os, fun x => b.bare (a.bare x), Nat.le_trans a.sz b.sz, fun i h1 h2 => (b.oth i (Nat.lt_of_lt_of_le h1 a.sz) h2).trans (a.oth i h1 h2)⟩
theorem Gg.wide {g : Nat} {X X' : Addr → Prop} {s s' : Shared} (k : ∀ a, X a → X' a) (a : Gg g X s s') : Gg g X' s s' := ⟨a.kp.wide k, a.os, a.bare, a.sz, a.oth⟩
theorem Gg.of {g : Nat} {X : Addr → Prop} {s s' : Shared} (a : Gw X s s') : Gg g X s s' := ⟨a.kp, a.os, a.bare.1, a.bare.2.1, fun i h _ => a.bare.2.2 i h⟩
/-- of a generator made since -/
theorem Gg.new {g : Nat} {X : Addr → Prop} {s₀ s s' : Shared} (a : Gw X s₀ s) (hg : s₀.gens.size ≤ g) (b : Gg g X s s') : Gw X s₀ s' :=
  ⟨a.kp.trans b.kp, b.os.trans a.os, fun x => b.bare (a.bare.1 x), Nat.le_trans a.bare.2.1 b.sz, fun i hi => (b.oth i (Nat.lt_of_lt_of_le hi a.bare.2.1) (by omega)).trans (a.bare.2.2 i hi)⟩

section
variable {prog : Program} {w : World} {A : Around} {E : Value → Shared → Prop} {s : Shared}
theorem pyNext_gen {a : Addr} {g n : Nat} {gs : GenState} {P : Nat → Shared → Shared → Prop} {Y : Protocol} {Q : Option Value → Shared → Prop} (hh : A.handled = none)
    (hl : s.heap.NoLimit) (hroom : A.depth < recursionLimit) (hg : s.heap.IsGen a g) (hgs : s.gens[g]? = some gs)
    (hgo : gs.Goes (model prog w) A.in1 (fun n s₀ r s₁ => r = .ok (.ret .none) ∧ P n s₀ s₁) Y n (.send .none) (s.setGen g .running))
    (hY : ∀ v s₁ gs', gs'.bare = true → Y (n - 1) (s.setGen g .running) v s₁ (fun r' s'' => match n with
        | 0 => False
        | m + 1 => gs'.Goes (model prog w) A.in1 (fun n s₀ r s₁ => r = .ok (.ret .none) ∧ P n s₀ s₁) Y m r' s'') → Q (some v) (s₁.setGen g gs'))
    (hP : ∀ s₁, P n (s.setGen g .running) s₁ → ∀ h', (∀ b o, s₁.heap.get? b = some o → h'.get? b = some o) → Q none { s₁.setGen g .finished with heap := h' }) :
    wpAny (model prog w) A (pyNext (.ref a)) Q E s := by
  unfold pyNext
  refine wpAny_bind (wpAny_attempt (wpAny_callSpecial?_slot (name := Str.ofString "__next__") hg.typeIs slot_gen_next
    (wpAny_call_entry slot_gen_next hg.typeIs entry_gen_next ?_ (args_gen_next _))))
  show wpAny _ A.in1 (Builtin.Generator.genWake (.ref a) (.send .none)) _ _ s
  unfold Builtin.Generator.genWake
  refine wpAny_bind (wpAny_holding (wpAny_genNumber hg (wpAny_bind (wpAny_genState hgs ?_))))
  cases gs with
  | running => exact hgo.elim
  | finished => exact hgo.elim
  | _ =>
    refine wpAny_bind (wpAny_roomToWake hl hroom ?_)
    show wpAny _ A.in1 (.resume g (.send .none) [] _) _ _ s
    refine wpAny_resumeQ hgs hgo (fun x s₁ hx => ?_) (fun v s₁ gs' hb hv => ?_)
    · obtain ⟨rfl, hp⟩ := hx
      show wpAny _ A.in1 (newExc (.type "StopIteration") [] >>= _) _ _ _
      refine wpAny_bind ?_
      simp only [newExc, newTuple]
      refine wpAny_bind (wpAny_newObj_type ?_ (by size_fits))
      refine wpAny_bind (m := firstArgMember _ _) (wpAny_of_eq (a := Value.none) (by first | rfl | (simp only [firstArgMember]; rfl)) ?_)
      refine wpAny_newObj_type ?_ (by size_fits)
      simp only [raiseNew]
      refine wpAny_bind (wpAny_bind (wpAny_handled ?_))
      first | rw [show A.in1.handled = none from hh] | rw [hh]
      refine wpAny_throw ?_
      refine wpAny_bind (wpAny_isInstance (T := "StopIteration") (b := true) ⟨_, Heap.get?_push_size _ rfl, rfl⟩ isSubtype_stop ?_)
      exact wpAny_pure (hP s₁ hp _ fun b o hb => Heap.get?_push_of_some _ (Heap.get?_push_of_some _ hb))
    · exact wpAny_pure ⟨v, rfl, wpAny_pure (hY v s₁ gs' hb hv)⟩
end

/-- a generator of ints: what it tells when so many are left, what it turns, and what may turn while it waits -/
structure GenD where
  Ig : Addr
  g : Nat
  Wg : Addr → Prop
  Ym : Addr → Prop
  yv : Nat → Int
  cont : Nat → Bool
  fin : Bool
def GenD.Rel (D : GenD) (c : Cx) (h h'' : Heap) : Prop := c.G h'' ∧ Kp D.Ym h h'' ∧ AL D.Ym h''
def GenD.Y (D : GenD) (c : Cx) : Protocol := fun m s₀ v s kap => (∃ t, v = .int (D.yv m) t) ∧ Gw D.Wg s₀ s ∧ c.G s.heap ∧ AL D.Ym s.heap ∧ (D.cont m = true → ∀ s'', D.Rel c s.heap s''.heap → kap (.send .none) s'')
def GenD.P (D : GenD) : Nat → Shared → Shared → Prop := fun n s₀ s₁ => n = 0 ∧ D.fin = true ∧ Gw D.Wg s₀ s₁
def GenD.R (D : GenD) : GenEnd := fun n s₀ r s₁ => r = .ok (.ret .none) ∧ D.P n s₀ s₁
def GenD.Go (D : GenD) (c : Cx) (m : Nat) (s : Shared) : Prop :=
  s.heap.IsGen D.Ig D.g ∧ ∃ gs, s.gens[D.g]? = some gs ∧ ∀ s'' : Shared, D.Rel c s.heap s''.heap → gs.Goes (model c.prog c.w) c.A.in1 D.R (D.Y c) m (.send .none) s''

theorem setGen_gg {g : Nat} {X : Addr → Prop} (s : Shared) (x : GenState) (hx : x.bare = true) : Gg g X s (s.setGen g x) := by
  refine ⟨.refl _, rfl, fun hb => ?_, by simp [Shared.setGen], fun i hi hne => by simp [Shared.setGen, Ne.symm hne]⟩
  intro y hy
  obtain ⟨i, hi, rfl⟩ := Array.mem_iff_getElem.mp hy
  by_cases e : i = g
  · subst e
    have : (s.setGen i x).gens[i]'hi = x := by simp [Shared.setGen]
    rw [this]; exact hx
  · have h1 : (s.setGen g x).gens[i]? = s.gens[i]? := by simp [Shared.setGen, Ne.symm e]
    rw [Array.getElem?_eq_getElem hi] at h1
    obtain ⟨hi', e'⟩ := Array.getElem?_eq_some_iff.mp h1.symm
    exact e' ▸ hb _ (Array.getElem_mem hi')

section
variable {c : Cx}
theorem GenD.Go.rel {D : GenD} {m : Nat} {s s' : Shared} (h : D.Go c m s) (g : D.Rel c s.heap s'.heap) (hY : ¬ D.Ym D.Ig) (ht : ¬ tb D.Ig) (hg : s'.gens[D.g]? = s.gens[D.g]?) : D.Go c m s' := by
  obtain ⟨⟨o, nm, qn, ho, r⟩, gs, hgs, hgo⟩ := h
  exact ⟨⟨o, nm, qn, g.2.1.keep _ o hY ht ho, r⟩, gs, hg.trans hgs, fun s'' g'' => hgo s'' ⟨g''.1, g.2.1.trans g''.2.1, g''.2.2⟩⟩
theorem gen_next (W : Wld c) {n : Nat} (hl : LimN n c) (D : GenD) {m : Nat} {s : Shared} (hG : c.G s.heap) (hal : AL D.Ym s.heap) (hgo : D.Go c (m + 1) s) (hW : ¬ D.Wg D.Ig) (ht : ¬ tb D.Ig) :
    wpAny (model c.prog c.w) c.A (pyNext (.ref D.Ig)) (fun r s' => ∃ t, r = some (.int (D.yv m) t) ∧ Gg D.g D.Wg s s' ∧ c.G s'.heap ∧ (D.cont m = true → D.Go c m s')) noE s := by
  obtain ⟨hg, gs, hgs, hgo⟩ := hgo
  refine pyNext_gen (P := D.P) (Y := D.Y c) hl.hand (W.lim _ hG) hl.room hg hgs (hgo (s.setGen D.g .running) ⟨hG, .refl _, hal⟩) (fun v s₁ gs' hb hy => ?_) (fun s₁ hp h' hk => ?_)
  · obtain ⟨⟨t, rfl⟩, g₁, hG₁, hal1, hk⟩ := hy
    have hlt : D.g < s.gens.size := by
      rcases Nat.lt_or_ge D.g s.gens.size with h' | h'
      · exact h'
      · rw [Array.getElem?_eq_none h'] at hgs; cases hgs
    have hlt1 : D.g < s₁.gens.size := Nat.lt_of_lt_of_le hlt (by have := g₁.bare.2.1; simpa [Shared.setGen] using this)
    refine ⟨t, rfl, ((setGen_gg s .running rfl).trans (.of g₁)).trans (setGen_gg s₁ gs' hb), hG₁, fun hc => ⟨?_, gs', by simp [Shared.setGen, hlt1], fun s'' hi'' => hk hc s'' hi''⟩⟩
    obtain ⟨o, nm, qn, ho, r⟩ := hg
    exact ⟨o, nm, qn, g₁.kp.keep _ o hW ht ho, r⟩
  · exact absurd hp.1 (Nat.succ_ne_zero m)
theorem gen_done (W : Wld c) {n : Nat} (hl : LimN n c) (D : GenD) {s : Shared} (hG : c.G s.heap) (hal : AL D.Ym s.heap) (hgo : D.Go c 0 s) (hcont : D.cont 0 = true) :
    wpAny (model c.prog c.w) c.A (pyNext (.ref D.Ig)) (fun r s' => r = none ∧ Gg D.g D.Wg s s') noE s := by
  obtain ⟨hg, gs, hgs, hgo⟩ := hgo
  refine pyNext_gen (P := D.P) (Y := D.Y c) hl.hand (W.lim _ hG) hl.room hg hgs (hgo (s.setGen D.g .running) ⟨hG, .refl _, hal⟩) (fun v s₁ gs' hb hy => ?_) (fun s₁ hp h' hk => ?_)
  · obtain ⟨_, _, hG₁, hal1, hk⟩ := hy
    exact (hk hcont s₁ ⟨hG₁, .refl _, hal1⟩).elim
  · obtain ⟨_, _, g₁⟩ := hp
    refine ⟨rfl, (((setGen_gg s .running rfl).trans (.of g₁)).trans (setGen_gg s₁ .finished rfl)).trans ⟨.every hk, rfl, fun x => x, Nat.le_refl _, fun _ _ _ => rfl⟩⟩
end
end Mine
namespace Mine
open PySem PySem.Spec PySem.Calls PyProof.Rows PySem.W
section
variable {c : Cx} {sc : Scope} {ρ : Str → Option D}
theorem Ev.globI {f : Str} {pos : Pos} {i : Int} {t : Tok} (g : GlobIs c f (.int i t)) (hk : sc.names.lookup f = some .globalImplicit) (hd : (f == ("__debug__" : Str)) = false := by decide) : Ev c sc ρ (.Name f pos) (.int i) := fun X env s hs hG eo =>
  g.load hG eo.kind eo.glob eo.blt (by unfold Env.kindOf; rw [hs]; exact hk) hd ⟨.refl s, .int i t⟩
def LSt (I l : Addr) (vs : Array Value) (ds : List D) : (Addr → Prop) → List D → Heap → Prop := wSt ds (fun i v => vs[i]? = some v) (fun i h => h.IsListIter I l i ∧ h.IsList l vs)
theorem it_list (hh : c.A.handled = none) {I l : Addr} {vs : Array Value} {ds : List D} (hne : l ≠ I) (hsz : vs.size = ds.length) (hI : ¬ tb I) (hl : ¬ tb l) : It c anyT I (· ∈ [I, l]) (· ∈ [I]) (LSt I l vs ds) :=
  It.walks (Walks.list hh I l hne vs) ds hsz.symm (fun b hb => by
    have : b = I ∨ b = l := by simpa using hb
    rcases this with rfl | rfl
    · exact hI
    · exact hl) (fun i h st b hb => let ⟨o, ho, _⟩ := st.1; ⟨o, (List.mem_singleton.mp hb) ▸ ho⟩) go_list

def giBody : List Stmt := match bodyOf (stAt 10) with
  | [_, .For _ _ b _ _] => b
  | _ => []
def giTgt : Expr := match bodyOf (stAt 10) with
  | [_, .For t _ _ _ _] => t
  | _ => default

/-- the frame of the generator, as it waits or runs -/
structure GF (c : Cx) (env : Env) (Xg : Addr → Prop) (I l : Addr) (vs : Array Value) (ds : List D) : Prop where
  hs : env.scope = scopeOf (stAt 10)
  hcs : env.cells = []
  IX : Xg I
  lX : ¬ Xg l
  IL : I ≠ env.locals
  It : ¬ tb I
  hsz : vs.size = ds.length
def WgOf (env : Env) (I : Addr) : Addr → Prop := fun a => a = env.locals ∨ a = I
/-- at the loop's head -/
structure LS (c : Cx) (env : Env) (Xg : Addr → Prop) (I l : Addr) (vs : Array Value) (ds rem : List D) (lst : D) (h : Heap) : Prop where
  G : c.G h
  eo : EnvOk Xg env h (af [("last_interval", lst)])
  st : LSt I l vs ds Xg rem h
/-- at a yield of the loop's body -/
structure IS (c : Cx) (env : Env) (Xg : Addr → Prop) (I l : Addr) (vs : Array Value) (ds rem : List D) (iv : Int) (lst : D) (h : Heap) : Prop where
  G : c.G h
  eo : EnvOk Xg env h (af [("last_interval", lst), ("interval", .int iv)])
  st : LSt I l vs ds Xg rem h

variable {env : Env} {Xg : Addr → Prop} {I l : Addr} {vs : Array Value} {ds : List D} {R : GenEnd} {Y : Protocol} {m : Nat} {s₀ s : Shared} {fs : List Frame}
theorem GF.own (F : GF c env Xg I l vs ds) {a : Addr} (h : Own env a) : a = env.locals := by
  rcases h with q | ⟨p, hp, _⟩
  · exact q
  · rw [F.hcs] at hp; cases hp
theorem GF.ownN (F : GF c env Xg I l vs ds) : ∀ x, OwnN env x := fun x c' hc' => by rw [F.hcs] at hc'; cases hc'

/-- one turn to the loop's body: the next, bound -/
theorem g_take (W : Wld c) {code : Code} (hl : Lim (c.og code fs)) (F : GF c env Xg I l vs ds) {iv : Int} {rem : List D} {lst : D} (hlt : ¬ tb l) (L : LS c env Xg I l vs ds (.int iv :: rem) lst s.heap) {Q : Shared → Prop}
    (h : ∀ s₂, Gw (WgOf env I) s s₂ → IS c env Xg I l vs ds rem iv lst s₂.heap → Q s₂) :
    wpAny (model c.prog c.w) (c.og code fs).A (pyNext (.ref I)) (fun r s' => match r with
      | none => False
      | some v => wpAny (model c.prog c.w) (c.og code fs).A (letOwnedTupleGo giTgt (.ref I) v) (fun _ s₁ => wpAny (model c.prog c.w) (c.og code fs).A (assign giTgt env v) (fun _ s₂ => Q s₂) noE s₁) noE s') noE s := by
  have hne : l ≠ I := fun z => F.lX (z ▸ F.IX)
  have T := it_list (c := c.og code fs) hl.hand hne F.hsz F.It hlt
  refine wp_up (T.next Xg (.int iv) rem s (fun b hb => (show b = I by simpa using hb) ▸ F.IX) L.eo.xt L.eo.al L.st) fun r s' h₁ => ?_
  obtain ⟨v, rfl, g₁, r₁, hgo⟩ := h₁
  refine wp_up (hgo giTgt (.inl ⟨_, _, rfl⟩)) fun _ s₁ h₂ => ?_
  obtain ⟨g₂, st₂⟩ := h₂
  have KG := W.KG
  have wI : ∀ b, b ∈ [I] → b = I := fun b hb => by simpa using hb
  have g₁₂ := g₁.trans g₂
  have xhi := L.eo.xt.hi
  have hG₁ : c.G s₁.heap := KG.apart _ _ _ (fun a ha => xhi a (wI a ha ▸ F.IX)) L.G g₁₂.kp
  have nO : ∀ b, b ∈ [I] → ¬ Own env b := fun b hb z => F.IL (wI b hb ▸ F.own z)
  have eo₁ : EnvOk Xg env s₁.heap (af [("last_interval", lst)]) := L.eo.leaveA KG hG₁ g₁₂ (fun a ha => ⟨wI a ha ▸ F.IX, nO a ha⟩) (fun _ q => q) (fun a q => (own_X L.eo q).1) L.eo.xt fun a ha _ => T.ex _ _ _ st₂ a ha
  have r₂ := r₁.gw L.eo.xt (g₂.wide fun a q => wI a q ▸ F.IX)
  have hgt : giTgt = .Name "interval" (match giTgt with | .Name _ p => p | _ => default) := rfl
  rw [hgt]
  refine wpAny_assign_Name (store_ok eo₁ r₂ (by unfold Env.kindOf; rw [F.hs]; exact .inl rfl) rfl fun s₂ eo₂ g₃ => ?_)
  have g₃' : Gw (Own env) s₁ s₂ := g₃.wide fun a ha => by
    rcases ha with rfl | ⟨c, q, rfl⟩
    · exact .inl rfl
    · exact .inr ⟨_, mem_of_lookup q, rfl⟩
  refine h s₂ ((g₁₂.wide fun a q => .inr (wI a q)).trans (g₃'.wide fun a q => .inl (F.own q))) ⟨apart_own KG L.eo hG₁ g₃', eo₂.sub (sub_af ⟨rfl, rfl, trivial⟩), T.frame _ _ _ _ L.eo.xt st₂ fun b o hb ht q => g₃'.kp.keep b o (fun z => ?_) ht q⟩
  have z' := F.own z
  rcases hb with hb | hb
  · exact hb (z' ▸ L.eo.locX)
  · have : b = I ∨ b = l := by simpa using hb
    rcases this with e | e
    · exact F.IL (e ▸ z')
    · exact F.lX (by rw [← e, z']; exact L.eo.locX)
end
end Mine
namespace Mine
open PySem PySem.Spec PySem.Calls PyProof.Rows PySem.W
section
variable {c : Cx} {sc : Scope} {ρ : Str → Option D}
variable {env : Env} {Xg : Addr → Prop} {I l : Addr} {vs : Array Value} {ds : List D} {R : GenEnd} {Y : Protocol} {m : Nat} {s₀ s : Shared} {fs : List Frame}
theorem EvT.run {c : Cx} {sc : Scope} {ρ : Str → Option D} {e : Expr} {b : Bool} (h : EvT c sc ρ e b) : ∀ (X : Addr → Prop) (env : Env) (s : Shared), env.scope = sc → c.G s.heap → EnvOk X env s.heap ρ → wpAny (model c.prog c.w) c.A (isTrue e env (eval e env)) (fun r s' => Gw noX s s' ∧ r = b) noE s := h
theorem Ev.run {c : Cx} {sc : Scope} {ρ : Str → Option D} {e : Expr} {d : D} (h : Ev c sc ρ e d) : ∀ (X : Addr → Prop) (env : Env) (s : Shared), env.scope = sc → c.G s.heap → EnvOk X env s.heap ρ → wpAny (model c.prog c.w) c.A (eval e env) (fun v s' => Gw noX s s' ∧ Rd X s'.heap v d) noE s := h
def fcode (env : Env) (I : Addr) : Code := .forLoop giTgt (.ref I) giBody [] env

theorem Wld.og {c : Cx} (W : Wld c) (code : Code) (fs : List Frame) : Wld (c.og code fs) := W.at' _

theorem LSt.frame' {X : Addr → Prop} {rem : List D} {h h' : Heap} (xt : XT X) (hI : ¬ tb I) (hl : ¬ X l) (st : LSt I l vs ds X rem h) (k : ∀ b o, (¬ X b ∨ b = I) → ¬ tb b → h.get? b = some o → h'.get? b = some o) : LSt I l vs ds X rem h' := by
  obtain ⟨i, ⟨s1, s2⟩, e, hi, r⟩ := st
  have hlt : ¬ tb l := fun z => hl (xt.tbs _ z)
  exact ⟨i, ⟨s1.at fun o q => k I o (.inr rfl) hI q, s2.at fun o q => k l o (.inl hl) hlt q⟩, e, hi, fun j v d a b => (r j v d a b).mono fun b o hx q => k b o (.inl hx) (fun z => hx (xt.tbs _ z)) q⟩
theorem LSt.gw {rem : List D} (F : GF c env Xg I l vs ds) (xt : XT Xg) (st : LSt I l vs ds Xg rem s₀.heap) (g : Gw noX s₀ s) : LSt I l vs ds Xg rem s.heap :=
  st.frame' xt F.It F.lX fun b o _ ht q => g.kp.keep b o (fun z => z) ht q
theorem LSt.own {rem : List D} (F : GF c env Xg I l vs ds) {ρ : Str → Option D} {h₀ : Heap} (eo : EnvOk Xg env h₀ ρ) (st : LSt I l vs ds Xg rem s₀.heap) (g : Gw (Own env) s₀ s) : LSt I l vs ds Xg rem s.heap :=
  st.frame' eo.xt F.It F.lX fun b o hb ht q => g.kp.keep b o (fun z => by
    rcases hb with hb | hb
    · exact hb (own_X eo z).1
    · exact F.IL (hb ▸ F.own z)) ht q
theorem og_mk (c : Cx) (code : Code) (fs : List Frame) : (c.og code fs).G = c.G := rfl
/-- to the test of a nought -/
theorem g_head (W : Wld c) (hl : Lim (c.og (fcode env I) fs)) (F : GF c env Xg I l vs ds) {iv : Int} {rem : List D} {lst : D} (L : IS c env Xg I l vs ds rem iv lst s.heap) (h127 : iv ≠ 127) {rest : List Stmt} {H : Value → Sem Fin} {gd : Bool → Bool} {lv : List Value → List Value}
    (h : ∀ s', Gw (WgOf env I) s s' → IS c env Xg I l vs ds rem iv lst s'.heap → Seg (model c.prog c.w) c.A.in1 R Y m s₀ (fcode env I) ((execs (giBody.drop 1) env).wrap (loopK (fcode env I)) H gd lv) fs s') :
    Seg (model c.prog c.w) c.A.in1 R Y m s₀ (fcode env I) ((execs giBody env).wrap (loopK (fcode env I)) H gd lv) fs s := by
  obtain ⟨t, hc⟩ := W.cmax
  have W' := W.og (fcode env I) fs
  have hb : giBody = giBody.head! :: giBody.drop 1 := rfl
  rw [hb]
  refine seg_execs_cons (sg_if ?_)
  have he := CmpOk.eqI (c := c.og (fcode env I) fs) (a := iv) (b := 127)
  rw [beq_eq_false_iff_ne.mpr h127] at he
  refine wp_up (EvT.run (c := c.og (fcode env I) fs) (sc := scopeOf (stAt 10)) (ρ := af [("last_interval", lst), ("interval", .int iv)]) (EvT.cmp W'.KG (Ev.name rfl) (Ev.globI (t := t) hc rfl) he) Xg env s F.hs L.G L.eo) fun r s' h₁ => ?_
  obtain ⟨g, rfl⟩ := h₁
  exact seg_execs_nil (h s' g.none ⟨W.KG.keeps _ _ L.G g.kp, L.eo.gw W.KG g L.G, L.st.gw F L.eo.xt g⟩)

/-- a turn that tells its own -/
theorem g_turn (W : Wld c) (hl : Lim (c.og (fcode env I) fs)) (hfs : splitAtGen fs = none) (hfg : fs.any Frame.guarded = false) (F : GF c env Xg I l vs ds) {iv : Int} {rem : List D} {lst : D} (L : LS c env Xg I l vs ds (.int iv :: rem) lst s.heap) (h127 : iv ≠ 127) (h0 : iv ≠ 0)
    (hg₀ : Gw (WgOf env I) s₀ s)
    (hy : ∀ s' t, Gw (WgOf env I) s₀ s' → IS c env Xg I l vs ds rem iv lst s'.heap → ∀ kap : Resume → Shared → Prop, (∀ s'', IS c env Xg I l vs ds rem iv lst s''.heap → kap (.send .none) s'') → Y m s₀ (.int iv t) s' kap)
    (hn : ∀ s'' s₃, Gw (WgOf env I) s'' s₃ → LS c env Xg I l vs ds rem (.int iv) s₃.heap → Seg (model c.prog c.w) c.A.in1 R Y m s'' (fcode env I) ((model c.prog c.w).den (fcode env I)) fs s₃) :
    Seg (model c.prog c.w) c.A.in1 R Y (m + 1) s₀ (fcode env I) ((model c.prog c.w).den (fcode env I)) fs s := by
  have W' := W.og (fcode env I) fs
  have hlt : ¬ tb l := fun z => F.lX (L.eo.xt.tbs _ z)
  refine sg_fturn (wp_up (g_take W hl F hlt L (Q := fun s₂ => ∀ H gd lv, gd = id → Seg (model c.prog c.w) c.A.in1 R Y (m + 1) s₀ (fcode env I) ((execs giBody env).wrap (loopK (fcode env I)) H gd lv) fs s₂) fun s₂ g₂ L₂ H gd lv hgd => ?_) fun r s' h' => ?_)
  rotate_left
  · cases r with
    | none => exact h'.elim
    | some v => exact h'
  refine g_head W hl F L₂ h127 (rest := []) fun s₃ g₃ L₃ => ?_
  have hb : giBody.drop 1 = (giBody.drop 1).head! :: giBody.drop 2 := rfl
  rw [hb]
  refine seg_execs_cons (sg_if ?_)
  have he := CmpOk.eqI (c := c.og (fcode env I) fs) (a := iv) (b := 0)
  rw [beq_eq_false_iff_ne.mpr h0] at he
  refine wp_up (EvT.run (c := c.og (fcode env I) fs) (sc := scopeOf (stAt 10)) (ρ := af [("last_interval", lst), ("interval", .int iv)]) (EvT.cmp W'.KG (Ev.name rfl) .intC he) Xg env s₃ F.hs L₃.G L₃.eo) fun r s₄ h₄ => ?_
  obtain ⟨g₄, rfl⟩ := h₄
  have hG₄ := W.KG.keeps _ _ L₃.G g₄.kp
  have eo₄ := L₃.eo.gw W.KG g₄ L₃.G
  have st₄ := L₃.st.gw F L₃.eo.xt g₄
  refine seg_execs_nil ?_
  have hb2 : giBody.drop 2 = (giBody.drop 2).head! :: giBody.drop 3 := rfl
  show Seg _ _ _ _ _ _ _ ((execs (giBody.drop 2) env).wrap _ H gd lv) _ _
  rw [hb2]
  refine seg_execs_cons (sg_yield hfs (by rw [hgd]; rfl) hfg ?_ (by rw [F.hs]; rfl) (inter_fn eo₄.kind))
  refine wp_up (Ev.run (c := c.og (fcode env I) fs) (sc := scopeOf (stAt 10)) (ρ := af [("last_interval", lst), ("interval", .int iv)]) (Ev.name rfl) Xg env s₄ F.hs hG₄ eo₄) fun v s₅ h₅ => ?_
  obtain ⟨g₅, r₅⟩ := h₅
  obtain ⟨t, rfl⟩ := Rd.intInv (i := iv) r₅
  intro kap hk
  have gall := (((hg₀.trans g₂).trans g₃).trans g₄.none).trans g₅.none
  refine hy s₅ t gall ⟨W.KG.keeps _ _ hG₄ g₅.kp, eo₄.gw W.KG g₅ hG₄, st₄.gw F L.eo.xt g₅⟩ kap fun s'' L'' => hk s'' ?_
  show Seg _ _ _ _ _ _ _ ((execs (giBody.drop 3) env).wrap _ H gd lv) _ _
  have hb3 : giBody.drop 3 = (giBody.drop 3).head! :: [] := rfl
  rw [hb3]
  refine seg_execs_cons (sg_wp (wp_up (Ex.asg (c := c.og (fcode env I) fs) (sc := scopeOf (stAt 10)) (ρ := af [("last_interval", lst), ("interval", .int iv)]) W'.KG (Ev.name rfl) (ok1 rfl) (fun _ => rfl) Xg env s'' F.hs F.ownN L''.G L''.eo) fun f s₆ h₆ => ?_))
  obtain ⟨g₆, rfl, eo₆⟩ := h₆
  refine seg_execs_nil (seg_again rfl (hn s'' s₆ (g₆.wide fun a q => .inl (F.own q)) ⟨apart_own W.KG L''.eo L''.G g₆, eo₆.sub (sub_af ⟨rfl, trivial⟩), L''.st.own F L''.eo g₆⟩))

/-- the loop's end -/
theorem g_done (W : Wld c) (hl : Lim (c.og (fcode env I) fs)) (F : GF c env Xg I l vs ds) {lst : D} (L : LS c env Xg I l vs ds [] lst s.heap) (hg₀ : Gw (WgOf env I) s₀ s)
    (h : ∀ code s', Gw (WgOf env I) s₀ s' → Seg (model c.prog c.w) c.A.in1 R Y m s₀ code (.pure (.done .next)) fs s') :
    Seg (model c.prog c.w) c.A.in1 R Y m s₀ (fcode env I) ((model c.prog c.w).den (fcode env I)) fs s := by
  have hlt : ¬ tb l := fun z => F.lX (L.eo.xt.tbs _ z)
  have T := it_list (c := c.og (fcode env I) fs) (vs := vs) (ds := ds) hl.hand (fun z : l = I => F.lX (z ▸ F.IX)) F.hsz F.It hlt
  refine sg_fturn (wp_up (T.done Xg s L.st) fun r s' h' => ?_)
  obtain ⟨rfl, g⟩ := h'
  exact sg_block (h _ s' (hg₀.trans (g.wide fun a q => .inr (by simpa using q))))

/-- a turn that ends it all -/
theorem g_stop (W : Wld c) (hl : Lim (c.og (fcode env I) fs)) (F : GF c env Xg I l vs ds) {rem : List D} {lst : D} (L : LS c env Xg I l vs ds (.int 127 :: rem) lst s.heap) (hg₀ : Gw (WgOf env I) s₀ s)
    (h : ∀ code s', Gw (WgOf env I) s₀ s' → Seg (model c.prog c.w) c.A.in1 R Y m s₀ code (.pure (.done (.ret .none))) fs s') :
    Seg (model c.prog c.w) c.A.in1 R Y m s₀ (fcode env I) ((model c.prog c.w).den (fcode env I)) fs s := by
  obtain ⟨t, hc⟩ := W.cmax
  have W' := W.og (fcode env I) fs
  have hlt : ¬ tb l := fun z => F.lX (L.eo.xt.tbs _ z)
  refine sg_fturn (wp_up (g_take W hl F hlt L (Q := fun s₂ => ∀ H gd lv, gd = id → Seg (model c.prog c.w) c.A.in1 R Y m s₀ (fcode env I) ((execs giBody env).wrap (loopK (fcode env I)) H gd lv) fs s₂) fun s₂ g₂ L₂ H gd lv hgd => ?_) fun r s' h' => ?_)
  rotate_left
  · cases r with
    | none => exact h'.elim
    | some v => exact h'
  have hb : giBody = giBody.head! :: giBody.drop 1 := rfl
  rw [hb]
  refine seg_execs_cons (sg_if ?_)
  have he := CmpOk.eqI (c := c.og (fcode env I) fs) (a := 127) (b := 127)
  refine wp_up (EvT.run (c := c.og (fcode env I) fs) (sc := scopeOf (stAt 10)) (ρ := af [("last_interval", lst), ("interval", .int 127)]) (b := true) (EvT.cmp W'.KG (Ev.name rfl) (Ev.globI (t := t) hc rfl) he) Xg env s₂ F.hs L₂.G L₂.eo) fun r s₃ h₃ => ?_
  obtain ⟨g₃, rfl⟩ := h₃
  exact seg_execs_cons (sg_retN (h _ s₃ ((hg₀.trans g₂).trans g₃.none)))
end
end Mine
namespace Mine
open PySem PySem.Spec PySem.Calls PyProof.Rows PySem.W
theorem lim_og {c : Cx} {n : Nat} (hl : LimN (n + 1) c) {code : Code} {fs : List Frame} (hm : (marksOver fs (none, none)).1 = none) (hd : frameCount (fs.map Frame.where_) + code.weight ≤ 1) (hu : unitsOf (fs.map Frame.where_) + code.cUnits ≤ 8) : Lim (c.og code fs) := by
  refine ⟨?_, ?_, ?_⟩
  · show (marksOver fs (c.A.handled, c.A.handled)).1 = none
    rw [hl.hand]; exact hm
  · have := hl.depth
    show c.A.depth + frameCount (fs.map Frame.where_) + code.weight + 20 < _
    omega
  · have := hl.units
    show c.A.units + 1 + unitsOf (fs.map Frame.where_) + code.cUnits + 1000 < _
    omega
section
variable {c : Cx} {sc : Scope} {ρ : Str → Option D}
variable {env : Env} {Xg : Addr → Prop} {I l : Addr} {vs : Array Value} {ds : List D} {R : GenEnd} {Y : Protocol} {m : Nat} {s₀ s : Shared} {fs : List Frame}

structure WS (c : Cx) (env : Env) (Xg : Addr → Prop) (a : Int) (h : Heap) : Prop where
  G : c.G h
  eo : EnvOk Xg env h (af [("last_interval", .int a)])
def wSt' : Stmt := match giBody with
  | [_, .If _ [_, w] _ _, _, _] => w
  | _ => .Pass default
def wTest : Expr := match wSt' with | .While t _ _ _ => t | _ => default
def wBody : List Stmt := match wSt' with | .While _ b _ _ => b | _ => []
def wcode (env : Env) : Code := .whileLoop wTest wBody [] env
theorem w_loop (W : Wld c) (hl : Lim (c.og (wcode env) fs)) (hfs : splitAtGen fs = none) (hfg : fs.any Frame.guarded = false) (F : GF c env Xg I l vs ds) {a : Int}
    (hy : ∀ m s₀ s' t, Gw (WgOf env I) s₀ s' → WS c env Xg a s'.heap → ∀ kap : Resume → Shared → Prop, (0 < m → ∀ s'', WS c env Xg a s''.heap → kap (.send .none) s'') → Y m s₀ (.int a t) s' kap) :
    ∀ m s₀ s, Gw (WgOf env I) s₀ s → WS c env Xg a s.heap → Seg (model c.prog c.w) c.A.in1 R Y (m + 1) s₀ (wcode env) ((model c.prog c.w).den (wcode env)) fs s := by
  have W' := W.og (wcode env) fs
  intro m
  induction m with
  | zero =>
    intro s₀ s g L
    refine sg_wturn (wp_up (EvT.run (c := c.og (wcode env) fs) (sc := scopeOf (stAt 10)) (ρ := af [("last_interval", .int a)]) (EvT.bool Ev.boolC) Xg env s F.hs L.G L.eo) fun r s₁ h₁ => ?_)
    obtain ⟨g₁, rfl⟩ := h₁
    refine ⟨rfl, fun H gd lv hgd => ?_⟩
    have hG₁ := W.KG.keeps _ _ L.G g₁.kp
    have eo₁ := L.eo.gw W.KG g₁ L.G
    have hb : wBody = wBody.head! :: [] := rfl
    rw [hb]
    refine seg_execs_cons (sg_yield hfs (by rw [hgd]; rfl) hfg ?_ (by rw [F.hs]; rfl) (inter_fn eo₁.kind))
    refine wp_up (Ev.run (c := c.og (wcode env) fs) (sc := scopeOf (stAt 10)) (ρ := af [("last_interval", .int a)]) (Ev.name rfl) Xg env s₁ F.hs hG₁ eo₁) fun v s₅ h₅ => ?_
    obtain ⟨g₅, r₅⟩ := h₅
    obtain ⟨t, rfl⟩ := Rd.intInv (i := a) r₅
    intro kap hk
    exact hy 0 s₀ s₅ t ((g.trans g₁.none).trans g₅.none) ⟨W.KG.keeps _ _ hG₁ g₅.kp, eo₁.gw W.KG g₅ hG₁⟩ kap fun z => absurd z (Nat.lt_irrefl 0)
  | succ m ih =>
    intro s₀ s g L
    refine sg_wturn (wp_up (EvT.run (c := c.og (wcode env) fs) (sc := scopeOf (stAt 10)) (ρ := af [("last_interval", .int a)]) (EvT.bool Ev.boolC) Xg env s F.hs L.G L.eo) fun r s₁ h₁ => ?_)
    obtain ⟨g₁, rfl⟩ := h₁
    refine ⟨rfl, fun H gd lv hgd => ?_⟩
    have hG₁ := W.KG.keeps _ _ L.G g₁.kp
    have eo₁ := L.eo.gw W.KG g₁ L.G
    have hb : wBody = wBody.head! :: [] := rfl
    rw [hb]
    refine seg_execs_cons (sg_yield hfs (by rw [hgd]; rfl) hfg ?_ (by rw [F.hs]; rfl) (inter_fn eo₁.kind))
    refine wp_up (Ev.run (c := c.og (wcode env) fs) (sc := scopeOf (stAt 10)) (ρ := af [("last_interval", .int a)]) (Ev.name rfl) Xg env s₁ F.hs hG₁ eo₁) fun v s₅ h₅ => ?_
    obtain ⟨g₅, r₅⟩ := h₅
    obtain ⟨t, rfl⟩ := Rd.intInv (i := a) r₅
    intro kap hk
    refine hy (m + 1) s₀ s₅ t ((g.trans g₁.none).trans g₅.none) ⟨W.KG.keeps _ _ hG₁ g₅.kp, eo₁.gw W.KG g₅ hG₁⟩ kap fun _ s'' L'' => hk s'' ?_
    exact seg_execs_nil (seg_again rfl (ih s'' s'' (.refl _) L''))

/-- a nought, after another: that one, for ever -/
theorem g_zero (W : Wld c) (hl : Lim (c.og (fcode env I) fs)) (hlw : ∀ k l' p, Lim (c.og (wcode env) (.ret k none false l' (fcode env I) p [] :: fs))) (hfs : splitAtGen fs = none) (hfg : fs.any Frame.guarded = false) (F : GF c env Xg I l vs ds) {rem : List D} {a : Int} (L : LS c env Xg I l vs ds (.int 0 :: rem) (.int a) s.heap)
    (hg₀ : Gw (WgOf env I) s₀ s)
    (hy : ∀ m s₀ s' t, Gw (WgOf env I) s₀ s' → WS c env Xg a s'.heap → ∀ kap : Resume → Shared → Prop, (0 < m → ∀ s'', WS c env Xg a s''.heap → kap (.send .none) s'') → Y m s₀ (.int a t) s' kap) :
    Seg (model c.prog c.w) c.A.in1 R Y (m + 1) s₀ (fcode env I) ((model c.prog c.w).den (fcode env I)) fs s := by
  have W' := W.og (fcode env I) fs
  have hlt : ¬ tb l := fun z => F.lX (L.eo.xt.tbs _ z)
  refine sg_fturn (wp_up (g_take W hl F hlt L (Q := fun s₂ => ∀ H gd lv, gd = id → Seg (model c.prog c.w) c.A.in1 R Y (m + 1) s₀ (fcode env I) ((execs giBody env).wrap (loopK (fcode env I)) H gd lv) fs s₂) fun s₂ g₂ L₂ H gd lv hgd => ?_) fun r s' h' => ?_)
  rotate_left
  · cases r with
    | none => exact h'.elim
    | some v => exact h'
  refine g_head W hl F L₂ (by decide) (rest := []) fun s₃ g₃ L₃ => ?_
  have hb : giBody.drop 1 = (giBody.drop 1).head! :: giBody.drop 2 := rfl
  rw [hb]
  refine seg_execs_cons (sg_if ?_)
  have he := CmpOk.eqI (c := c.og (fcode env I) fs) (a := 0) (b := 0)
  refine wp_up (EvT.run (c := c.og (fcode env I) fs) (sc := scopeOf (stAt 10)) (ρ := af [("last_interval", .int a), ("interval", .int 0)]) (b := true) (EvT.cmp W'.KG (Ev.name rfl) .intC he) Xg env s₃ F.hs L₃.G L₃.eo) fun r s₄ h₄ => ?_
  obtain ⟨g₄, rfl⟩ := h₄
  have hG₄ := W.KG.keeps _ _ L₃.G g₄.kp
  have eo₄ := L₃.eo.gw W.KG g₄ L₃.G
  refine seg_execs_cons (sg_if ?_)
  refine wp_up (EvT.run (c := c.og (fcode env I) fs) (sc := scopeOf (stAt 10)) (ρ := af [("last_interval", .int a), ("interval", .int 0)]) (b := false) (EvT.cmp W'.KG (Ev.name rfl) .noneC (CmpOk.isNone fun X h v r e => by subst e; cases r)) Xg env s₄ F.hs hG₄ eo₄) fun r s₅ h₅ => ?_
  obtain ⟨g₅, rfl⟩ := h₅
  have hG₅ := W.KG.keeps _ _ hG₄ g₅.kp
  have eo₅ := eo₄.gw W.KG g₅ hG₄
  refine seg_execs_nil (seg_execs_cons (sg_while fun p => ?_))
  rw [hgd]
  refine w_loop W (hlw _ _ _) ?_ ?_ F hy m s₀ s₅ ((((hg₀.trans g₂).trans g₃).trans g₄.none).trans g₅.none) ⟨hG₅, eo₅.sub (sub_af ⟨rfl, trivial⟩)⟩
  · show (splitAtGen fs).map _ = none
    rw [hfs]; rfl
  · rw [List.any_cons, hfg]; rfl
end
end Mine
namespace Mine
open PySem PySem.Spec PySem.Calls PyProof.Rows PySem.W
section
variable {c : Cx} {sc : Scope} {ρ : Str → Option D}
variable {env : Env} {Xg : Addr → Prop} {I l : Addr} {vs : Array Value} {ds : List D} {R : GenEnd} {Y : Protocol} {m : Nat} {s₀ s : Shared} {fs : List Frame}

theorem EnvOk.rel (s₀ : Shared) {X Ym : Addr → Prop} {h h' : Heap} (KG : Known c.G) (e : EnvOk X env h ρ) (hG' : c.G h') (k : Kp Ym h h') (hY : ∀ b, Ym b → X b ∧ ¬ Own env b) (hal : AL Ym h') : EnvOk X env h' ρ :=
  e.leaveA (c := c) (s := { s₀ with heap := h }) (s' := { s₀ with heap := h' }) KG hG' (.heap (tk := s₀.toks) k) hY (fun _ q => q) (fun a q => (own_X e q).1) e.xt fun a ha _ => hal a ha

structure YmOk (D : GenD) (env : Env) (Xg : Addr → Prop) (I : Addr) : Prop where
  sub : ∀ b, D.Ym b → Xg b
  ne : ∀ b, D.Ym b → b ≠ env.locals ∧ b ≠ I ∧ ¬ tb b
theorem IS.rel (s₀ : Shared) (W : Wld c) {D : GenD} (F : GF c env Xg I l vs ds) (O : YmOk D env Xg I) {rem : List Mine.D} {iv : Int} {lst : Mine.D} {h h' : Heap} (L : IS c env Xg I l vs ds rem iv lst h) (g : D.Rel c h h') : IS c env Xg I l vs ds rem iv lst h' :=
  ⟨g.1, L.eo.rel s₀ W.KG g.1 g.2.1 (fun b hb => ⟨O.sub b hb, fun z => (O.ne b hb).1 (F.own z)⟩) g.2.2, L.st.frame' L.eo.xt F.It F.lX fun b o hb ht q => g.2.1.keep b o (fun z => by
    rcases hb with hb | hb
    · exact hb (O.sub b z)
    · exact (O.ne b z).2.1 hb) ht q⟩
theorem WS.rel (s₀ : Shared) (W : Wld c) {D : GenD} (F : GF c env Xg I l vs ds) (O : YmOk D env Xg I) {a : Int} {h h' : Heap} (L : WS c env Xg a h) (g : D.Rel c h h') : WS c env Xg a h' :=
  ⟨g.1, L.eo.rel s₀ W.KG g.1 g.2.1 (fun b hb => ⟨O.sub b hb, fun z => (O.ne b hb).1 (F.own z)⟩) g.2.2⟩

/-- what the loop of the generator must do, once it stands -/
structure LoopOk (c : Cx) (ds : List Mine.D) (yv : Nat → Int) (cont : Nat → Bool) (fin : Bool) (N : Nat) : Prop where
  go : ∀ (D : GenD) (env : Env) (Xg : Addr → Prop) (I l : Addr) (vs : Array Value) (fs : List Frame) (s₀ s : Shared), D.yv = yv → D.cont = cont → D.fin = fin → (∀ a, WgOf env I a → D.Wg a) → YmOk D env Xg I → splitAtGen fs = none → fs.any Frame.guarded = false →
    Lim (c.og (fcode env I) fs) → (∀ k l' p, Lim (c.og (wcode env) (.ret k none false l' (fcode env I) p [] :: fs))) →
    (∀ m s₀ s₁ code f, (f = .next ∨ f = .ret .none) → D.R m s₀ (.ok (.ret .none)) s₁ → Seg (model c.prog c.w) c.A.in1 D.R (D.Y c) m s₀ code (.pure (.done f)) fs s₁) →
    GF c env Xg I l vs ds → Gw (WgOf env I) s₀ s → LS c env Xg I l vs ds ds .none s.heap → Seg (model c.prog c.w) c.A.in1 D.R (D.Y c) N s₀ (fcode env I) ((model c.prog c.w).den (fcode env I)) fs s

theorem AL.of {D : GenD} (O : YmOk D env Xg I) {h : Heap} {ρ : Str → Option Mine.D} (eo : EnvOk Xg env h ρ) : AL D.Ym h := fun a ha => eo.al a (O.sub a ha)

/-- two, and then the end -/
theorem loop_two (W : Wld c) {a b : Int} {tail : List Int} (ha : a ≠ 127 ∧ a ≠ 0) (hb : b ≠ 127 ∧ b ≠ 0) (ht : tail = [] ∨ ∃ r, tail = 127 :: r) : LoopOk c ((a :: b :: tail).map .int) (fun m => if m = 0 then b else a) (fun _ => true) true 2 := by
  refine ⟨fun D env Xg I l vs fs s₀ s hyv hcont hfin hWg O hfs hfg hl hlw hexit F hg L => ?_⟩
  refine g_turn W hl hfs hfg F L ha.1 ha.2 hg (fun s' t g' L' kap hk => ⟨⟨t, by rw [hyv]; rfl⟩, g'.wide hWg, L'.G, AL.of O L'.eo, fun _ s'' rel => hk s'' (L'.rel s₀ W F O rel)⟩) fun s₁ s₂ g₁ L₁ => ?_
  refine g_turn W hl hfs hfg F L₁ hb.1 hb.2 g₁ (fun s' t g' L' kap hk => ⟨⟨t, by rw [hyv]; rfl⟩, g'.wide hWg, L'.G, AL.of O L'.eo, fun _ s'' rel => hk s'' (L'.rel s₀ W F O rel)⟩) fun s₃ s₄ g₃ L₃ => ?_
  rcases ht with rfl | ⟨r, rfl⟩
  · exact g_done W hl F L₃ g₃ fun code s' g' => hexit _ _ _ _ _ (.inl rfl) ⟨rfl, rfl, hfin, g'.wide hWg⟩
  · exact g_stop W hl F L₃ g₃ fun code s' g' => hexit _ _ _ _ _ (.inr rfl) ⟨rfl, rfl, hfin, g'.wide hWg⟩
/-- one, and that for ever -/
theorem loop_ever (W : Wld c) {a : Int} {tail : List Int} (ha : a ≠ 127 ∧ a ≠ 0) : LoopOk c ((a :: 0 :: tail).map .int) (fun _ => a) (fun m => decide (0 < m)) false 4 := by
  refine ⟨fun D env Xg I l vs fs s₀ s hyv hcont hfin hWg O hfs hfg hl hlw hexit F hg L => ?_⟩
  refine g_turn W hl hfs hfg F L ha.1 ha.2 hg (fun s' t g' L' kap hk => ⟨⟨t, by rw [hyv]⟩, g'.wide hWg, L'.G, AL.of O L'.eo, fun _ s'' rel => hk s'' (L'.rel s₀ W F O rel)⟩) fun s₁ s₂ g₁ L₁ => ?_
  exact g_zero W hl hlw hfs hfg F L₁ g₁ fun m s₀' s' t g' L' kap hk => ⟨⟨t, by rw [hyv]⟩, g'.wide hWg, L'.G, AL.of O L'.eo, fun hc s'' rel => hk (by rw [hcont] at hc; simpa using hc) s'' (L'.rel s₀ W F O rel)⟩
end
end Mine
namespace Mine
open PySem PySem.Spec PySem.Calls PyProof.Rows PySem.W
section
variable {c : Cx} {sc : Scope} {ρ : Str → Option D}
variable {env : Env} {Xg : Addr → Prop} {I l : Addr} {vs : Array Value} {ds : List D} {R : GenEnd} {Y : Protocol} {m : Nat} {s₀ s : Shared} {fs : List Frame}

/-- the generator's body, from its start -/
theorem g_start (W : Wld c) {n : Nat} (hl : LimN (n + 1) c) {D : GenD} {X₀ : Addr → Prop} {yv : Nat → Int} {cont : Nat → Bool} {fin : Bool} {N : Nat} (Lp : LoopOk c ds yv cont fin N) (hyv : D.yv = yv) (hcont : D.cont = cont) (hfin : D.fin = fin)
    (hs : env.scope = scopeOf (stAt 10)) (hcs : env.cells = []) (hG : c.G s.heap) (eo : EnvOk X₀ env s.heap (af [("grouping", .list ds)])) (hY : ∀ b, D.Ym b → X₀ b ∧ b ≠ env.locals ∧ ¬ tb b) (hWL : D.Wg env.locals) (hWn : ∀ a, s.heap.get? a = none → low ≤ a → D.Wg a) :
    Seg (model c.prog c.w) c.A.in1 D.R (D.Y c) N s (.func (bodyOf (stAt 10)) env) ((model c.prog c.w).den (.func (bodyOf (stAt 10)) env)) [] s := by
  have KG := W.KG
  have W' := W.og (.func (bodyOf (stAt 10)) env) []
  have hlf : Lim (c.og (.func (bodyOf (stAt 10)) env) []) := lim_og hl rfl (Nat.le_of_ble_eq_true rfl) (Nat.le_of_ble_eq_true rfl)
  have hn : ∀ x, OwnN env x := fun x c' hc' => by rw [hcs] at hc'; cases hc'
  have hown : ∀ a, Own env a → a = env.locals := fun a ha => by
    rcases ha with q | ⟨p, hp, _⟩
    · exact q
    · rw [hcs] at hp; cases hp
  refine seg_func ?_
  have hb : bodyOf (stAt 10) = (bodyOf (stAt 10)).head! :: (bodyOf (stAt 10)).drop 1 := rfl
  generalize hfc : Code.func (bodyOf (stAt 10)) env = fc at *
  rw [hb]
  refine seg_execs_cons (sg_wp (wp_up (Ex.asg (c := c.og fc []) (sc := scopeOf (stAt 10)) (ρ := af [("grouping", .list ds)]) W'.KG Ev.noneC (ok1 rfl) (fun _ => rfl) X₀ env s hs hn hG eo) fun f s₁ h₁ => ?_))
  obtain ⟨g₁, rfl, eo₁⟩ := h₁
  have hG₁ : c.G s₁.heap := apart_own KG eo hG g₁
  have hb2 : (bodyOf (stAt 10)).drop 1 = [((bodyOf (stAt 10)).drop 1).head!] := rfl
  show Seg _ _ _ _ _ _ _ ((execs ((bodyOf (stAt 10)).drop 1) env).wrap _ _ _ _) _ _
  rw [hb2]
  refine seg_execs_cons (sg_for (fun _ => rfl) ?_)
  refine wp_up (Ev.run (c := c.og fc []) (sc := scopeOf (stAt 10)) (ρ := upd (af [("grouping", .list ds)]) "last_interval" .none) (Ev.name rfl) X₀ env s₁ hs hG₁ eo₁) fun v s₂ h₂ => ?_
  obtain ⟨g₂, r₂⟩ := h₂
  obtain ⟨l, vs, nl, rfl, hlX, e1, ra⟩ := Rd.listInv (ds := ds) r₂
  have hI : s₂.heap.IsList l vs := ⟨_, e1, rfl, nl, rfl⟩
  have hG₂ := KG.keeps _ _ hG₁ g₂.kp
  have eo₂ := eo₁.gw KG g₂ hG₁
  have hsz : vs.size = ds.length := by have := ra.1; simpa using this
  refine wpAny_pyIter_list hI fun p => ?_
  have hnew : s₂.heap.get? s₂.heap.objs.size = none := size_none _ (Nat.le_refl _)
  have hnt : ¬ tb s₂.heap.objs.size := fresh_ntb KG hG₂ hnew
  have big : @LE.le Nat _ low s₂.heap.objs.size := KG.big _ hG₂
  have hXI : ¬ X₀ s₂.heap.objs.size := eo₂.xok.fresh
  have g₀₂ : Gw (Own env) s s₂ := g₁.trans g₂.none
  have sn : s.heap.get? s₂.heap.objs.size = none := by
    cases e : s.heap.get? s₂.heap.objs.size with
    | none => rfl
    | some o =>
      have := g₀₂.kp.keep _ o (fun z => hXI (own_X eo z).1) hnt e
      rw [hnew] at this; cases this
  generalize hIi : s₂.heap.objs.size = I at *
  have kp : ∀ b o, s₂.heap.get? b = some o → (s₂.heap.push { cls := .type "list_iterator", data := .fields #[.ref l, .int 0 0] }).get? b = some o := fun b o q => Heap.get?_push_of_some _ q
  have eo₃ : EnvOk (fun a => X₀ a ∨ a = I) env (s₂.heap.push { cls := .type "list_iterator", data := .fields #[.ref l, .int 0 0] }) (af [("last_interval", .none)]) := by
    refine (eo₂.grow ⟨fun b hb => .inl (eo.xt.tbs b hb), fun a ha => ha.elim (eo.xt.hi a) fun (z : a = I) => .inr (by rw [z]; exact big)⟩ (fun b o _ q => kp b o q) (fun a q => .inl q) (fun a ha => ?_) fun a ha => ha.imp id fun (z : a = I) => by rw [z]; exact hnew).sub (sub_af ⟨rfl, trivial⟩)
    rcases ha with q | q
    · obtain ⟨o, ho⟩ := eo₂.al a q; exact ⟨o, kp _ _ ho⟩
    · have q' : a = I := q
      exact ⟨_, q' ▸ hIi ▸ Heap.get?_push_size _ rfl⟩
  have hne : l ≠ I := by rw [← hIi]; exact Nat.ne_of_lt (Heap.lt_size e1)
  refine Lp.go D env (fun a => X₀ a ∨ a = I) I l vs _ s _ hyv hcont hfin (fun a ha => ?_) ⟨fun b hb => .inl (hY b hb).1, fun b hb => ⟨(hY b hb).2.1, fun z => hXI (z ▸ (hY b hb).1), (hY b hb).2.2⟩⟩ rfl rfl (lim_og hl rfl ?_ ?_) (fun k l' p => lim_og hl rfl ?_ ?_) (fun m s₀' s₁' code f hf hR => ?_) ⟨hs, hcs, .inr rfl, fun z => z.elim hlX hne, fun z => hXI (z ▸ eo.locX), hnt, hsz⟩ ?_ ⟨KG.keeps _ _ hG₂ (.every kp), eo₃, ?_⟩
  · rcases ha with rfl | rfl
    · exact hWL
    · exact hWn _ sn big
  · rw [← hfc]; exact Nat.le_of_ble_eq_true rfl
  · rw [← hfc]; exact Nat.le_of_ble_eq_true rfl
  · rw [← hfc]; exact Nat.le_of_ble_eq_true rfl
  · rw [← hfc]; exact Nat.le_of_ble_eq_true rfl
  · refine sg_leaveN (lv := []) ?_
    rcases hf with rfl | rfl
    · exact seg_execs_nil (seg_end (.ok (.ret .none)) hR)
    · exact seg_end (.ok (.ret .none)) hR
  · exact (g₀₂.wide fun a q => .inl (hown a q)).trans (.every (tk := s₂.toks) kp)
  · refine ⟨0, ⟨⟨_, hIi ▸ Heap.get?_push_size _ rfl, rfl, rfl⟩, hI.push _⟩, rfl, Nat.zero_le _, fun j v d a b => ?_⟩
    have r := ra.2 j v d (by simpa using a) b
    exact (r.more (X' := fun a => X₀ a ∨ a = I) fun a ha => ha.imp id fun (z : a = I) => by rw [z]; exact hnew).mono fun b o _ q => kp b o q
end
end Mine
namespace Mine
open PySem PySem.Spec PySem.Calls PyProof.Rows PySem.W
section
variable {c : Cx} {sc : Scope} {ρ : Str → Option D}
structure Made (c : Cx) (s s' : Shared) (D : GenD) (yv : Nat → Int) (cont : Nat → Bool) (fin : Bool) (N : Nat) (Ym : Addr → Prop) : Prop where
  yv : D.yv = yv
  cont : D.cont = cont
  fin : D.fin = fin
  Ym : D.Ym = Ym
  g : Gw noX s s'
  G : c.G s'.heap
  new : s.gens.size ≤ D.g
  wg : ∀ a, D.Wg a → s.heap.get? a = none ∧ ¬ tb a ∧ low ≤ a
  wI : ¬ D.Wg D.Ig
  tI : ¬ tb D.Ig
  yI : ¬ D.Ym D.Ig
  go : D.Go c N s'
theorem call_gi (W : Wld c) {n : Nat} (hl : LimN (n + 1) c) {ds : List D} {yv : Nat → Int} {cont : Nat → Bool} {fin : Bool} {N : Nat} (Lp : LoopOk c ds yv cont fin N) {Xc : Addr → Prop} {s : Shared} {v : Value} (hG : c.G s.heap) (xo : Xok Xc s.heap) (r : Rd Xc s.heap v (.list ds)) (Ym : Addr → Prop) (hYm : ∀ b, Ym b → Xc b ∧ ¬ tb b) :
    wpAny (model c.prog c.w) c.A (call (.ref 130) [v]) (fun u s' => ∃ D : GenD, u = .ref D.Ig ∧ Made c s s' D yv cont fin N Ym) noE s := by
  have KG := W.KG
  have hcl10 : ∀ x ∈ (scopeOf (stAt 10)).names, x.2 ≠ .cell := by decide
  obtain ⟨hlim, fo, doc, pm, an, ct, ho, hd, hcd⟩ := W.gi.f.get _ hG
  refine wpAny_call (codeAny_call_generator hl.room ho hd rfl rfl rfl hcd ?_)
  have hbind : bindArgs (fnX "_grouping_intervals" "_grouping_intervals" (argsOf (stAt 10)) (bodyOf (stAt 10)) (scopeOf (stAt 10)) [] .none .none doc pm an (.ref 129) ct) ⟨[v], []⟩ = pure [(("grouping" : Str), v)] := rfl
  rw [hbind]
  refine wpAny_pure (wpAny_newFunctionEnv hcl10 (fun x hx => (locs_of (sc := scopeOf (stAt 10)) (bs := [("grouping", v)]) rfl x hx).1) (fun h₁ hns hsb => ⟨hlim.fresh _ hsb, ?_⟩) rfl)
  have hk₁ : ∀ b o, s.heap.get? b = some o → h₁.get? b = some o := fun b o e => hsb.extBut b o (Nat.ne_of_lt (Heap.lt_size e)) (Heap.get?_push_of_some _ e)
  obtain ⟨eo, hLn, hLX⟩ := frame_ok KG (X := Xc) (binds := [("grouping", v)]) (ds := [.list ds]) (env := newEnv (scopeOf (stAt 10)) s.heap.objs.size mainGlobals [] ("_grouping_intervals" ++ ".<locals>.") (some 130) (.ref 129) none builtinsNs) hG xo rfl rfl rfl rfl rfl hns hk₁ (.one r) hcl10 (locs_of rfl)
  have hG₁ : c.G h₁ := KG.keeps _ _ hG (.every hk₁)
  generalize hE : newEnv (scopeOf (stAt 10)) s.heap.objs.size mainGlobals [] ("_grouping_intervals" ++ ".<locals>.") (some 130) (.ref 129) none builtinsNs = env at *
  have hEs : env.scope = scopeOf (stAt 10) := hE ▸ rfl
  have hEc : env.cells = [] := hE ▸ rfl
  have hEL : env.locals = s.heap.objs.size := hE ▸ rfl
  refine (show ∃ D : GenD, Value.ref h₁.objs.size = .ref D.Ig ∧ Made c s _ D yv cont fin N Ym from ?_)
  have hnI : h₁.get? h₁.objs.size = none := size_none _ (Nat.le_refl _)
  have kp : ∀ (o' : Obj) b o, h₁.get? b = some o → (h₁.push o').get? b = some o := fun o' b o q => Heap.get?_push_of_some _ q
  generalize hob : ({ cls := .type "generator", data := .fields #[.int s.gens.size 0, .str (fnX "_grouping_intervals" "_grouping_intervals" (argsOf (stAt 10)) (bodyOf (stAt 10)) (scopeOf (stAt 10)) [] .none .none doc pm an (.ref 129) ct).name (s.toks + [(Str.ofString "grouping", v)].length), .str (fnX "_grouping_intervals" "_grouping_intervals" (argsOf (stAt 10)) (bodyOf (stAt 10)) (scopeOf (stAt 10)) [] .none .none doc pm an (.ref 129) ct).qualname (s.toks + [(Str.ofString "grouping", v)].length + 1)] } : Obj) = ob
  have hobf : ob.isFreed = false := hob ▸ rfl
  have G₂ : c.G (h₁.push ob) := KG.keeps _ _ hG₁ (.every (kp ob))
  have hLa : ∃ o, h₁.get? env.locals = some o := by obtain ⟨mm, ⟨o, _, _, q, _⟩, _⟩ := eo.loc; exact ⟨o, q⟩
  have eo₂ : EnvOk (callX Xc env.locals) env (h₁.push ob) (af [("grouping", .list ds)]) :=
    (eo.gw (s := { s with heap := h₁ }) (s' := { s with heap := h₁.push ob }) KG (.every (tk := s.toks) (kp ob)) hG₁).sub (sub_af ⟨rfl, trivial⟩)
  refine ⟨⟨h₁.objs.size, s.gens.size, fun a => a = env.locals ∨ ((h₁.push ob).get? a = none ∧ low ≤ a), Ym, yv, cont, fin⟩, rfl, ⟨rfl, rfl, rfl, rfl, ⟨.every fun b o q => kp ob _ _ (hk₁ b o q), rfl, ?_⟩, G₂, Nat.le_refl _, fun a ha => ?_, fun z => ?_, fresh_ntb KG hG₁ hnI, fun z => ?_, ?_⟩⟩
  · refine ⟨fun hb => AllBare.push hb rfl, by simp, fun g hg => ?_⟩
    show (s.gens.push _)[g]? = _
    rw [Array.getElem?_push_lt hg, Array.getElem?_eq_getElem hg]
  · rcases ha with rfl | ha
    · exact ⟨hLn, eo.ntb, by rw [hEL]; exact KG.big _ hG⟩
    · obtain ⟨ha, hlow⟩ := ha
      refine ⟨?_, fresh_ntb KG G₂ ha, hlow⟩
      cases e : s.heap.get? a with
      | none => rfl
      | some o => rw [kp ob _ _ (hk₁ _ _ e)] at ha; cases ha
  · rcases z with z | z
    · obtain ⟨o, q⟩ := hLa
      have z' : h₁.objs.size = env.locals := z
      rw [← z', hnI] at q; cases q
    · have z' : (h₁.push ob).get? h₁.objs.size = none := z.1
      rw [Heap.get?_push_size _ hobf] at z'; cases z'
  · have z' : Ym h₁.objs.size := z
    obtain ⟨o, q⟩ := xo.al _ (hYm _ z').1
    have := hk₁ _ _ q
    rw [hnI] at this; cases this
  · refine ⟨⟨ob, _, _, Heap.get?_push_size _ hobf, by rw [← hob], by rw [← hob], by rw [← hob]⟩, .fresh (.func (bodyOf (stAt 10)) env), by simp, fun s'' rel => ⟨rfl, ?_⟩⟩
    obtain ⟨rG, rK, rA⟩ := rel
    have hOwn : ∀ a, Own env a → a = env.locals := fun a ha => by
      rcases ha with q | ⟨p, hp, _⟩
      · exact q
      · rw [hEc] at hp; cases hp
    have hYL : ∀ b, Ym b → b ≠ env.locals := fun b hb z => hLX (z ▸ (hYm b hb).1)
    refine g_start W hl Lp rfl rfl rfl hEs hEc rG (eo₂.rel s KG rG rK (fun b hb => ⟨.inl (hYm b hb).1, fun z => hYL b hb (hOwn b z)⟩) rA) (fun b hb => ⟨.inl (hYm b hb).1, hYL b hb, (hYm b hb).2⟩) (.inl rfl) fun a ha hlow => .inr ⟨?_, hlow⟩
    cases e : (h₁.push ob).get? a with
    | none => rfl
    | some o =>
      by_cases hy : Ym a
      · obtain ⟨o', q⟩ := rA a hy; rw [ha] at q; cases q
      · by_cases ht : tb a
        · obtain ⟨ps, q⟩ := KG.table _ rG a ht; rw [ha] at q; cases q
        · have := rK.keep a o hy ht e
          rw [ha] at this; cases this
end
end Mine
namespace Mine
open PySem PySem.Spec PySem.Calls PyProof.Rows PySem.W
section
variable {c : Cx} {sc : Scope} {ρ : Str → Option D}
def Flat (d : D) : Prop := ∀ (X X' : Addr → Prop) h h' v, Rd X h v d → Rd X' h' v d
theorem flat_int (i : Int) : Flat (.int i) := fun _ _ _ _ v r => by obtain ⟨t, rfl⟩ := r.intInv; exact .int i t
theorem flat_val (u : Value) : Flat (.val u) := fun _ _ _ _ v r => by cases r; exact .val _
theorem EnvOk.flat {X Y : Addr → Prop} {env : Env} {h h' : Heap} (e : EnvOk X env h ρ) (KG : Known c.G) (hG' : c.G h') (hcs : env.cells = []) (k : Kp Y h h') (hY : ∀ a, Y a → ¬ X a) (hf : ∀ x d, ρ x = some d → Flat d) : EnvOk X env h' ρ := by
  have kx : ∀ b o, X b → ¬ tb b → h.get? b = some o → h'.get? b = some o := fun b o hx ht q => k.keep b o (fun z => hY b z hx) ht q
  obtain ⟨m, hn, hm⟩ := e.loc
  refine ⟨e.kind, e.glob, e.blt, e.xt, fun a ha => ?_, e.ntb, e.locX, ⟨m, hn.at' fun o q => kx _ o e.locX e.ntb q, fun x d hx hk => ?_⟩, fun x d hx hk => ?_, fun p hp => ?_, e.apart, e.gl, e.hasC⟩
  · by_cases ht : tb a
    · obtain ⟨ps, q⟩ := KG.table _ hG' a ht; exact ⟨_, q⟩
    · obtain ⟨o, q⟩ := e.al a ha; exact ⟨o, kx _ _ ha ht q⟩
  · obtain ⟨v, hv, r⟩ := hm x d hx hk
    exact ⟨v, hv, hf x d hx _ _ _ _ _ r⟩
  · obtain ⟨_, c, v, h2, _⟩ := e.cel x d hx hk
    rw [hcs] at h2; cases h2
  · rw [hcs] at hp; cases hp

/-- the marks, one by one -/
noncomputable def accM : List Int → List Int → List Int
  | acc, [] => acc
  | acc, y :: ys => accM (acc ++ [acc.getLastD 0 + y]) ys

def mkFor : Stmt := match bodyOf (stAt 14) with | [_, f, _] => f | _ => .Pass default
def mkBody : List Stmt := match mkFor with | .For _ _ b _ _ => b | _ => []
def mkTgt : Expr := match mkFor with | .For t _ _ _ _ => t | _ => default
def mkρ (A : Addr) : Str → Option D := af [("marks", .val (.ref A))]

theorem Exm.appendI (KG : Known c.G) {nm : Str} {ds es : List D} {e : Expr} {d : D} {np apos cpos pos : Pos} (he : Ev c sc (upd ρ nm (.list ds)) e d) (hi : ∃ k, d = .int k) (hz : ds.length ≤ 1000) (hes : ds ++ [d] = es) (hline : (apos.endLine == cpos.line) = true := by rfl)
    (hst : ∀ env, starEach [e] env = (false, eval e env) :: starEach [] env := by intro _; rfl)
    (hbase : ∀ env, attributeBase (.Name nm np) "append" env (eval (.Name nm np) env) = eval (.Name nm np) env := by intro _; rfl)
    (hfew : ∀ env, ((backTo cpos (starEach [e] env)).all (fun x => !x.1) && (backToKw cpos (keywordEach [] env)).all (fun x => x.1.isSome) && decide ([e].length + ([] : List Keyword).length + (if ([] : List Keyword).isEmpty then 0 else 1) < 30)) = true := by intro _; rfl)
    (hsw : ∀ env, swapsWith (.Call (.Attribute (.Name nm np) "append" apos) [e] [] cpos) none pos.line env = pure false := by intro _; rfl) :
    Exm c sc nm ρ ds (.Expr (.Call (.Attribute (.Name nm np) "append" apos) [e] [] cpos) pos) (.next ρ es) := hes ▸ Exm.append KG he hi hz hline hst hbase hfew hsw

/-- one turn's body -/
theorem mk_body (W : Wld c) {n : Nat} (hl : LimN n c) {A : Addr} {acc : List Int} {y : Int} (hne : acc ≠ []) (hz : acc.length ≤ 10) :
    Exms c (scopeOf (stAt 14)) "marks" (af [("size", .int y), ("marks", .val (.ref A))]) (acc.map .int) mkBody (if acc.length = 4 then .brk (af [("size", .int y), ("marks", .val (.ref A))]) ((acc ++ [acc.getLastD 0 + y]).map .int) else .next (af [("size", .int y), ("marks", .val (.ref A))]) ((acc ++ [acc.getLastD 0 + y]).map .int)) := by
  have KG := W.KG
  have hlen : 0 < acc.length := List.length_pos_iff.mpr hne
  have e1 : (acc.map D.int) ++ [.int (acc.getLastD 0 + y)] = (acc ++ [acc.getLastD 0 + y]).map .int := by simp
  have hb : mkBody = mkBody.head! :: mkBody.drop 1 := rfl
  rw [hb]
  refine Exms.cons KG (es := (acc ++ [acc.getLastD 0 + y]).map .int) (Exm.appendI (c := c) (sc := scopeOf (stAt 14)) KG (Ev.bin KG (Ev.itemLneg KG (.name rfl) (Ev.neg .intC) ?_ ?_ ?_ (d := .int (acc.getLastD 0)) ?_) (.name rfl) BinOk.add) ⟨_, rfl⟩ ?_ e1) ?_
  · decide
  · rw [List.length_map]; omega
  · decide
  · rw [List.length_map]
    have h1 : (-1 + (acc.length : Int)).toNat = acc.length - 1 := by omega
    rw [h1, List.getElem?_map, ← List.getLast?_eq_getElem?, List.getLastD_eq_getLast?]
    cases h : acc.getLast? with
    | none => rw [List.getLast?_eq_none_iff] at h; exact absurd h hne
    | some v => rfl
  · rw [List.length_map]; omega
  · have hlen2 : ((acc ++ [acc.getLastD 0 + y]).map D.int).length = acc.length + 1 := by simp
    have he := CmpOk.eqI (c := c) (a := (((acc ++ [acc.getLastD 0 + y]).map D.int).length : Nat)) (b := 5)
    by_cases h4 : acc.length = 4
    · rw [if_pos h4]
      rw [show ((((acc ++ [acc.getLastD 0 + y]).map D.int).length : Nat) == (5 : Int)) = true by rw [hlen2, h4]; rfl] at he
      exact Exms.brkC (Exm.iff KG (EvT.cmp KG (Ev.callF KG W.KI rfl (.len W.len (by rw [hlen2]; omega)) (.cons KG (.name rfl) .nil)) .intC he) (fun _ => Exms.brkC Exm.brk) (fun h => absurd h (by decide)))
    · rw [if_neg h4]
      rw [show ((((acc ++ [acc.getLastD 0 + y]).map D.int).length : Nat) == (5 : Int)) = false from beq_eq_false_iff_ne.mpr (by rw [hlen2]; omega)] at he
      exact Exms.cons KG (Exm.iff KG (EvT.cmp KG (Ev.callF KG W.KI rfl (.len W.len (by rw [hlen2]; omega)) (.cons KG (.name rfl) .nil)) .intC he) (fun h => absurd h (by decide)) (fun _ => .nil)) .nil
end
end Mine
namespace Mine
open PySem PySem.Spec PySem.Calls PyProof.Rows PySem.W
section
variable {c : Cx} {sc : Scope} {ρ : Str → Option D}
noncomputable def ysOf (yv : Nat → Int) : Nat → List Int
  | 0 => []
  | k + 1 => yv k :: ysOf yv k

structure MI (c : Cx) (D : GenD) (env : Env) (X : Addr → Prop) (A : Addr) (s₂ : Shared) (acc : List Int) (k : Nat) (s' : Shared) : Prop where
  m : Mu X env s'.heap (mkρ A) A "marks" (acc.map .int)
  G : c.G s'.heap
  go : D.Go c k s'
  gg : Gg D.g (fun a => Own env a ∨ a = A ∨ D.Wg a) s₂ s'

theorem mk_flat (A : Addr) : ∀ x d, mkρ A x = some d → Flat d := fun x d hx => by
  unfold mkρ af at hx
  rw [List.lookup_cons] at hx
  split at hx
  · cases hx; exact flat_val _
  · cases hx
theorem mk_turns (W : Wld c) {n : Nat} (hl : LimN n c) {D : GenD} {env : Env} {X : Addr → Prop} {A : Addr} {s₂ : Shared} (hs : env.scope = scopeOf (stAt 14)) (hcs : env.cells = []) (hY : D.Ym = fun a => a = env.locals ∨ a = A) (hW : ∀ a, D.Wg a → ¬ X a ∧ ¬ tb a ∧ low ≤ a) (hWI : ¬ D.Wg D.Ig) (htI : ¬ tb D.Ig) (hYI : ¬ D.Ym D.Ig) (RES : List Int) (brk : Bool)
    (hc : ∀ k, D.cont k = (if brk then decide (0 < k) else true)) {k : Nat} {acc : List Int} {s : Shared} (M : MI c D env X A s₂ acc k s) (hne : acc ≠ []) (hlen : if brk then acc.length + k = 5 ∧ 0 < k else acc.length + k ≤ 4) (hres : accM acc (ysOf D.yv k) = RES) {Rr : Result → Shared → Prop}
    (hR : ∀ s', Mu X env s'.heap (mkρ A) A "marks" (RES.map .int) → c.G s'.heap → Gg D.g (fun a => Own env a ∨ a = A ∨ D.Wg a) s₂ s' → Rr (.ok .next) s') :
    codeAny (model c.prog c.w) c.A (.forLoop mkTgt (.ref D.Ig) mkBody [] env) Rr s := by
  have KG := W.KG
  have hn : ∀ x, OwnN env x := fun x c' hc' => by rw [hcs] at hc'; cases hc'
  have hown : ∀ a, Own env a → a = env.locals := fun a ha => by
    rcases ha with q | ⟨p, hp, _⟩
    · exact q
    · rw [hcs] at hp; cases hp
  refine codeAny_forLoop (fun k s' => ∃ acc, MI c D env X A s₂ acc k s' ∧ acc ≠ [] ∧ (if brk then acc.length + k = 5 ∧ 0 < k else acc.length + k ≤ 4) ∧ accM acc (ysOf D.yv k) = RES) (fun k s' hI => ?_) k ⟨acc, M, hne, hlen, hres⟩ (fun v => rfl)
  obtain ⟨acc, M, hne, hlen, hres⟩ := hI
  have hAL : AL D.Ym s'.heap := fun a ha => by
    rw [hY] at ha
    rcases ha with rfl | rfl
    · exact M.m.eo.al _ M.m.eo.locX
    · exact M.m.eo.al _ M.m.XA
  cases k with
  | zero =>
    have hb : brk = false := by
      cases brk with
      | false => rfl
      | true => exact absurd hlen.2 (Nat.lt_irrefl 0)
    subst hb
    refine wp_up (gen_done W hl D M.G hAL M.go (hc 0)) fun r s₃ h₃ => ?_
    obtain ⟨rfl, g⟩ := h₃
    refine wpAny_execs_nil ?_
    have hG₃ : c.G s₃.heap := KG.apart _ _ _ (fun a ha => .inr (hW a ha).2.2) M.G g.kp
    have hres' : acc = RES := hres
    subst hres'
    refine hR s₃ ?_ hG₃ (M.gg.trans (g.wide fun a q => .inr (.inr q)))
    obtain ⟨vs, ha, ra⟩ := M.m.at'
    exact ⟨M.m.eo.flat KG hG₃ hcs g.kp (fun a q => (hW a q).1) (mk_flat A), M.m.XA, M.m.nt, M.m.no, M.m.nmv, M.m.lc, vs, ha.at fun o q => g.kp.keep _ o (fun z => (hW A z).1 M.m.XA) M.m.nt q, .ofInts ra.ints⟩
  | succ k =>
    refine wp_up (gen_next W hl D M.G hAL M.go hWI htI) fun r s₃ h₃ => ?_
    obtain ⟨t, rfl, g, hG₃, hgo⟩ := h₃
    have m₃ : Mu X env s₃.heap (mkρ A) A "marks" (acc.map .int) := by
      obtain ⟨vs, ha, ra⟩ := M.m.at'
      exact ⟨M.m.eo.flat KG hG₃ hcs g.kp (fun a q => (hW a q).1) (mk_flat A), M.m.XA, M.m.nt, M.m.no, M.m.nmv, M.m.lc, vs, ha.at fun o q => g.kp.keep _ o (fun z => (hW A z).1 M.m.XA) M.m.nt q, .ofInts ra.ints⟩
    refine wpAny_assign_Name (m₃.store hs (.int (D.yv k) t) (ok1 rfl) (by decide) fun s₄ m₄ g₄ => ?_)
    have hG₄ : c.G s₄.heap := apart_own KG m₃.eo hG₃ g₄
    have m₄' : Mu X env s₄.heap (af [("size", .int (D.yv k)), ("marks", .val (.ref A))]) A "marks" (acc.map .int) := m₄.sub (sub_af ⟨rfl, rfl, trivial⟩) rfl
    have hz : acc.length ≤ 10 := by
      cases brk with
      | false => have : acc.length + (k + 1) ≤ 4 := hlen; omega
      | true => have : acc.length + (k + 1) = 5 := hlen.1; omega
    refine wp_up (mk_body W hl hne hz _ env A s₄ hs hn hG₄ m₄') fun f s₅ h₅ => ?_
    obtain ⟨g₅, h₅⟩ := h₅
    have hG₅ := mu_G KG m₄' hG₄ g₅
    have gg₅ : Gg D.g (fun a => Own env a ∨ a = A ∨ D.Wg a) s₂ s₅ := ((M.gg.trans (g.wide fun a q => .inr (.inr q))).trans (.of (g₄.wide fun a q => .inl q))).trans (.of (g₅.wide fun a q => q.elim .inl fun z => .inr (.inl z)))
    have hres' : accM (acc ++ [acc.getLastD 0 + D.yv k]) (ysOf D.yv k) = RES := hres
    by_cases h4 : acc.length = 4
    · rw [if_pos h4] at h₅
      obtain ⟨rfl, m₅⟩ := h₅
      have hk0 : k = 0 := by
        cases brk with
        | false => have : acc.length + (k + 1) ≤ 4 := hlen; omega
        | true => have : acc.length + (k + 1) = 5 := hlen.1; omega
      subst hk0
      have e : acc ++ [acc.getLastD 0 + D.yv 0] = RES := hres'
      rw [e] at m₅
      exact hR s₅ (m₅.sub (sub_af ⟨rfl, trivial⟩) rfl) hG₅ gg₅
    · rw [if_neg h4] at h₅
      obtain ⟨rfl, m₅⟩ := h₅
      have hck : D.cont k = true := by
        rw [hc]
        cases brk with
        | false => rfl
        | true => have : acc.length + (k + 1) = 5 := hlen.1; exact decide_eq_true (by omega)
      have go₃ := hgo hck
      have hg3 : D.g < s₃.gens.size := by
        obtain ⟨_, gs, hgs, _⟩ := go₃
        rcases Nat.lt_or_ge D.g s₃.gens.size with h' | h'
        · exact h'
        · rw [Array.getElem?_eq_none h'] at hgs; cases hgs
      have g₃₅ : Gw (fun a => Own env a ∨ a = A) s₃ s₅ := (g₄.wide fun a q => .inl q).trans g₅
      have go₅ : D.Go c k s₅ := by
        refine go₃.rel ⟨hG₅, ?_, ?_⟩ hYI htI (g₃₅.bare.2.2 _ hg3)
        · rw [hY]; exact g₃₅.kp.wide fun a q => q.imp (hown a) id
        · intro a ha
          rw [hY] at ha
          rcases ha with rfl | rfl
          · exact m₅.eo.al _ m₅.eo.locX
          · exact m₅.eo.al _ m₅.XA
      refine ⟨k, Nat.lt_succ_self k, acc ++ [acc.getLastD 0 + D.yv k], ⟨m₅.sub (sub_af ⟨rfl, trivial⟩) rfl, hG₅, go₅, gg₅⟩, by simp, ?_, hres'⟩
      cases brk with
      | false => have : acc.length + (k + 1) ≤ 4 := hlen; show (acc ++ _).length + k ≤ 4; rw [List.length_append, List.length_singleton]; omega
      | true => have : acc.length + (k + 1) = 5 := hlen.1; show (acc ++ _).length + k = 5 ∧ 0 < k; rw [List.length_append, List.length_singleton]; omega
end
end Mine
namespace Mine
open PySem PySem.Spec PySem.Calls PyProof.Rows PySem.W
section
variable {c : Cx} {sc : Scope} {ρ : Str → Option D}
theorem call_marks (W : Wld c) {n : Nat} (hl : LimN (n + 2) c) {ns : List Int} {yv : Nat → Int} {cont : Nat → Bool} {fin : Bool} {N : Nat} (Lp : ∀ c', Wld c' → LoopOk c' (ns.map .int) yv cont fin N) (RES : List Int) (brk : Bool)
    (hc : ∀ k, cont k = (if brk then decide (0 < k) else true)) (hlen : if brk then 1 + N = 5 ∧ 0 < N else 1 + N ≤ 4) (hres : accM [0] (ysOf yv N) = RES) : CallOk c "_law_marks" [.list (ns.map .int)] (.list (RES.map .int)) :=
  ⟨.ref 151, W.marks.g, .k _ W.marks.kp, fun X s vs hG xo r => by
    have KG := W.KG
    obtain ⟨v, us, rfl, r1, r2⟩ := r.consInv
    rw [r2.nilInv]
    refine enter KG W.marks.f hl.room hG xo (binds := [("sizes", v)]) (ds := [.list (ns.map .int)]) (fun fd h => by obtain ⟨_, _, _, _, rfl⟩ := h; exact BindsTo.of_eq rfl) (.one r1) (by decide) (locs_of rfl) (fun env s₁ hs hcs _ g eo hL hXL hG₁ _ => ?_) rfl rfl rfl
    have W' := W.dp env
    have hl' := hl.dp env
    have hn : ∀ x, OwnN env x := fun x c' hc' => by rw [hcs] at hc'; cases hc'
    have hOwn : ∀ a, Own env a → a = env.locals := fun a ha => by
      rcases ha with q | ⟨p, hp, _⟩
      · exact q
      · rw [hcs] at hp; cases hp
    refine wpAny_execs_cons (new_list (c := c.dp env) (nm := "marks") (ns := [0]) KG hG₁ eo hs rfl rfl (.cons W'.KG .intC .nil) (by decide) fun A s₂ hA0 hAX hAl g₂ hG₂ m₂ => ?_)
    have hALne : A ≠ env.locals := fun z => hAX (.inr z)
    have hA0' : s.heap.get? A = none := was_none (X := X) KG hG g hA0
    have hb : (bodyOf (stAt 14)).drop 1 = mkFor :: (bodyOf (stAt 14)).drop 2 := rfl
    show wpAny _ _ (execs ((bodyOf (stAt 14)).drop 1) env) _ _ _
    rw [hb]
    refine wpAny_execs_cons ?_
    refine wpAny_For (wpAny_Call_ofName (W'.gi.g.load hG₂ m₂.eo.kind m₂.eo.glob m₂.eo.blt (by unfold Env.kindOf; rw [hs]; rfl) rfl ?_))
    refine Kept.cw (c := c.dp env) W'.KI (.k _ W'.gi.kp) hG₂ (wp_up (Evs.cons (c := c.dp env) (sc := scopeOf (stAt 14)) W'.KG (Ev.name (d := .list (ns.map .int)) rfl) .nil (fun _ => rfl) _ env _ s₂ hs hG₂ m₂.eo) fun us s₃ h₃ => ?_) rfl rfl
    obtain ⟨g₃, r₃⟩ := h₃
    obtain ⟨u, us, rfl, ru, rn⟩ := r₃.consInv
    rw [rn.nilInv]
    have hG₃ : c.G s₃.heap := KG.keeps _ _ hG₂ g₃.kp
    have m₃ := m₂.gw (c := c.dp env) KG hG₂ g₃
    refine ⟨hG₃, ?_⟩
    rw [List.nil_append]
    refine wp_up (call_gi W' hl' (Lp _ W') hG₃ m₃.eo.xok ru (fun a => a = env.locals ∨ a = A) fun b hb => ?_) fun w s₄ h₄ => ?_
    · rcases hb with rfl | rfl
      · exact ⟨m₃.eo.locX, m₃.eo.ntb⟩
      · exact ⟨m₃.XA, m₃.nt⟩
    obtain ⟨D, rfl, Md⟩ := h₄
    refine wpAny_pyIter_gen Md.go.1 ?_
    have m₄ := (m₃.gw (c := c.dp env) KG hG₃ Md.g).sub (ρ' := mkρ A) (sub_af ⟨rfl, trivial⟩) rfl
    refine mk_turns (c := c.dp env) W' hl' (D := D) (s₂ := s₄) (acc := [0]) hs hcs Md.Ym (fun a ha => ⟨fun z => ?_, (Md.wg a ha).2⟩) Md.wI Md.tI Md.yI RES brk (fun k => by rw [Md.cont]; exact hc k) ⟨m₄, Md.G, Md.go, .refl _⟩ (by simp) (by simpa using hlen) (by rw [Md.yv]; exact hres) fun s₅ m₅ hG₅ gg => ?_
    · obtain ⟨o, ho⟩ := m₃.eo.al a z
      rw [(Md.wg a ha).1] at ho; cases ho
    have hb3 : (bodyOf (stAt 14)).drop 2 = ((bodyOf (stAt 14)).drop 2).head! :: [] := rfl
    show wpAny _ _ (execs ((bodyOf (stAt 14)).drop 2) env) _ _ _
    rw [hb3]
    refine wpAny_execs_cons (wp_up (Exm.ret (c := c.dp env) (sc := scopeOf (stAt 14)) _ env A s₅ hs hn hG₅ m₅) fun f s₆ h₆ => ?_)
    obtain ⟨g₆, rfl, ws, ha, ra⟩ := h₆
    have gA : Gw (fun a => Own env a ∨ a = A ∨ D.Wg a) s₃ s₅ := Gg.new (Md.g.none) (by have := Md.new; exact this) gg
    have gall : Gw (fun a => Own env a ∨ a = A ∨ D.Wg a) s s₆ := (((g.none.trans (g₂.wide fun a q => .inl q)).trans g₃.none).trans gA).trans (g₆.wide fun a q => q.elim .inl fun z => .inr (.inl z))
    have gs₃ : Gw (Own env) s s₃ := (g.none.trans g₂).trans g₃.none
    refine ⟨gall.narrow fun a ha => .inr ?_, ?_⟩
    · rcases ha with q | rfl | q
      · rw [hOwn a q]; exact hL
      · exact hA0'
      · cases e : s.heap.get? a with
        | none => rfl
        | some o =>
          have hw := Md.wg a q
          have := gs₃.kp.keep a o (fun z => by rw [hOwn a z, hL] at e; cases e) hw.2.1 e
          rw [hw.1] at this; cases this
    · obtain ⟨na, ha⟩ := ha
      exact RdAll.list (vs := ws.toList) (n := na) (fun z => hAX (.inl z)) (by simpa using ha) (ra.less fun a q => .inl (.inl q))⟩

/-- the marks of two sizes, with no more behind -/
theorem marks_two (W : Wld c) {n : Nat} (hl : LimN (n + 2) c) {a b : Int} {tail : List Int} (ha : a ≠ 127 ∧ a ≠ 0) (hb : b ≠ 127 ∧ b ≠ 0) (ht : tail = [] ∨ ∃ r, tail = 127 :: r) : CallOk c "_law_marks" [.list ((a :: b :: tail).map .int)] (.list ([0, 0 + a, 0 + a + b].map .int)) :=
  call_marks W hl (fun c' W' => loop_two W' ha hb ht) [0, 0 + a, 0 + a + b] false (fun _ => rfl) (by decide) rfl
theorem marks_ever (W : Wld c) {n : Nat} (hl : LimN (n + 2) c) {a : Int} {tail : List Int} (ha : a ≠ 127 ∧ a ≠ 0) : CallOk c "_law_marks" [.list ((a :: 0 :: tail).map .int)] (.list ([0, 0 + a, 0 + a + a, 0 + a + a + a, 0 + a + a + a + a].map .int)) :=
  call_marks W hl (fun c' W' => loop_ever W' ha) _ true (fun _ => rfl) (by decide) rfl
end
end Mine
namespace Mine
open PySem PySem.Spec PySem.Calls PyProof.Rows PySem.W
section
variable {prog : Program} {w : World} {A : Around} {E : Value → Shared → Prop} {s : Shared} {K : Frag} {x C dx : Addr} {ox : Obj} {es : List DictEntry} {n : Nat} {name : Str} {v : Value}
theorem osa_own {R : Result → Shared → Prop} {tk : Tok} (X : K.In s.heap) (I : InstAt s.heap x ox C (some (dictOf es n))) (hd : ox.dict = some dx)
    (hp : plainOver K C = true) (ht : takerIn K C name = some none) (hh : hasDictIn K C = true) (hl : (getL name es).isSome = true) (hz : ∀ hsh key, (putL name hsh key v es).length ≤ 1000)
    (h : ∀ h' hsh t n', h'.get? dx = some (dictOf (putL name hsh (.str name t) v es) n') → Heap.SameBut dx s.heap h' → R (.ok (.ret .none)) { s with heap := h', toks := s.toks + 1 }) :
    codeAny (model prog w) A (.call (.builtin "object.__setattr__") ⟨[.ref x, .str name tk, v], []⟩) R s := by
  refine osa_open X I hp ht fun b => ?_
  have I' := I
  obtain ⟨cd, hc, hd'⟩ := any_some hh
  obtain ⟨hx, hcl, hn, hdd⟩ := I
  obtain ⟨oc, odi, oda, osl⟩ := ox
  dsimp only at hcl hd
  subst hcl hd
  have D : s.heap.get? dx = some (dictOf es n) := hdd
  refine wpAny_bind (wpAny_pure (wpAny_bind (wpAny_bind (wpAny_loadPart hx (wpAny_bind ((looks_clsIn X hc).here ?_))))))
  rw [hd']
  refine wpAny_pure (a := some dx) (wpAny_bind (wpAny_pure (wpAny_bind ?_)))
  unfold nsSet
  refine wpAny_bind (wpAny_bind (wpAny_askSetting (wpAny_pure (wpAny_bind (wpAny_mkText (wpAny_bind (wpAny_loadPart D ?_)))))))
  have c : (!es.toArray.any (·.key.isStr name) && es.toArray.any (·.refKey)) = false := by
    rw [← Array.any_toList, ← Array.any_toList]
    unfold getL at hl
    split at hl
    · rename_i en he
      show (!es.any _ && _) = false
      rw [List.any_eq_true.mpr ⟨en, List.mem_of_find?_eq_some he, List.find?_some he⟩]; rfl
    · split at hl
      · cases hl
      · rename_i z
        show (_ && es.any _) = false
        rw [Bool.not_eq_true] at z
        rw [z, Bool.and_false]
  dsimp only
  rw [aRefKeyMayBeTheName_at, c]
  refine wpAny_updatePart D ?_
  have U := Heap.get?_update_self (Obj.putName name (PyData.keyHash w.params name) (.str name s.toks) v) D (by rw [putName_dict]; rfl)
  rw [putName_dict] at U
  refine wpAny_bind (wpAny_lookBehind U (pastItsLine_dict (by have := hz (PyData.keyHash w.params name) (.str name s.toks); rw [List.size_toArray, sizeLine_eq]; omega)) ?_)
  exact wpAny_pure (h _ _ _ _ U (Heap.SameBut.update ..))
/-- a store to an instance's own name -/
theorem set_attr {Q : Unit → Shared → Prop} (X : K.In s.heap) (I : InstAt s.heap x ox C (some (dictOf es n))) (hd : ox.dict = some dx)
    (hs : findIn K (.ref C) "__setattr__" = some (some (.builtin "object.__setattr__"))) (hp : plainOver K C = true) (ht : takerIn K C name = some none) (hh : hasDictIn K C = true) (hl : (getL name es).isSome = true) (hz : ∀ hsh key, (putL name hsh key v es).length ≤ 1000)
    (h : ∀ h' hsh t n' tk, h'.get? dx = some (dictOf (putL name hsh (.str name t) v es) n') → Heap.SameBut dx s.heap h' → Q () { s with heap := h', toks := tk }) :
    wpAny (model prog w) A (setAttr (.ref x) name v) Q E s :=
  set_plain X I hs (osa_own (s := { s with toks := s.toks + 1 }) X I hd hp ht hh hl hz fun h' hsh t n' a b => h h' hsh t n' _ a b)
end
end Mine
namespace Mine
open PySem PySem.Spec PySem.Calls PyProof.Rows PySem.W
section
variable {c : Cx} {sc : Scope} {ρ ρ' : Str → Option D}
theorem Rd.wsInv {X : Addr → Prop} {h : Heap} {v : Value} {cs : List Int} {b nt : Int} (r : Rd X h v (.ws cs b nt)) : ∃ a da es ep sl vn tn, v = .ref a ∧ ¬ X a ∧ ¬ X da ∧ h.get? a = some ⟨.ref 83, some da, .plain, sl⟩ ∧ h.get? da = some (dictOf es ep) ∧ getL "norm" es = some (some vn) ∧ getL "nt" es = some (some (.int nt tn)) ∧
    getL "equal" es = some Option.none ∧ getL "indent_level" es = some Option.none ∧ Rd X h vn (normD cs b) := by
  cases r with
  | ws hx hy h1 h2 h3 h4 h5 h6 r => exact ⟨_, _, _, _, _, _, _, rfl, hx, hy, h1, h2, h3, h4, h5, h6, r⟩
/-- an attribute of an instance -/
theorem Ev.norm (W : Wld c) {x : Str} {np pos : Pos} {cs : List Int} {b nt : Int} (hx : ρ x = some (.ws cs b nt)) : Ev c sc ρ (.Attribute (.Name x np) "norm" pos) (normD cs b) := fun X env s hs hG eo => by
  refine Attribute_name (wp_up (Ev.run (c := c) (sc := sc) (ρ := ρ) (Ev.name hx) X env s hs hG eo) fun v s₁ h₁ => ?_)
  obtain ⟨g, r⟩ := h₁
  obtain ⟨a, da, es, ep, sl, vn, tn, rfl, hxa, hxd, h1, h2, h3, h4, h5, h6, rn⟩ := r.wsInv
  have KX := W.KI _ (W.KG.keeps _ _ hG g.kp)
  have I : InstAt s₁.heap a ⟨.ref 83, some da, .plain, sl⟩ 83 (some (dictOf es ep)) := ⟨h1, rfl, rfl, h2⟩
  have hv : handedIn vn = true := by
    obtain ⟨k, _, _, _, e, _⟩ := rn.tupInv
    rw [e]; rfl
  exact get_value KX I (plainGet_of (W.ws.pg "norm")).1 (findObj_own W.ws.dict W.ws.norm (by rfl) (by rw [lookIn_dict]; exact h3)) hv ⟨g.trans .same, rn⟩
theorem Ev.nt (W : Wld c) {x : Str} {np pos : Pos} {cs : List Int} {b nt : Int} (hx : ρ x = some (.ws cs b nt)) : Ev c sc ρ (.Attribute (.Name x np) "nt" pos) (.int nt) := fun X env s hs hG eo => by
  refine Attribute_name (wp_up (Ev.run (c := c) (sc := sc) (ρ := ρ) (Ev.name hx) X env s hs hG eo) fun v s₁ h₁ => ?_)
  obtain ⟨g, r⟩ := h₁
  obtain ⟨a, da, es, ep, sl, vn, tn, rfl, hxa, hxd, h1, h2, h3, h4, h5, h6, rn⟩ := r.wsInv
  have KX := W.KI _ (W.KG.keeps _ _ hG g.kp)
  have I : InstAt s₁.heap a ⟨.ref 83, some da, .plain, sl⟩ 83 (some (dictOf es ep)) := ⟨h1, rfl, rfl, h2⟩
  exact get_value KX I (plainGet_of (W.ws.pg "nt")).1 (findObj_own W.ws.dict W.ws.nt (by rfl) (by rw [lookIn_dict]; exact h4)) (by rfl) ⟨g.trans .same, .int _ _⟩
/-- a method of an instance, called -/
theorem Ev.methI (W : Wld c) {x nm : Str} {f : Addr} {np apos pos : Pos} {e : Expr} {rest : List Expr} {cs : List Int} {b nt : Int} {ds : List D} {d : D} (hx : ρ x = some (.ws cs b nt)) (h : Evs c sc ρ (e :: rest) ds)
    (hf : findIn c.K (.ref 83) nm = some (some (.ref f))) (ht : isFn c.K (.ref f) = true) (hk : keepIn c.K (.ref f) = true) (hsh : ∀ es : List DictEntry, getL "equal" es = some none → getL "indent_level" es = some none → getL nm es = some none)
    (hc : ∀ X (s : Shared) v vs, c.G s.heap → Xok X s.heap → Rd X s.heap v (.ws cs b nt) → RdAll X s.heap vs ds → Gives c X s (call (.ref f) (v :: vs)) d)
    (hst : ∀ env, starEach (e :: rest) env = (false, eval e env) :: starEach rest env := by intro _; rfl) (hplain : ∀ env, (backTo pos (starEach rest env)).any (·.1) = false := by intro _; rfl)
    (he : ∀ env, eval (.Call (.Attribute (.Name x np) nm apos) (e :: rest) [] pos) env = (do
      let ov ← eval (.Name x np) env
      standAt apos.atName
      let (f, first) ← holding [ov] (getMethod ov nm (do return (← importBound (.Name x np) env).getD true))
      callWith pos f first (backTo pos (starEach (e :: rest) env)) (backToKw pos (keywordEach [] env))) := by intro _; rfl) :
    Ev c sc ρ (.Call (.Attribute (.Name x np) nm apos) (e :: rest) [] pos) d := fun X env s hs hG eo => by
  refine methodCall_KW (wp_up (Ev.run (c := c) (sc := sc) (ρ := ρ) (Ev.name hx) X env s hs hG eo) fun v s₁ h₁ => ?_) (he env)
  obtain ⟨g, r⟩ := h₁
  have r' := r
  obtain ⟨a, da, es, ep, sl, vn, tn, rfl, hxa, hxd, h1, h2, h3, h4, h5, h6, rn⟩ := r.wsInv
  have hG₁ := W.KG.keeps _ _ hG g.kp
  have eo₁ := eo.gw W.KG g hG
  have KX := W.KI _ hG₁
  have I : InstAt s₁.heap a ⟨.ref 83, some da, .plain, sl⟩ 83 (some (dictOf es ep)) := ⟨h1, rfl, rfl, h2⟩
  refine method_fn KX I (plainGet_of (W.ws.pg nm)).1 (plainGet_of (W.ws.pg nm)).2 hf (beq_iff_eq.mp ht) (by show (lookIn nm (dictOf es ep)).map _ = _; rw [lookIn_dict, hsh es h5 h6]; rfl) ?_
  refine callWith_K KX hk (wp_up (h X env pos s₁ hs hG₁ eo₁) fun vs s₂ h₂ => ?_) (hst env) (hplain env)
  have hG₂ := W.KG.keeps _ _ hG₁ h₂.1.kp
  refine ⟨W.KI _ hG₂, ?_⟩
  exact wp_up (hc X s₂ _ vs hG₂ (eo₁.xok.gw W.KG hG₁ h₂.1) (r'.gw eo.xt h₂.1.none) h₂.2) fun u s₃ h₃ => ⟨(g.trans h₂.1).trans h₃.1, h₃.2⟩
end
end Mine
namespace Mine
open PySem PySem.Spec PySem.Calls PyProof.Rows PySem.W
section
variable {c : Cx} {sc : Scope} {ρ ρ' : Str → Option D}
/-- a loop that turns nothing but names -/
theorem Ex.for (KG : Known c.G) (hl : Lim c) {x : Str} {np pos : Pos} {iter : Expr} {body : List Stmt} {items : List D} (hev : EvIt c sc ρ nameT iter items) (hx : okName sc x) (ρs : Nat → Str → Option D) (h0 : Sub (ρs 0) ρ)
    (hbody : ∀ j d, items[j]? = some d → Exs c sc (upd (ρs j) x d) body (.next (ρs (j + 1)))) (hset : ∀ env x, foldedSetIterable iter env x = pure x := by intro _ _; rfl) :
    Ex c sc ρ (.For (.Name x np) iter body [] pos) (.next (ρs items.length)) := fun X env s hs hn hG eo => by
  refine wpAny_For (wp_up (hev X env s hs hG eo) fun xv s₁ h₁ => wp_up h₁ fun it s₂ h₂ => ?_) (hset env)
  obtain ⟨I, fp, wr, St, rfl, g₂, It, hw, hf, hst⟩ := h₂
  have hG₂ := KG.keeps _ _ hG g₂.kp
  have eo₂ := eo.gw KG g₂ hG
  have xtw : XT (fun a => X a ∨ wr a) := ⟨fun b hb => .inl (eo.xt.tbs b hb), fun a ha => ha.elim (eo.xt.hi a) fun q => .inr (hw a q).2.2⟩
  have wX : ∀ a, wr a → ¬ X a := fun a q => (hf a (It.sub a q)).2
  have eow : EnvOk (fun a => X a ∨ wr a) env s₂.heap (ρs 0) :=
    (eo.grow xtw (fun b o ht q => g₂.kp.keep b o (fun z => z) ht q) (fun a q => .inl q) (fun a ha => ha.elim (fun q => eo₂.al a q) fun q => (hf a (It.sub a q)).1) fun a ha => ha.imp id fun q => (hw a q).1).sub h0
  have hwO : ∀ a, wr a → (X a ∨ wr a) ∧ ¬ Own env a := fun a q => ⟨.inr q, fun z => wX a q (own_X eo z).1⟩
  refine codeAny_forLoop (fun k s' => ∃ j, j + k = items.length ∧ c.G s'.heap ∧ EnvOk (fun a => X a ∨ wr a) env s'.heap (ρs j) ∧ St (fun a => X a ∨ wr a) (items.drop j) s'.heap ∧ Gw (fun a => Own env a ∨ wr a) s s') (fun k s' hI => ?_) items.length
    ⟨0, by omega, hG₂, eow, hst _ xtw (fun a ha => ha.elim .inl fun q => .inr (.inl q)), g₂.none⟩
  obtain ⟨j, hj, hG', eo', st', g'⟩ := hI
  cases k with
  | zero =>
    have hjl : j = items.length := by omega
    subst hjl
    rw [List.drop_length] at st'
    refine wp_up (It.done _ s' st') fun r s₃ h₃ => ?_
    obtain ⟨rfl, g₃⟩ := h₃
    have hG₃ : c.G s₃.heap := KG.apart _ _ _ (fun a ha => xtw.hi a (.inr ha)) hG' g₃.kp
    refine wpAny_execs_nil ⟨(g'.trans (g₃.wide fun a q => .inr q)).narrow fun a ha => ha.imp id fun q => (hw a q).1, rfl, ?_⟩
    exact eo'.leaveA KG hG₃ g₃ hwO (fun a q => .inl q) (fun a q => (own_X eo q).1) eo.xt fun a q z => absurd z (wX a q)
  | succ k =>
    have hjlt : j < items.length := by omega
    rw [List.drop_eq_getElem_cons hjlt] at st'
    refine wp_up (It.next _ items[j] (items.drop (j + 1)) s' (fun b q => .inr q) xtw eo'.al st') fun r s₃ h₃ => ?_
    obtain ⟨v, rfl, g₃, r₃, hgo⟩ := h₃
    have e1 : assign (.Name x np) env v = (letOwnedTupleGo (.Name x np) (.ref I) v >>= fun _ => assign (.Name x np) env v) := (pure_bind _ _).symm
    dsimp only
    rw [e1]
    refine wpAny_bind (wp_up (hgo (.Name x np) ⟨_, _, rfl⟩) fun _ s₄ h₄ => ?_)
    obtain ⟨g₄, st₄⟩ := h₄
    have g₃₄ := g₃.trans g₄
    have hG₄ : c.G s₄.heap := KG.apart _ _ _ (fun a ha => xtw.hi a (.inr ha)) hG' g₃₄.kp
    have eo₄ := eo'.leaveA KG hG₄ g₃₄ hwO (X₀ := fun a => X a ∨ wr a) (fun a q => q) (fun a q => .inl (own_X eo q).1) xtw fun a q _ => It.ex _ _ _ st₄ a q
    have r₄ := r₃.gw xtw (g₄.wide fun a q => .inr q)
    refine wpAny_assign_Name (store_ok eo₄ r₄ (by unfold Env.kindOf; rw [hs]; exact hx.1) hx.2 fun s₅ eo₅ g₅' => ?_)
    have g₅ : Gw (Own env) s₄ s₅ := g₅'.wide fun a ha => by
      rcases ha with rfl | ⟨c, q, rfl⟩
      · exact .inl rfl
      · exact .inr ⟨_, mem_of_lookup q, rfl⟩
    have hG₅ := apart_own KG eo₄ hG₄ g₅
    refine wp_up (hbody j items[j] (List.getElem?_eq_getElem hjlt) _ env s₅ hs hn hG₅ eo₅) fun f s₆ h₆ => ?_
    obtain ⟨g₆, rfl, eo₆⟩ := h₆
    have hG₆ := apart_own KG eo₅ hG₅ g₆
    refine ⟨k, Nat.lt_succ_self k, j + 1, by omega, hG₆, eo₆, ?_, ?_⟩
    · refine It.frame _ _ _ _ xtw st₄ fun b o hb ht q => (g₅.trans g₆).kp.keep b o (fun z => ?_) ht q
      rcases hb with hb | hb
      · exact hb (.inl (own_X eo z).1)
      · exact (hf b hb).2 (own_X eo z).1
    · exact (g'.trans (g₃₄.wide fun a q => .inr q)).trans ((g₅.trans g₆).wide fun a q => .inl q)
end
end Mine
namespace Mine
open PySem PySem.Spec PySem.Calls PyProof.Rows PySem.W
structure CmpN (n : Nat) (d : D) : Prop where
  plain : d.plain = true
  lay : d.py.canLay0 = true
  deep : d.py.depth ≤ n
theorem CmpN.cmpd {n : Nat} {d : D} (h : CmpN n d) (hn : n ≤ 64) : Cmpd d := ⟨h.plain, by unfold SeqAt.shaped; rw [h.lay, decide_eq_true (Nat.le_trans h.deep hn)]; rfl⟩
theorem CmpN.int (n : Nat) (i : Int) : CmpN n (.int i) := ⟨by rw [D.plain], by rw [D.py, PyData.canLay0], by rw [D.py, PyData.depth]; exact Nat.zero_le _⟩
theorem CmpN.bool (n : Nat) (b : Bool) : CmpN n (.bool b) := ⟨by rw [D.plain], by rw [D.py, PyData.canLay0], by rw [D.py, PyData.depth]; exact Nat.zero_le _⟩
theorem cmp_all {n : Nat} : ∀ {ds : List D}, (∀ d ∈ ds, CmpN n d) → plains ds = true ∧ PyData.canLayAll0 (pys ds) = true ∧ PyData.depthAll (pys ds) ≤ n
  | [], _ => ⟨by rw [plains], by rw [pys, PyData.canLayAll0], by rw [pys, PyData.depthAll]; exact Nat.zero_le _⟩
  | d :: ds, h => by
    obtain ⟨h1, h2, h3⟩ := cmp_all (ds := ds) fun e he => h e (.tail _ he)
    have hd := h d (.head _)
    refine ⟨by rw [plains, hd.plain, h1]; rfl, by rw [pys, PyData.canLayAll0, hd.lay, h2]; rfl, ?_⟩
    rw [pys, PyData.depthAll]
    exact Nat.max_le.mpr ⟨hd.deep, h3⟩
theorem CmpN.list {n : Nat} {ds : List D} (h : ∀ d ∈ ds, CmpN n d) : CmpN (n + 1) (.list ds) := by
  obtain ⟨h1, h2, h3⟩ := cmp_all h
  exact ⟨by rw [D.plain]; exact h1, by rw [D.py, PyData.canLay0]; exact h2, by rw [D.py, PyData.depth]; omega⟩
theorem CmpN.tup {n : Nat} {ds : List D} (h : ∀ d ∈ ds, CmpN n d) : CmpN (n + 1) (.tup ds) := by
  obtain ⟨h1, h2, h3⟩ := cmp_all h
  exact ⟨by rw [D.plain]; exact h1, by rw [D.py, PyData.canLay0]; exact h2, by rw [D.py, PyData.depth]; omega⟩
theorem CmpN.ints (n : Nat) (ns : List Int) : ∀ d ∈ ns.map D.int, CmpN n d := fun d hd => by
  obtain ⟨i, _, rfl⟩ := List.mem_map.mp hd
  exact .int n i
theorem cmpd_norm (cs : List Int) (b : Int) : Cmpd (normD cs b) := by
  refine CmpN.cmpd (n := 2) (CmpN.tup (n := 1) fun d hd => ?_) (by decide)
  rcases List.mem_cons.mp hd with rfl | hd
  · exact CmpN.tup (n := 0) (CmpN.ints 0 cs)
  · rcases List.mem_cons.mp hd with rfl | hd
    · exact .int _ _
    · cases hd
section
variable {c : Cx} {sc : Scope} {ρ ρ' : Str → Option D}
theorem meth_equal (W : Wld c) {n : Nat} (hl : LimN (n + 1) c) {cs cs' : List Int} {b nt b' nt' : Int} : ∀ X (s : Shared) v vs, c.G s.heap → Xok X s.heap → Rd X s.heap v (.ws cs b nt) → RdAll X s.heap vs [.ws cs' b' nt'] → Gives c X s (call (.ref 59) (v :: vs)) (.bool (PyData.eqv (normD cs b).py (normD cs' b').py)) := fun X s v vs hG xo r rs => by
  obtain ⟨u, us, rfl, r1, r2⟩ := rs.consInv
  rw [r2.nilInv]
  exact callE W.KG hl W.ws.fE hG xo (binds := [("self", v), ("other", u)]) (ds := [.ws cs b nt, .ws cs' b' nt']) (fun fd h => by obtain ⟨_, _, _, _, rfl⟩ := h; exact BindsTo.of_eq rfl) (.cons r (.one r1)) (by decide) (locs_of rfl)
    (fun env => Exs.retC (Ex.ret (Ev.cmp (c := c.dp env) W.KG (Ev.norm (W.dp env) rfl) (Ev.norm (W.dp env) rfl) (CmpOk.eqD (hl.dp env).lim (cmpd_norm _ _) (cmpd_norm _ _))))) rfl rfl rfl
theorem Ev.equal (W : Wld c) {n : Nat} (hl : LimN (n + 1) c) {x : Str} {np apos pos : Pos} {e : Expr} {cs cs' : List Int} {b nt b' nt' : Int} (hx : ρ x = some (.ws cs b nt)) (h : Ev c sc ρ e (.ws cs' b' nt')) (hst : ∀ env, starEach [e] env = (false, eval e env) :: starEach [] env := by intro _; rfl)
    (he : ∀ env, eval (.Call (.Attribute (.Name x np) "equal" apos) [e] [] pos) env = (do
      let ov ← eval (.Name x np) env
      standAt apos.atName
      let (f, first) ← holding [ov] (getMethod ov "equal" (do return (← importBound (.Name x np) env).getD true))
      callWith pos f first (backTo pos (starEach [e] env)) (backToKw pos (keywordEach [] env))) := by intro _; rfl) :
    Ev c sc ρ (.Call (.Attribute (.Name x np) "equal" apos) [e] [] pos) (.bool (PyData.eqv (normD cs b).py (normD cs' b').py)) :=
  Ev.methI W hx (.cons W.KG h .nil hst) W.ws.eqF W.ws.eqT W.ws.eqK (fun es h1 _ => h1) (meth_equal W hl) hst (fun _ => rfl) he

theorem CallOk.lenT (g : GlobIs c "len" (.builtin "len")) {ds : List D} (hz : ds.length < 2 ^ 63) : CallOk c "len" [.tup ds] (.int ds.length) :=
  ⟨_, g, .b _, fun X s vs hG xo r => by
    obtain ⟨v, us, rfl, r1, r2⟩ := r.consInv
    rw [r2.nilInv]
    obtain ⟨l, o, vs, n, rfl, _, e1, e2, e3, ra⟩ := r1.tupInv
    have hsz : vs.size = ds.length := by have := ra.1; simpa using this
    refine PyProof.Rows.len_tuple ⟨_, e1, e2, n, e3⟩ (by rw [hsz]; exact_mod_cast hz) ⟨.same, ?_⟩
    rw [hsz]; exact .int _ _⟩
/-- the level at a tab size -/
noncomputable def lvl (cs : List Int) (t : Int) : Nat → Int
  | 0 => 0
  | j + 1 => lvl cs t j + (t + j).fdiv t * cs.getD (t + j).toNat 0
theorem bits_small {a : Int} (h : a.natAbs < 2 ^ 60) : Builtin.Int.intBits a ≤ 64 := by
  have := log2_small _ h
  unfold Builtin.Int.intBits
  split <;> omega
theorem mul_l {a b : Int} (h : a.natAbs < 2 ^ 60) : IntMulOk a b := IntMulOk.of_left (bits_small h)
theorem meth_level (W : Wld c) {n : Nat} (hl : LimN (n + 1) c) {cs : List Int} {b nt t : Int} (ht : 0 < t) (ht2 : t < 1000) (hz : cs.length < 1000) :
    ∀ X (s : Shared) v vs, c.G s.heap → Xok X s.heap → Rd X s.heap v (.ws cs b nt) → RdAll X s.heap vs [.int t] → Gives c X s (call (.ref 52) (v :: vs)) (.int (b + t * (lvl cs t (cs.length - t).toNat + nt))) := fun X s v vs hG xo r rs => by
  obtain ⟨u, us, rfl, r1, r2⟩ := rs.consInv
  rw [r2.nilInv]
  refine callE W.KG hl W.ws.fL hG xo (binds := [("self", v), ("tabsize", u)]) (ds := [.ws cs b nt, .int t]) (fun fd h => by obtain ⟨_, _, _, _, rfl⟩ := h; exact BindsTo.of_eq rfl) (.cons r (.one r1)) (by decide) (locs_of rfl) (fun env => ?_) rfl rfl rfl
  have W' := W.dp env
  have KG : Known (c.dp env).G := W.KG
  have hl' := hl.dp env
  refine Exs.cons KG (Ex.asgT KG hl'.lim (xs := [("count", _), ("trailing", _)]) (Ev.norm W' rfl) (okA rfl) rfl) ?_
  refine Exs.cons KG (Ex.asg KG .intC (ok1 rfl)) ?_
  refine Exs.cons KG (Ex.for KG hl'.lim (EvIt.range2 KG W'.KI hl'.lim W'.range rfl (.name rfl) (Ev.callF KG W'.KI rfl (CallOk.lenT W'.len (ds := cs.map .int) (by rw [List.length_map]; omega)) (.cons KG (.name rfl) .nil)) ?_ ?_ ?_ ?_) (ok1 rfl) (fun j => af [("self", .ws cs b nt), ("tabsize", .int t), ("count", .tup (cs.map .int)), ("trailing", .int b), ("il", .int (lvl cs t j))]) (sub_af ⟨rfl, rfl, rfl, rfl, rfl, trivial⟩) (fun j d hd => ?_)) ?_
  · omega
  · omega
  · rw [List.length_map]; omega
  · rw [List.length_map]; omega
  · rw [List.length_map, List.getElem?_map] at hd
    cases hj : (List.range ((cs.length : Int) - t).toNat)[j]? with
    | none => rw [hj] at hd; cases hd
    | some k =>
      obtain ⟨hlt, e⟩ := List.getElem?_eq_some_iff.mp hj
      rw [List.getElem_range] at e
      subst e
      rw [hj] at hd
      cases hd
      rw [List.length_range] at hlt
      have hidx : (t + (j : Int)).toNat < cs.length := by omega
      refine Exs.cons KG (Ex.asg KG (Ev.bin KG (.name rfl) (Ev.bin KG (Ev.bin KG (.name rfl) (.name rfl) (BinOk.fdivS (by omega) (by omega))) (Ev.itemT KG (.name rfl) (.name rfl) (by omega) (by omega) (d := .int (cs.getD (t + j).toNat 0)) ?_) (BinOk.mul (mul_l ?_))) BinOk.add) (ok1 rfl)) (Exs.sub (sub_af ⟨rfl, rfl, rfl, rfl, rfl, trivial⟩))
      · rw [List.getElem?_map, List.getElem?_eq_getElem hidx]
        simp [List.getD, hidx]
      · have h1 : (t + (j : Int)).fdiv t = (t + j) / t := Int.fdiv_eq_ediv_of_nonneg _ (by omega)
        rw [h1]
        have h2 : 0 ≤ (t + (j : Int)) / t := Int.ediv_nonneg (by omega) (by omega)
        have h3 : (t + (j : Int)) / t ≤ t + j := Int.ediv_le_self _ (by omega)
        omega
  · rw [List.length_map, List.length_range, List.length_map]
    refine Exs.retC (Ex.ret (Ev.bin KG (.name rfl) (Ev.bin KG (.name rfl) (Ev.bin KG (.name rfl) (Ev.nt W' rfl) BinOk.add) (BinOk.mul (mul_l (by omega)))) BinOk.add))
end
end Mine
namespace Mine
open PySem PySem.Spec PySem.Calls PyProof.Rows PySem.W
section
variable {prog : Program} {w : World} {A : Around} {E : Value → Shared → Prop} {s : Shared}
theorem setItem_plain {l : Addr} {items : Array Value} {k : Int} {t : Tok} {v : Value} {Q : Unit → Shared → Prop} (hl : s.heap.PlainList l items)
    (h0 : 0 ≤ k) (hfit : k < 2 ^ 63) (hn : k < items.size)
    (hQ : ∀ h', h'.PlainList l (items.setIfInBounds k.toNat v) → Heap.SameBut l s.heap h' → Q () { s with heap := h' }) :
    wpAny (model prog w) A (setItem (.ref l) (.int k t) v) Q E s := by
  obtain ⟨ne, ho⟩ := id hl
  have hT : s.TypeIs (.ref l) "list" := ⟨_, ho, rfl⟩
  unfold setItem
  try with_reducible refine wpAny_holding ?_
  first | refine wpAny_bind (wpAny_pure ?_) | skip
  refine wpAny_bind (wpAny_sequenceKey hT (by decide) ?_)
  refine wpAny_bind (wpAny_callSpecial?_slot (name := Str.ofString "__setitem__") hT slot_list_setitem
    (wpAny_call_entry slot_list_setitem hT entry_list_setitem ?_ (args_list_setitem _ _ _)))
  show wpAny _ _ (Builtin.List.listSubscript? (.int k t) >>= _) _ _ s
  refine wpAny_bind (wpAny_listSubscript_int (fitsIndex_of h0 hfit) ?_)
  clear hfit
  obtain ⟨j, rfl⟩ := Int.eq_ofNat_of_zero_le h0
  have hj : j < items.size := by omega
  have hx' : items[j]? = some items[j] := Array.getElem?_eq_getElem hj
  show wpAny _ _ ((seqItemAt l j >>= fun r => pure (r.map (j, ·))) >>= _) _ _ s
  refine wpAny_bind (wpAny_bind (wpAny_seqItemAt ho rfl (wpAny_pure ?_)))
  rw [hx']
  show wpAny _ _ (setSeqItemAt l j v >>= _) _ _ s
  have U := Heap.get?_update_self (Obj.mapSeq (·.setIfInBounds j v)) ho rfl
  have hfin : (s.heap.update l (Obj.mapSeq (·.setIfInBounds j v))).PlainList l (items.setIfInBounds j v) := ⟨_, U⟩
  refine wpAny_bind (wpAny_setSeqItemAt ho rfl ?_)
  first
    | exact wpAny_bind (wpAny_pure (wpAny_pure ⟨.none, rfl, wpAny_pure (hQ _ hfin (Heap.SameBut.update ..))⟩))
    | exact wpAny_pure ⟨.none, rfl, wpAny_pure (hQ _ hfin (Heap.SameBut.update ..))⟩
/-- two lists joined: a new one -/
theorem addL_new {l b : Addr} {vs us : Array Value} {n n2 : Nat} {Q : Value → Shared → Prop} (e1 : s.heap.get? l = some { cls := .type "list", data := .seq vs n }) (e2 : s.heap.get? b = some { cls := .type "list", data := .seq us n2 }) (hz : vs.size + us.size ≤ sizeLine)
    (h : Q (.ref s.heap.objs.size) { s with heap := s.heap.push { cls := .type "list", data := .seq (vs ++ us) } }) : wpAny (model prog w) A (binaryOp .Add (.ref l) (.ref b)) Q E s :=
  concat_meets ⟨_, e1, rfl⟩ ⟨_, e2, rfl⟩ noFill_list_add seq_list_add PySem.F.slot_list_add PySem.F.entry_list_add (PySem.F.args_list_add_2 _ _) (list_addW l b vs us n n2 none none #[] #[] hz) ⟨e1, e2, h⟩
end
section
variable {c : Cx} {sc : Scope} {ρ ρ' : Str → Option D} {nm : Str} {ds : List D}
theorem EnvOk.reX {X X' : Addr → Prop} {env : Env} {h : Heap} (e : EnvOk X env h ρ) (hcs : env.cells = []) (xt : XT X') (al : AL X' h) (hL : X' env.locals) (hf : ∀ x d, ρ x = some d → Flat d) : EnvOk X' env h ρ := by
  obtain ⟨m, hn, hm⟩ := e.loc
  refine ⟨e.kind, e.glob, e.blt, xt, al, e.ntb, hL, ⟨m, hn, fun x d hx hk => ?_⟩, fun x d hx hk => ?_, fun p hp => ?_, e.apart, e.gl, e.hasC⟩
  · obtain ⟨v, hv, r⟩ := hm x d hx hk
    exact ⟨v, hv, hf x d hx _ _ _ _ _ r⟩
  · obtain ⟨_, c, v, h2, _⟩ := e.cel x d hx hk
    rw [hcs] at h2; cases h2
  · rw [hcs] at hp; cases hp
theorem flat_str (x : Str) : Flat (.str x) := fun _ _ _ _ v r => by obtain ⟨t, rfl⟩ := r.strInv; exact .str x t
theorem CmpOk.eqS (hl : Lim c) {x y : Str} (hx : PyData.strOk x = true) (hy : PyData.strOk y = true) : CmpOk c .Eq (.str x) (.str y) (.bool (PyData.eqv (.str x) (.str y))) := by
  have := CmpOk.eqD hl (a := .str x) (b := .str y) ⟨by rw [D.plain]; exact hx, by unfold SeqAt.shaped; rw [D.py, PyData.canLay0, hx, PyData.depth]; rfl⟩ ⟨by rw [D.plain]; exact hy, by unfold SeqAt.shaped; rw [D.py, PyData.canLay0, hy, PyData.depth]; rfl⟩
  rw [D.py, D.py] at this
  exact this
theorem ints_set {vs : List Value} {ns : List Int} (h : IntsAre vs ns) : ∀ (k : Nat) (v : Int) (t : Tok), IntsAre (vs.set k (.int v t)) (ns.set k v) := by
  induction h with
  | nil => intro k v t; exact .nil
  | cons n u h ih =>
    intro k v t
    cases k with
    | zero => exact .cons v t h
    | succ k => exact .cons n u (ih k v t)
/-- an item of the list, turned -/
theorem Exm.setI (KG : Known c.G) {ip np spos pos : Pos} {ix : Str} {e : Expr} {k : Nat} {ns : List Int} {v : Int} (hix : ρ ix = some (.int (k : Nat))) (hk : k < ns.length) (hz : ns.length ≤ 1000) (he : Ev c sc (upd ρ nm (.list (ns.map .int))) e (.int v))
    (hsw : ∀ env, swapsWith e (some (.Subscript (.Name nm np) (.Name ix ip) spos)) pos.line env = pure false := by intro _; rfl) :
    Exm c sc nm ρ (ns.map .int) (.Assign [.Subscript (.Name nm np) (.Name ix ip) spos] e pos) (.next ρ ((ns.set k v).map .int)) := fun X env A s hs hn hG m => by
  refine wpAny_Assign_Subscript (wp_up (he _ env s hs hG m.read) fun w s₁ h₁ => ?_) (hsw env)
  obtain ⟨t, rfl⟩ := h₁.2.intInv
  have m₁ := m.gw KG hG h₁.1
  refine wpAny_Name (load_ok m₁.eo m₁.nmv fun u r => wpAny_Name (load_ok m₁.eo hix fun i ri => ?_) (m₁.eo.gl _ _ hix)) (m₁.eo.gl _ _ m₁.nmv)
  cases r
  obtain ⟨ti, rfl⟩ := ri.intInv
  obtain ⟨vs, ha, ra⟩ := m₁.at'
  have hsz : vs.size = ns.length := by have := ra.1; simpa using this
  refine setItem_plain ha (by omega) (by omega) (by rw [hsz]; omega) fun h' hl' hs' => ?_
  have kx : ∀ b o, b ≠ A → s₁.heap.get? b = some o → h'.get? b = some o := fun b o hb q => hs'.extBut b o hb q
  have g : Gw (fun a => a = A) s₁ { s₁ with heap := h' } := .heap (tk := s₁.toks) (.all (fun b hb z => m.nt (z ▸ hb)) fun b o hb q => kx b o hb q)
  refine ⟨h₁.1.none.trans (g.wide fun a q => .inr q), rfl, ?_, m.XA, m.nt, m.no, m.nmv, m.lc, ?_⟩
  · refine m₁.eo.leave g (fun a ha => ha ▸ ⟨m.XA, m.no⟩) (fun _ q => q) (fun a q => (own_X m.eo q).1) m.eo.xt fun a ha => ?_
    by_cases hA : a = A
    · obtain ⟨n, q⟩ := hl'; exact ⟨_, hA ▸ q⟩
    · obtain ⟨o, q⟩ := m₁.eo.al a ha; exact ⟨o, kx a o hA q⟩
  · refine ⟨_, hl', .ofInts ?_⟩
    have e1 : (vs.setIfInBounds (k : Int).toNat (.int v t)).toList = vs.toList.set k (.int v t) := by simp
    rw [e1]
    exact ints_set ra.ints k v t
end
end Mine
namespace Mine
open PySem PySem.Spec PySem.Calls PyProof.Rows PySem.W
section
variable {c : Cx} {sc : Scope} {ρ ρ' : Str → Option D} {nm : Str} {ds : List D}
theorem upd_flat {d : D} {x : Str} (h : ∀ x d, ρ x = some d → Flat d) (hd : Flat d) : ∀ y e, upd ρ x d y = some e → Flat e := fun y e hy => by
  unfold upd at hy
  split at hy
  · cases hy; exact hd
  · exact h y e hy
theorem ints_app {vs us : List Value} {ns ms : List Int} (h : IntsAre vs ns) (k : IntsAre us ms) : IntsAre (vs ++ us) (ns ++ ms) := by
  induction h with
  | nil => exact k
  | cons n u _ ih => exact .cons n u ih
/-- `nm = nm + [0] * k`: a new list takes the name -/
theorem rebind (KG : Known c.G) {X : Addr → Prop} {env : Env} {A : Addr} {s : Shared} {np tp bp pos : Pos} {e2 : Expr} {ns : List Int} {k : Nat} {Q : Flow → Shared → Prop} {E : Value → Shared → Prop} (hs : env.scope = sc) (hcs : env.cells = []) (hG : c.G s.heap) (m : Mu X env s.heap ρ A nm (ns.map .int)) (hf : ∀ x d, ρ x = some d → Flat d) (hnd : (nm == ("__debug__" : Str)) = false)
    (he : Ev c sc (upd ρ nm (.list (ns.map .int))) e2 (.list (List.replicate k (.int 0)))) (hz : ns.length + k ≤ 1000)
    (h : ∀ A' s', s.heap.get? A' = none → low ≤ A' → Gw (Own env) s s' → c.G s'.heap → Mu (fun a => X a ∨ a = A') env s'.heap (upd ρ nm (.val (.ref A'))) A' nm ((ns ++ List.replicate k 0).map .int) → Q .next s')
    (hsw : ∀ env, swapsWith (.BinOp (.Name nm np) .Add e2 bp) (some (.Name nm tp)) pos.line env = pure false := by intro _; rfl) :
    wpAny (model c.prog c.w) c.A (exec (.Assign [.Name nm tp] (.BinOp (.Name nm np) .Add e2 bp) pos) env) Q E s := by
  refine wpAny_Assign_Name (wpAny_BinOp (wpAny_Name (load_ok m.eo m.nmv fun u r => ?_) (m.eo.gl _ _ m.nmv))) (hsw env)
  cases r
  refine wp_up (Ev.run he _ env s hs hG m.read) fun v s₁ h₁ => ?_
  obtain ⟨g₁, r₁⟩ := h₁
  obtain ⟨b, us, n2, rfl, hb, e2', r2⟩ := r₁.listInv
  have m₁ := m.gw KG hG g₁
  have hG₁ := KG.keeps _ _ hG g₁.kp
  obtain ⟨vs, ⟨n1, ha⟩, ra⟩ := m₁.at'
  have hsz : vs.size = ns.length := by have := ra.1; simpa using this
  have hsz2 : us.size = k := by have := r2.1; simpa using this
  refine addL_new ha e2' (by rw [hsz, hsz2]; exact szl _ hz) ?_
  have n₁ : s₁.heap.get? s₁.heap.objs.size = none := size_none _ (Nat.le_refl _)
  have n₀ := was_none (X := X) KG hG g₁ n₁
  have big : @LE.le Nat _ low s₁.heap.objs.size := KG.big _ hG₁
  have nt := fresh_ntb KG hG₁ n₁
  have kp : ∀ b o, s₁.heap.get? b = some o → (s₁.heap.push { cls := .type "list", data := .seq (vs ++ us) }).get? b = some o := fun b o q => Heap.get?_push_of_some _ q
  have xt' : XT fun a => X a ∨ a = s₁.heap.objs.size := ⟨fun b hb => .inl (m.eo.xt.tbs b hb), fun a ha => ha.elim (m.eo.xt.hi a) fun (z : a = s₁.heap.objs.size) => .inr (by rw [z]; exact big)⟩
  have G₂ : c.G (s₁.heap.push { cls := .type "list", data := .seq (vs ++ us) }) := KG.keeps _ _ hG₁ (.every kp)
  have eo₂ : EnvOk (fun a => X a ∨ a = s₁.heap.objs.size) env (s₁.heap.push { cls := .type "list", data := .seq (vs ++ us) }) ρ := by
    refine (m₁.eo.gw (s' := { s₁ with heap := s₁.heap.push { cls := .type "list", data := .seq (vs ++ us) } }) KG (.every (tk := s₁.toks) kp) hG₁).reX hcs xt' (fun a ha => ?_) (.inl m.eo.locX) hf
    rcases ha with q | q
    · obtain ⟨o, ho⟩ := m₁.eo.al a q; exact ⟨o, kp _ _ ho⟩
    · have q' : a = s₁.heap.objs.size := q
      exact ⟨_, q' ▸ Heap.get?_push_size _ rfl⟩
  have nX : ¬ X s₁.heap.objs.size := m₁.eo.xok.fresh
  have no : ¬ Own env s₁.heap.objs.size := fun z => nX (own_X m.eo z).1
  refine store_ok (s := { s₁ with heap := s₁.heap.push { cls := .type "list", data := .seq (vs ++ us) } }) eo₂ (.val (.ref s₁.heap.objs.size)) (.inl m.lc) hnd fun s' e' g => ?_
  have g' : Gw (Own env) { s₁ with heap := s₁.heap.push { cls := .type "list", data := .seq (vs ++ us) } } s' := g.wide fun a ha => by
    rcases ha with rfl | ⟨c, q, rfl⟩
    · exact .inl rfl
    · exact .inr ⟨_, mem_of_lookup q, rfl⟩
  have gg : Gw (Own env) s s' := (g₁.none.trans .push).trans g'
  refine h s₁.heap.objs.size s' n₀ big gg (apart_own KG m.eo hG gg) ⟨e', .inr rfl, nt, no, if_pos rfl, m.lc, vs ++ us, ⟨_, g'.kp.keep _ _ no nt (Heap.get?_push_size _ rfl)⟩, ?_⟩
  have e1 : (List.replicate k (D.int 0)) = (List.replicate k (0 : Int)).map .int := by simp
  rw [e1] at r2
  have i1 := ra.ints
  have i2 := r2.ints
  rw [Array.toList_append]
  exact .ofInts (ints_app i1 i2)
end
end Mine
namespace Mine
open PySem PySem.Spec PySem.Calls PyProof.Rows PySem.W
def inFor : Stmt := match (bodyOf (methAt 1)).drop 4 with | f :: _ => f | _ => .Pass default
def inBody : List Stmt := match inFor with | .For _ _ b _ _ => b | _ => []
def inTgt : Expr := match inFor with | .For t _ _ _ _ => t | _ => default
def iL (x A : Addr) (b n nt : Int) : List (Str × D) := [("self", .val (.ref x)), ("S", .str " "), ("T", .str "\t"), ("count", .val (.ref A)), ("b", .int b), ("n", .int n), ("nt", .int nt)]
def iρc (x A : Addr) (ch : Str) (b n nt : Int) : Str → Option D := af (("ch", .str ch) :: iL x A b n nt)
theorem iρc_flat (x A : Addr) (ch : Str) (b n nt : Int) : ∀ y d, iρc x A ch b n nt y = some d → Flat d := fun y d h => by
  have hm := mem_of_lookup h
  have : ∀ p ∈ (("ch", .str ch) :: iL x A b n nt : List (Str × D)), Flat p.2 := by
    intro p hp
    unfold iL at hp
    simp only [List.mem_cons, List.not_mem_nil, or_false] at hp
    rcases hp with rfl | rfl | rfl | rfl | rfl | rfl | rfl | rfl
    all_goals first | exact flat_str _ | exact flat_val _ | exact flat_int _
  exact this _ hm
theorem iρc_sub {ρ : Str → Option D} {x A : Addr} {ch : Str} {b n nt : Int} (h : AllAt ρ [("ch", .str ch), ("self", .val (.ref x)), ("S", .str " "), ("T", .str "\t"), ("count", .val (.ref A)), ("b", .int b), ("n", .int n), ("nt", .int nt)]) : Sub (iρc x A ch b n nt) ρ := sub_af h
section
variable {c : Cx} {sc : Scope} {ρ ρ' : Str → Option D} {nm : Str} {ds : List D}
theorem Exms.sub (k : Sub ρ' ρ) (hn : ρ' nm = ρ nm) : Exms c sc nm ρ ds [] (.next ρ' ds) := fun X env A s _ _ _ m => wpAny_execs_nil ⟨.refl s, rfl, m.sub k (hn.trans m.nmv)⟩
theorem ch_space (W : Wld c) {n : Nat} (hl : LimN n c) {x A : Addr} {b k nt : Int} {ds : List D} : Exms c (scopeOf (methAt 1)) "count" (iρc x A " " b k nt) ds inBody (.next (iρc x A " " (b + 1) (k + 1) nt) ds) := by
  have KG := W.KG
  have he := CmpOk.eqS (c := c) hl.lim (x := " ") (y := " ") (by decide +kernel) (by decide +kernel)
  rw [show PyData.eqv (.str " ") (.str " ") = true from by decide +kernel] at he
  have hb : inBody = [inBody.head!] := rfl
  rw [hb]
  refine Exms.cons KG (Exm.iff KG (EvT.cmp KG (.name rfl) (.name rfl) he) (fun _ => Exms.cons KG (Exm.asgI KG (Ev.bin KG (.name rfl) .intC BinOk.add) (ok1 rfl) (by decide)) (Exms.cons KG (Exm.asgI KG (Ev.bin KG (.name rfl) .intC BinOk.add) (ok1 rfl) (by decide)) (Exms.sub (iρc_sub ⟨rfl, rfl, rfl, rfl, rfl, rfl, rfl, rfl, trivial⟩) rfl))) (fun h => absurd h (by decide))) .nil
theorem ch_stop (W : Wld c) {n : Nat} (hl : LimN n c) {x A : Addr} {b k nt : Int} {ds : List D} : Exms c (scopeOf (methAt 1)) "count" (iρc x A "x" b k nt) ds inBody (.brk (iρc x A "x" b k nt) ds) := by
  have KG := W.KG
  have he := CmpOk.eqS (c := c) hl.lim (x := "x") (y := " ") (by decide +kernel) (by decide +kernel)
  rw [show PyData.eqv (.str "x") (.str " ") = false from by decide +kernel] at he
  have he2 := CmpOk.eqS (c := c) hl.lim (x := "x") (y := "\t") (by decide +kernel) (by decide +kernel)
  rw [show PyData.eqv (.str "x") (.str "\t") = false from by decide +kernel] at he2
  have hb : inBody = [inBody.head!] := rfl
  rw [hb]
  exact Exms.brkC (Exm.iff KG (EvT.cmp KG (.name rfl) (.name rfl) he) (fun h => absurd h (by decide)) (fun _ => Exms.brkC (Exm.iff KG (EvT.cmp KG (.name rfl) (.name rfl) he2) (fun h => absurd h (by decide)) (fun _ => Exms.brkC Exm.brk))))

/-- the counts when a run of so many is closed -/
def bump (cs : List Int) (b : Nat) : List Int :=
  let cs' := if cs.length ≤ b then cs ++ List.replicate (b - cs.length + 1) 0 else cs
  cs'.set b (cs'.getD b 0 + 1)
/-- the inner block's statements, behind the two counters -/
def tabIf : Stmt := match inBody with
  | [.If _ _ [.If _ [_, _, i, _, _] _ _] _] => i
  | _ => .Pass default
def tabSet : Stmt := match inBody with
  | [.If _ _ [.If _ [_, _, _, i, _] _ _] _] => i
  | _ => .Pass default
def tabZ : Stmt := match inBody with
  | [.If _ _ [.If _ [_, _, _, _, i] _ _] _] => i
  | _ => .Pass default
theorem tab_set (W : Wld c) {n : Nat} (hl : LimN n c) {x A : Addr} {ch : Str} {b : Nat} {k nt : Int} {cs : List Int} (hb : b < cs.length) (hz : cs.length ≤ 1000) : Exms c (scopeOf (methAt 1)) "count" (iρc x A ch b k nt) (cs.map .int) [tabSet, tabZ] (.next (iρc x A ch 0 k nt) ((cs.set b (cs.getD b 0 + 1)).map .int)) := by
  have KG := W.KG
  refine Exms.cons KG (Exm.setI KG (k := b) rfl hb hz (Ev.bin KG (Ev.itemL KG (.name rfl) (.name rfl) (by omega) (by omega) (d := .int (cs.getD b 0)) ?_) .intC BinOk.add)) (Exms.cons KG (Exm.asgI KG .intC (ok1 rfl) (by decide)) (Exms.sub (iρc_sub ⟨rfl, rfl, rfl, rfl, rfl, rfl, rfl, rfl, trivial⟩) rfl))
  rw [Int.toNat_natCast, List.getElem?_map, List.getElem?_eq_getElem hb]
  simp [List.getD, hb]
end
end Mine
namespace Mine
open PySem PySem.Spec PySem.Calls PyProof.Rows PySem.W
section
variable {c : Cx} {sc : Scope} {ρ ρ' : Str → Option D} {nm : Str} {ds : List D}
theorem ch_tab (W : Wld c) {n : Nat} (hl : LimN n c) {X : Addr → Prop} {env : Env} {x A : Addr} {b : Nat} {k nt : Int} {cs : List Int} {s : Shared} {Q : Flow → Shared → Prop} {E : Value → Shared → Prop} (hs : env.scope = scopeOf (methAt 1)) (hcs : env.cells = []) (hG : c.G s.heap) (m : Mu X env s.heap (iρc x A "\t" b k nt) A "count" (cs.map .int)) (hz : cs.length ≤ 900) (hb : b ≤ 900)
    (h : ∀ X' A' s', (A' = A ∨ s.heap.get? A' = none) → (∀ a, X a → X' a) → (∀ a, X' a → X a ∨ a = A') → Gw (fun a => Own env a ∨ a = A ∨ a = A') s s' → c.G s'.heap → Mu X' env s'.heap (iρc x A' "\t" 0 (k + 1) (nt + 1)) A' "count" ((bump cs b).map .int) → Q .next s') :
    wpAny (model c.prog c.w) c.A (execs inBody env) Q E s := by
  have KG := W.KG
  have hn : ∀ x, OwnN env x := fun x c' hc' => by rw [hcs] at hc'; cases hc'
  have he := CmpOk.eqS (c := c) hl.lim (x := "\t") (y := " ") (by decide +kernel) (by decide +kernel)
  rw [show PyData.eqv (.str "\t") (.str " ") = false from by decide +kernel] at he
  have he2 := CmpOk.eqS (c := c) hl.lim (x := "\t") (y := "\t") (by decide +kernel) (by decide +kernel)
  rw [show PyData.eqv (.str "\t") (.str "\t") = true from by decide +kernel] at he2
  have hb0 : inBody = [inBody.head!] := rfl
  rw [hb0]
  refine wpAny_execs_cons (wpAny_If (wp_up (EvT.run (c := c) (sc := scopeOf (methAt 1)) (ρ := iρc x A "\t" b k nt) (EvT.cmp KG (.name rfl) (.name rfl) he) X env s hs hG m.eo) fun r s₁ h₁ => ?_))
  obtain ⟨g₁, rfl⟩ := h₁
  have hG₁ := KG.keeps _ _ hG g₁.kp
  have m₁ := m.gw KG hG g₁
  refine wpAny_execs_cons (wpAny_If (wp_up (EvT.run (c := c) (sc := scopeOf (methAt 1)) (ρ := iρc x A "\t" b k nt) (EvT.cmp KG (.name rfl) (.name rfl) he2) X env s₁ hs hG₁ m₁.eo) fun r s₂ h₂ => ?_))
  obtain ⟨g₂, rfl⟩ := h₂
  have hG₂ := KG.keeps _ _ hG₁ g₂.kp
  have m₂ := m₁.gw KG hG₁ g₂
  refine wpAny_execs_cons (wp_up (Exm.asgI (c := c) (sc := scopeOf (methAt 1)) KG (Ev.bin KG (.name rfl) .intC BinOk.add) (ok1 rfl) (by decide) (fun _ => rfl) X env A s₂ hs hn hG₂ m₂) fun f s₃ h₃ => ?_)
  obtain ⟨g₃, rfl, m₃⟩ := h₃
  have hG₃ := mu_G KG m₂ hG₂ g₃
  refine wpAny_execs_cons (wp_up (Exm.asgI (c := c) (sc := scopeOf (methAt 1)) KG (Ev.bin KG (.name rfl) .intC BinOk.add) (ok1 rfl) (by decide) (fun _ => rfl) X env A s₃ hs hn hG₃ m₃) fun f s₄ h₄ => ?_)
  obtain ⟨g₄, rfl, m₄⟩ := h₄
  have hG₄ := mu_G KG m₃ hG₃ g₄
  have m₄' : Mu X env s₄.heap (iρc x A "\t" b (k + 1) (nt + 1)) A "count" (cs.map .int) := m₄.sub (iρc_sub ⟨rfl, rfl, rfl, rfl, rfl, rfl, rfl, rfl, trivial⟩) rfl
  have gg₄ : Gw (fun a => Own env a ∨ a = A) s s₄ := ((g₁.none.trans g₂.none).trans g₃).trans g₄
  have hlen : ((cs.map D.int).length : Int) = cs.length := by simp
  have fin : ∀ (X' : Addr → Prop) (A' : Addr) (s₅ : Shared) (cs' : List Int) (Q2 : Flow → Shared → Prop), (A' = A ∨ s.heap.get? A' = none) → (∀ a, X a → X' a) → (∀ a, X' a → X a ∨ a = A') → Gw (fun a => Own env a ∨ a = A ∨ a = A') s s₅ → c.G s₅.heap → Mu X' env s₅.heap (iρc x A' "\t" b (k + 1) (nt + 1)) A' "count" (cs'.map .int) → b < cs'.length → cs'.length ≤ 1000 → cs'.set b (cs'.getD b 0 + 1) = bump cs b →
      (∀ s', Q .next s' → Q2 .next s') → wpAny (model c.prog c.w) c.A (execs [tabSet, tabZ] env) Q2 E s₅ := fun X' A' s₅ cs' Q2 h1 h2 h3 h4 h5 h6 h7 h8 h9 hq => by
    refine wp_up (tab_set W hl h7 h8 X' env A' s₅ hs hn h5 h6) fun f s₆ h₆ => ?_
    obtain ⟨g₆, rfl, m₆⟩ := h₆
    rw [h9] at m₆
    exact hq s₆ (h X' A' s₆ h1 h2 h3 (h4.trans (g₆.wide fun a q => q.elim .inl fun z => .inr (.inr z))) (mu_G KG h6 h5 g₆) m₆)
  by_cases hlt : b < cs.length
  · have hge := CmpOk.ge (c := c) (a := (b : Int)) (b := ((cs.map D.int).length : Nat))
    rw [show decide ((((cs.map D.int).length : Nat) : Int) ≤ (b : Int)) = false from decide_eq_false (by rw [List.length_map]; omega)] at hge
    refine wpAny_execs_cons (wp_up (Exm.iff (c := c) (sc := scopeOf (methAt 1)) (fl := .next (iρc x A "\t" b (k + 1) (nt + 1)) (cs.map .int)) KG (EvT.cmp KG (.name rfl) (Ev.callF KG W.KI rfl (.len W.len (by rw [List.length_map]; omega)) (.cons KG (.name rfl) .nil)) hge) (fun h => absurd h (by decide)) (fun _ => .nil) X env A s₄ hs hn hG₄ m₄') fun f s₅ h₅ => ?_)
    obtain ⟨g₅, rfl, m₅⟩ := h₅
    exact fin X A s₅ cs _ (.inl rfl) (fun _ q => q) (fun _ q => .inl q) ((gg₄.trans g₅).wide fun a q => q.imp id .inl) (mu_G KG m₄' hG₄ g₅) m₅ hlt (by omega) (by unfold bump; rw [if_neg (by omega)]) fun s' q => wpAny_execs_nil (wpAny_execs_nil q)
  · have hge := CmpOk.ge (c := c) (a := (b : Int)) (b := ((cs.map D.int).length : Nat))
    rw [show decide ((((cs.map D.int).length : Nat) : Int) ≤ (b : Int)) = true from decide_eq_true (by rw [List.length_map]; omega)] at hge
    refine wpAny_execs_cons (wpAny_If (wp_up (EvT.run (c := c) (sc := scopeOf (methAt 1)) (EvT.cmp KG (.name rfl) (Ev.callF KG W.KI rfl (.len W.len (by rw [List.length_map]; omega)) (.cons KG (.name rfl) .nil)) hge) _ env s₄ hs hG₄ m₄'.read) fun r s₅ h₅ => ?_))
    obtain ⟨g₅, rfl⟩ := h₅
    have hG₅ := KG.keeps _ _ hG₄ g₅.kp
    have m₅ := m₄'.gw KG hG₄ g₅
    have e3 : ((b : Int) - ((cs.map D.int).length : Nat) + 1).toNat = b - cs.length + 1 := by rw [List.length_map]; omega
    have hmul := BinOk.mulL (c := c) (d := .int 0) (k := (b : Int) - ((cs.map D.int).length : Nat) + 1) (by rw [List.length_map]; omega) (by rw [List.length_map]; omega)
    rw [e3] at hmul
    refine wpAny_execs_cons (rebind (c := c) (sc := scopeOf (methAt 1)) (k := b - cs.length + 1) KG hs hcs hG₅ m₅ (iρc_flat _ _ _ _ _ _) rfl (Ev.bin KG (Ev.list KG (.cons KG .intC .nil) (szl _ (Nat.le_of_ble_eq_true rfl))) (Ev.bin KG (Ev.bin KG (.name rfl) (Ev.callF KG W.KI rfl (.len W.len (by rw [List.length_map]; omega)) (.cons KG (.name rfl) .nil)) BinOk.sub) .intC BinOk.add) hmul) (by omega) fun A' s₆ hA' hA'l g₆ hG₆ m₆ => ?_)
    have m₆' : Mu (fun a => X a ∨ a = A') env s₆.heap (iρc x A' "\t" b (k + 1) (nt + 1)) A' "count" ((cs ++ List.replicate (b - cs.length + 1) 0).map .int) := m₆.sub (iρc_sub ⟨rfl, rfl, rfl, rfl, rfl, rfl, rfl, rfl, trivial⟩) rfl
    refine wpAny_execs_nil ?_
    refine fin _ A' s₆ (cs ++ List.replicate (b - cs.length + 1) 0) _ (.inr ?_) (fun _ q => .inl q) (fun _ q => q) (((gg₄.trans g₅.none).wide fun a q => q.imp id .inl).trans (g₆.wide fun a q => .inl q)) hG₆ m₆' ?_ ?_ ?_ fun s' q => wpAny_execs_nil (wpAny_execs_nil q)
    · cases e : s.heap.get? A' with
      | none => rfl
      | some o =>
        by_cases ht : tb A'
        · obtain ⟨ps, q⟩ := KG.table _ hG₅ A' ht; rw [hA'] at q; cases q
        · by_cases ho : Own env A' ∨ A' = A
          · have hX : X A' := ho.elim (fun q => (own_X m.eo q).1) fun z => z ▸ m.XA
            obtain ⟨o', q⟩ := m₅.eo.al _ hX
            rw [hA'] at q; cases q
          · have := (gg₄.trans g₅.none).kp.keep A' o ho ht e
            rw [hA'] at this; cases this
    · rw [List.length_append, List.length_replicate]; omega
    · rw [List.length_append, List.length_replicate]; omega
    · unfold bump; rw [if_pos (by omega)]
end
end Mine
namespace Mine
open PySem PySem.Spec PySem.Calls PyProof.Rows PySem.W
/-- counts, run, all, tabs -/
structure RS where
  cs : List Int
  b : Nat
  n : Int
  nt : Int
def RS.step (r : RS) (ch : Nat) : RS := if ch = 32 then ⟨r.cs, r.b + 1, r.n + 1, r.nt⟩ else ⟨bump r.cs r.b, 0, r.n + 1, r.nt + 1⟩
def runC (r : RS) (l : List Nat) : RS := l.foldl RS.step r
theorem runC_len : ∀ (l : List Nat) (r : RS) (i : Nat), r.b ≤ i → r.cs.length ≤ i + 1 → (runC r l).b ≤ i + l.length ∧ (runC r l).cs.length ≤ i + l.length + 1
  | [], r, i, h1, h2 => ⟨h1, h2⟩
  | ch :: l, r, i, h1, h2 => by
    have : (r.step ch).b ≤ i + 1 ∧ (r.step ch).cs.length ≤ i + 1 + 1 := by
      unfold RS.step
      split
      · exact ⟨by show r.b + 1 ≤ i + 1; omega, by show r.cs.length ≤ _; omega⟩
      · refine ⟨Nat.zero_le _, ?_⟩
        show (bump r.cs r.b).length ≤ _
        unfold bump
        rw [List.length_set]
        split
        · rw [List.length_append, List.length_replicate]; omega
        · omega
    have := runC_len l (r.step ch) (i + 1) this.1 this.2
    show (runC (r.step ch) l).b ≤ _ ∧ (runC (r.step ch) l).cs.length ≤ _
    rw [List.length_cons]
    omega
section
variable {c : Cx} {sc : Scope} {ρ ρ' : Str → Option D} {nm : Str} {ds : List D}
theorem Mu.flat (KG : Known c.G) {X Y : Addr → Prop} {env : Env} {h h' : Heap} {A : Addr} {ns : List Int} (m : Mu X env h ρ A nm (ns.map .int)) (hG' : c.G h') (hcs : env.cells = []) (k : Kp Y h h') (hY : ∀ a, Y a → ¬ X a) (hf : ∀ x d, ρ x = some d → Flat d) : Mu X env h' ρ A nm (ns.map .int) := by
  obtain ⟨vs, ha, ra⟩ := m.at'
  exact ⟨m.eo.flat KG hG' hcs k hY hf, m.XA, m.nt, m.no, m.nmv, m.lc, vs, ha.at fun o q => k.keep _ o (fun z => hY A z m.XA) m.nt q, .ofInts ra.ints⟩
def iρ0 (x A : Addr) (b n nt : Int) : Str → Option D := af (iL x A b n nt)
theorem iρ0_sub {ρ : Str → Option D} {x A : Addr} {b n nt : Int} (h : AllAt ρ [("self", .val (.ref x)), ("S", .str " "), ("T", .str "\t"), ("count", .val (.ref A)), ("b", .int b), ("n", .int n), ("nt", .int nt)]) : Sub (iρ0 x A b n nt) ρ := sub_af h
theorem iρ0_flat (x A : Addr) (b n nt : Int) : ∀ y d, iρ0 x A b n nt y = some d → Flat d := fun y d h => by
  refine iρc_flat x A "x" b n nt y d ?_
  have h0 : iρ0 x A b n nt y = some d := h
  exact (iρ0_sub (ρ := iρc x A "x" b n nt) ⟨rfl, rfl, rfl, rfl, rfl, rfl, rfl, trivial⟩) y d h0
theorem chr (ch : Nat) (h : ch = 32 ∨ ch = 9 ∨ ch = 120) : (⟨#[ch]⟩ : Str) = (if ch = 32 then (" " : Str) else if ch = 9 then ("\t" : Str) else ("x" : Str)) := by
  rcases h with rfl | rfl | rfl <;> decide +kernel

theorem in_loop (W : Wld c) {n : Nat} (hl : LimN n c) {X : Addr → Prop} {env : Env} {x A I : Addr} {s₁ : Shared} {body : List Nat} {text : Str} {t : Tok} (hs : env.scope = scopeOf (methAt 1)) (hcs : env.cells = []) (htext : text.cps.toList = body ++ [120]) (hbody : ∀ ch ∈ body, ch = 32 ∨ ch = 9) (hlen : body.length ≤ 800) (hI : ¬ tb I) (hIX : ¬ X I) (hIl : low ≤ I)
    (hX : AL X s₁.heap) (hit : s₁.heap.IsStrIter I "str_ascii_iterator" text t 0) (hG : c.G s₁.heap) (m : Mu X env s₁.heap (iρ0 x A 0 0 0) A "count" []) {R : Result → Shared → Prop}
    (h : ∀ X' A' s', (A' = A ∨ s₁.heap.get? A' = none) → Gw (fun a => Own env a ∨ a = A ∨ a = I ∨ s₁.heap.get? a = none) s₁ s' → c.G s'.heap → Mu X' env s'.heap (iρ0 x A' (runC ⟨[], 0, 0, 0⟩ body).b (runC ⟨[], 0, 0, 0⟩ body).n (runC ⟨[], 0, 0, 0⟩ body).nt) A' "count" ((runC ⟨[], 0, 0, 0⟩ body).cs.map .int) → (∀ a, X a → X' a) → R (.ok .next) s') :
    codeAny (model c.prog c.w) c.A (.forLoop inTgt (.ref I) inBody [] env) R s₁ := by
  have KG := W.KG
  have hn : ∀ x, OwnN env x := fun x c' hc' => by rw [hcs] at hc'; cases hc'
  have hsize : text.cps.size = body.length + 1 := by rw [← Array.length_toList, htext]; simp
  have hget : ∀ j, text.cps[j]? = (body ++ [120])[j]? := fun j => by rw [← htext, Array.getElem?_toList]
  refine codeAny_forLoop (fun k s' => ∃ (j : Nat) (X' : Addr → Prop) (A' : Addr), k = body.length + 1 - j ∧ j ≤ body.length ∧ (A' = A ∨ s₁.heap.get? A' = none) ∧ (∀ a, X a → X' a) ∧ (∀ a, X' a → X a ∨ (a ≠ I ∧ s₁.heap.get? a = none)) ∧ c.G s'.heap ∧ s'.heap.IsStrIter I "str_ascii_iterator" text t j ∧
      Mu X' env s'.heap (iρ0 x A' (runC ⟨[], 0, 0, 0⟩ (body.take j)).b (runC ⟨[], 0, 0, 0⟩ (body.take j)).n (runC ⟨[], 0, 0, 0⟩ (body.take j)).nt) A' "count" ((runC ⟨[], 0, 0, 0⟩ (body.take j)).cs.map .int) ∧ Gw (fun a => Own env a ∨ a = A ∨ a = I ∨ s₁.heap.get? a = none) s₁ s') (fun k s' hI' => ?_) (body.length + 1)
    ⟨0, X, A, rfl, Nat.zero_le _, .inl rfl, fun _ q => q, fun _ q => .inl q, hG, hit, m, .refl _⟩
  obtain ⟨j, X', A', rfl, hj, hA', hX1, hX2, hG', hit', m', g'⟩ := hI'
  have hIX' : ∀ a, a = I → ¬ X' a := fun a ha z => by
    rcases hX2 a z with q | q
    · exact hIX (ha ▸ q)
    · exact q.1 ha
  have hlenj : (runC ⟨[], 0, 0, 0⟩ (body.take j)).b ≤ j ∧ (runC ⟨[], 0, 0, 0⟩ (body.take j)).cs.length ≤ j + 1 := by
    have := runC_len (body.take j) ⟨[], 0, 0, 0⟩ 0 (Nat.zero_le _) (Nat.zero_le _)
    have hl' : (body.take j).length ≤ j := by rw [List.length_take]; omega
    omega
  obtain ⟨ch, hch⟩ : ∃ ch, (body ++ [120])[j]? = some ch := by
    refine ⟨(body ++ [120])[j]'(by rw [List.length_append]; simp; omega), List.getElem?_eq_getElem _⟩
  generalize hr : runC ⟨[], 0, 0, 0⟩ (body.take j) = r at *
  refine wpAny_pyNext_ascii_item hit' (by rw [hget]; exact hch) fun h' hit₂ hs₂ => ?_
  have g₂ : Gw (fun a => a = I) s' { s' with heap := h', toks := s'.toks + 1 } := .heap (.all (fun b hb z => hI (z ▸ hb)) fun b o hb q => hs₂.extBut b o hb q)
  have hG₂ : c.G h' := KG.apart _ _ _ (fun a (ha : a = I) => .inr (ha ▸ hIl)) hG' g₂.kp
  have m₂ := m'.flat KG hG₂ hcs g₂.kp hIX' (iρ0_flat _ _ _ _ _)
  have hch3 : ch = 32 ∨ ch = 9 ∨ ch = 120 := by
    have := List.mem_of_getElem? hch
    rcases List.mem_append.mp this with q | q
    · rcases hbody ch q with z | z
      · exact .inl z
      · exact .inr (.inl z)
    · exact .inr (.inr (by simpa using q))
  refine wpAny_assign_Name (Mu.store (s := { s' with heap := h', toks := s'.toks + 1 }) m₂ hs (.str ⟨#[ch]⟩ _) (ok1 rfl) (by decide) fun s₃ m₃ g₃ => ?_)
  have hG₃ : c.G s₃.heap := apart_own KG m₂.eo hG₂ g₃
  have m₃' : Mu X' env s₃.heap (iρc x A' ⟨#[ch]⟩ r.b r.n r.nt) A' "count" (r.cs.map .int) := m₃.sub (iρc_sub ⟨rfl, rfl, rfl, rfl, rfl, rfl, rfl, rfl, trivial⟩) rfl
  have hit₃ : s₃.heap.IsStrIter I "str_ascii_iterator" text t (j + 1) := by
    obtain ⟨o, ho, r⟩ := hit₂
    exact ⟨o, g₃.kp.keep _ o (fun z => hIX' I rfl (own_X m'.eo z).1) hI ho, r⟩
  have gg₃ : Gw (fun a => Own env a ∨ a = A ∨ a = I ∨ s₁.heap.get? a = none) s₁ s₃ := (g'.trans (g₂.wide fun a q => .inr (.inr (.inl q)))).trans (g₃.wide fun a q => .inl q)
  have keepI : ∀ {Y : Addr → Prop} {s₄ : Shared}, Gw Y s₃ s₄ → (∀ a, Y a → X' a ∨ s₃.heap.get? a = none) → s₄.heap.IsStrIter I "str_ascii_iterator" text t (j + 1) := fun g hY => by
    obtain ⟨o, ho, r⟩ := hit₃
    exact ⟨o, g.kp.keep _ o (fun z => by
      rcases hY I z with q | q
      · exact hIX' I rfl q
      · rw [ho] at q; cases q) hI ho, r⟩
  rw [chr ch hch3] at m₃'
  have hadv : j < body.length → ∀ ch', body[j]? = some ch' → runC ⟨[], 0, 0, 0⟩ (body.take (j + 1)) = r.step ch' := fun hlt ch' he => by
    rw [List.take_add_one, he]
    unfold runC
    rw [List.foldl_append]
    show RS.step (runC ⟨[], 0, 0, 0⟩ (body.take j)) ch' = _
    rw [hr]
  by_cases hlast : j = body.length
  · have h120 : ch = 120 := by
      rw [hlast, List.getElem?_append_right (Nat.le_refl _), Nat.sub_self] at hch
      simpa using hch.symm
    subst h120
    have e1 : (if (120 : Nat) = 32 then (" " : Str) else if (120 : Nat) = 9 then ("\t" : Str) else ("x" : Str)) = "x" := rfl
    rw [e1] at m₃'
    refine wp_up (ch_stop W hl X' env A' s₃ hs hn hG₃ m₃') fun f s₄ h₄ => ?_
    obtain ⟨g₄, rfl, m₄⟩ := h₄
    have hall : body.take j = body := by rw [hlast, List.take_length]
    rw [hall] at hr
    refine h X' A' s₄ hA' (gg₃.trans (g₄.wide fun a q => ?_)) (mu_G KG m₃' hG₃ g₄) ?_ hX1
    · rcases q with q | rfl
      · exact .inl q
      · rcases hA' with rfl | q
        · exact .inr (.inl rfl)
        · exact .inr (.inr (.inr q))
    · rw [hr]
      exact m₄.sub (iρ0_sub ⟨rfl, rfl, rfl, rfl, rfl, rfl, rfl, trivial⟩) rfl
  · have hlt : j < body.length := by omega
    have hbj : body[j]? = some ch := by rw [List.getElem?_append_left hlt] at hch; exact hch
    have hch2 := hbody ch (List.mem_of_getElem? hbj)
    have hstep := hadv hlt ch hbj
    have hwA : ∀ a, a = A' → Own env a ∨ a = A ∨ a = I ∨ s₁.heap.get? a = none := fun a ha => by
      subst ha
      rcases hA' with rfl | q
      · exact .inr (.inl rfl)
      · exact .inr (.inr (.inr q))
    rcases hch2 with rfl | rfl
    · have e1 : (if (32 : Nat) = 32 then (" " : Str) else if (32 : Nat) = 9 then ("\t" : Str) else ("x" : Str)) = " " := rfl
      rw [e1] at m₃'
      refine wp_up (ch_space W hl X' env A' s₃ hs hn hG₃ m₃') fun f s₄ h₄ => ?_
      obtain ⟨g₄, rfl, m₄⟩ := h₄
      refine ⟨body.length + 1 - (j + 1), by omega, j + 1, X', A', rfl, by omega, hA', hX1, hX2, mu_G KG m₃' hG₃ g₄, keepI g₄ (fun a q => q.elim (fun z => .inl (own_X m₃'.eo z).1) fun z => .inl (z ▸ m₃'.XA)), ?_, gg₃.trans (g₄.wide fun a q => q.elim .inl (hwA a))⟩
      rw [hstep]
      have e2 : ((r.b : Nat) : Int) + 1 = ((r.b + 1 : Nat) : Int) := by omega
      rw [e2] at m₄
      exact m₄.sub (iρ0_sub ⟨rfl, rfl, rfl, rfl, rfl, rfl, rfl, trivial⟩) rfl
    · have e1 : (if (9 : Nat) = 32 then (" " : Str) else if (9 : Nat) = 9 then ("\t" : Str) else ("x" : Str)) = "\t" := rfl
      rw [e1] at m₃'
      refine ch_tab W hl hs hcs hG₃ m₃' (by omega) (by omega) fun X'' A'' s₄ hA'' hX3 hX4 g₄ hG₄ m₄ => ?_
      have hnone : A'' = A' ∨ s₁.heap.get? A'' = none := by
        rcases hA'' with q | q
        · exact .inl q
        · right
          cases e : s₁.heap.get? A'' with
          | none => rfl
          | some o =>
            by_cases ht : tb A''
            · obtain ⟨ps, z⟩ := KG.table _ hG₃ A'' ht; rw [q] at z; cases z
            · by_cases hy : Own env A'' ∨ A'' = A ∨ A'' = I ∨ s₁.heap.get? A'' = none
              · exfalso
                rcases hy with z | z | z | z
                · obtain ⟨o', z'⟩ := m₃'.eo.al _ (own_X m₃'.eo z).1; rw [q] at z'; cases z'
                · obtain ⟨o', z'⟩ := m₃'.eo.al A (hX1 A m.XA); rw [z] at q; rw [q] at z'; cases z'
                · obtain ⟨o', z', _⟩ := hit₃; rw [z] at q; rw [q] at z'; cases z'
                · rw [e] at z; cases z
              · have := gg₃.kp.keep A'' o hy ht e
                rw [q] at this; cases this
      have hneI : A'' ≠ I := by
        rcases hA'' with q | q
        · exact fun z => hIX' I rfl (by rw [← z, q]; exact m₃'.XA)
        · intro z; obtain ⟨o', z', _⟩ := hit₃; rw [z] at q; rw [q] at z'; cases z'
      have hA1 : A'' = A ∨ s₁.heap.get? A'' = none := by
        rcases hnone with q | q
        · rw [q]; exact hA'
        · exact .inr q
      refine ⟨body.length + 1 - (j + 1), by omega, j + 1, X'', A'', rfl, by omega, hA1, fun a q => hX3 a (hX1 a q), fun a q => ?_, hG₄, keepI g₄ (fun a q => ?_), ?_, gg₃.trans (g₄.wide fun a q => ?_)⟩
      · rcases hX4 a q with z | z
        · exact hX2 a z
        · subst z
          rcases hnone with y | y
          · rw [y]; exact hX2 A' m₃'.XA
          · exact .inr ⟨hneI, y⟩
      · rcases q with z | z | z
        · exact .inl (own_X m₃'.eo z).1
        · exact .inl (z ▸ m₃'.XA)
        · subst z
          rcases hA'' with y | y
          · exact .inl (y ▸ m₃'.XA)
          · exact .inr y
      · rw [hstep]
        exact m₄.sub (iρ0_sub ⟨rfl, rfl, rfl, rfl, rfl, rfl, rfl, trivial⟩) rfl
      · rcases q with z | z | z
        · exact .inl z
        · exact hwA a z
        · subst z
          rcases hA1 with y | y
          · exact .inr (.inl y)
          · exact .inr (.inr (.inr y))
end
end Mine
namespace Mine
open PySem PySem.Spec PySem.Calls PyProof.Rows PySem.W
section
variable {c : Cx} {sc : Scope} {ρ ρ' : Str → Option D}
/-- a function entered, by its code -/
theorem enterC (KG : Known c.G) {a : Addr} {name qual : Str} {params : Arguments} {body : List Stmt} {scope : Scope} {dV kV cdv : Value} (Fa : FnAt c a name qual params body scope dV kV cdv) {pos : List Value} {kw : List (Str × Value)} {binds : List (Str × Value)} {ds : List D} {X : Addr → Prop} {s : Shared} {R : Result → Shared → Prop}
    (hroom : c.A.depth < recursionLimit) (hG : c.G s.heap) (xo : Xok X s.heap)
    (hbind : ∀ fd : FuncData, (∃ doc pm an ct, fd = fnX name qual params body scope [] dV kV doc pm an cdv ct) → BindsTo s fd ⟨pos, kw⟩ binds) (hr : RdAll X s.heap (binds.map (·.2)) ds)
    (hcell : ∀ x ∈ scope.names, x.2 ≠ .cell) (hloc : ∀ x ∈ binds, scope.names.lookup x.1 = some .local ∧ (x.1 == ("__debug__" : Str)) = false)
    (h : ∀ env s₁, env.scope = scope → env.cells = [] → Gw noX s s₁ → EnvOk (callX X env.locals) env s₁.heap (updAll (fun _ => none) (binds.map (·.1)) ds) → s.heap.get? env.locals = none → ¬ X env.locals → c.G s₁.heap →
      wpAny (model c.prog c.w) (c.A.deeper env) (execs body env) (fun f s' => R (.ok (.ret (match f with | .ret v => v | _ => .none))) s') noE s₁)
    (hco : scope.isCoroutine = false) (hgen : scope.isGenerator = false) (hk : scope.kind = .function) :
    codeAny (model c.prog c.w) c.A (.call (.ref a) ⟨pos, kw⟩) R s := by
  obtain ⟨hlim, fo, doc, pm, an, ct, ho, hd, hcd⟩ := Fa.get _ hG
  refine codeAny_call_def hroom ho hd hlim hcd rfl (hbind _ ⟨_, _, _, _, rfl⟩) hcell (fun x hx => (hloc x hx).1) (fun h₁ hns hk₁ => ?_) hco hgen hk
  have g : Gw noX s { s with heap := h₁, toks := s.toks + binds.length } := .every hk₁
  obtain ⟨eo, hLn, hLX⟩ := frame_ok KG (env := callEnv (fnX name qual params body scope [] dV kV doc pm an cdv ct) s.heap.objs.size a) hG xo hk rfl rfl rfl rfl hns hk₁ hr hcell hloc
  exact wpAny_mono (h _ _ rfl rfl g eo hLn hLX (KG.keeps _ _ hG g.kp)) (fun f s' hq => hq) fun _ _ x => x.elim

/-- the class's two texts -/
theorem Ev.clsS (W : Wld c) {np pos : Pos} (hk : sc.names.lookup ("Whitespace" : Str) = some .globalImplicit) : Ev c sc ρ (.Attribute (.Name "Whitespace" np) "S" pos) (.str " ") := fun X env s hs hG eo => by
  refine Attribute_name (W.ws.g.load hG eo.kind eo.glob eo.blt (by unfold Env.kindOf; rw [hs]; exact hk) (by decide) ?_)
  obtain ⟨t, ht⟩ := W.ws.S
  exact cls_value (W.KI _ hG) W.ws.rd ht (by rfl) ⟨.same, .str _ t⟩
theorem Ev.clsT (W : Wld c) {np pos : Pos} (hk : sc.names.lookup ("Whitespace" : Str) = some .globalImplicit) : Ev c sc ρ (.Attribute (.Name "Whitespace" np) "T" pos) (.str "\t") := fun X env s hs hG eo => by
  refine Attribute_name (W.ws.g.load hG eo.kind eo.glob eo.blt (by unfold Env.kindOf; rw [hs]; exact hk) (by decide) ?_)
  obtain ⟨t, ht⟩ := W.ws.T
  exact cls_value (W.KI _ hG) W.ws.rd ht (by rfl) ⟨.same, .str _ t⟩
/-- two names, stored the other way round -/
theorem Ex.asgSwap2 (KG : Known c.G) (hl : Lim c) {x y : Str} {px py p pos : Pos} {k : Nat} {e : Expr} {d1 d2 : D} (h : Ev c sc ρ e (.tup [d1, d2])) (hx : okName sc x) (hy : okName sc y) (hne : x ≠ y)
    (hsw : ∀ env, swapsWithSole [.Tuple [.Name x px, .Name y py] k p] e pos.line env = pure false := by intro _; rfl) (hw : ∀ env : Env, env.scope = sc → swappedStores [.Tuple [.Name x px, .Name y py] k p] e env = pure (some [x, y])) :
    Ex c sc ρ (.Assign [.Tuple [.Name x px, .Name y py] k p] e pos) (.next (upd (upd ρ y d2) x d1)) := fun X env s hs hn hG eo => by
  refine Assign_Tuple_swapped (names := [x, y]) (wp_up (h X env s hs hG eo) fun v s₁ h₁ => ?_) (hsw env) (hw env hs)
  obtain ⟨g, r⟩ := h₁
  have eo₁ := eo.gw KG g hG
  obtain ⟨t, o, vs, n, rfl, hxt, e1, e2, e3, ra⟩ := r.tupInv
  have hsz : vs.size = 2 := by have := ra.1; simpa using this
  have hT : s₁.heap.IsTuple t vs := ⟨o, e1, e2, n, e3⟩
  show wpAny _ _ (unpackItems (.ref t) 2 none) _ _ _
  rw [← hsz]
  refine wpAny_unpackItems_tuple hl.hand hT fun h' hk => ?_
  obtain ⟨v1, us, hv, r1, ra⟩ := ra.consInv
  obtain ⟨v2, us, rfl, r2, ra⟩ := ra.consInv
  rw [ra.nilInv] at hv
  rw [hv]
  have hk' : ∀ b o, s₁.heap.get? b = some o → h'.get? b = some o := fun b o q => hk b o (Nat.ne_of_lt (Heap.lt_size q)) q
  have g' : Gw noX s₁ { s₁ with heap := h' } := .every (tk := s₁.toks) hk'
  have eo₂ : EnvOk X env h' ρ := eo₁.gw (s' := { s₁ with heap := h' }) KG g' (KG.keeps _ _ hG g.kp)
  have r1' := r1.mono (h' := h') fun b o _ q => hk' b o q
  have r2' := r2.mono (h' := h') fun b o _ q => hk' b o q
  show wpAny _ _ (do holding [v1] (bindName env y v2); assignInOrder [bindName env x] [v1]) _ _ _
  refine wpAny_bind (wpAny_holding (wp_up (store_own (s := { s₁ with heap := h' }) eo₂ hs r2' hy (hn y)) fun _ s₃ h₃ => ?_))
  show wpAny _ _ (do holding [] (bindName env x v1); assignInOrder [] []) _ _ _
  refine wpAny_bind (wpAny_holding (wp_up (store_own h₃.1 hs (gw_own (s := { s₁ with heap := h' }) eo₂ h₃.2 r1') hx (hn x)) fun _ s₄ h₄ => ?_))
  refine wpAny_pure ⟨(g.none.trans g'.none).trans ((h₃.2.trans h₄.2).wide fun a ha => chg_own ha), rfl, h₄.1⟩
end
end Mine
namespace Mine
open PySem PySem.Spec PySem.Calls PyProof.Rows PySem.W
section
variable {c : Cx} {sc : Scope} {ρ ρ' : Str → Option D}
/-- an instance in the making -/
structure DI (s : Shared) (x dx : Addr) (es : List DictEntry) : Prop where
  at' : s.heap.get? x = some (instObj 83 dx)
  dict : ∃ n, s.heap.get? dx = some (dictOf es n)
theorem DI.gw {X : Addr → Prop} {s s' : Shared} {x dx : Addr} {es : List DictEntry} (d : DI s x dx es) (g : Gw X s s') (hx : ¬ X x ∧ ¬ tb x) (hd : ¬ X dx ∧ ¬ tb dx) : DI s' x dx es :=
  ⟨g.kp.keep _ _ hx.1 hx.2 d.at', let ⟨n, e⟩ := d.dict; ⟨n, g.kp.keep _ _ hd.1 hd.2 e⟩⟩
theorem putL_len (name : Str) (hsh : Int) (key v : Value) : ∀ es : List DictEntry, (putL name hsh key v es).length ≤ es.length + 1
  | [] => by simp [putL]
  | e :: es => by
    have := putL_len name hsh key v es
    unfold putL
    split
    · simp
    · simp only [List.length_cons]; omega
/-- `self.nm = value`, of a value known -/
theorem self_set (W : Wld c) {X : Addr → Prop} {env : Env} {s : Shared} {x dx : Addr} {es : List DictEntry} {nm : Str} {sp tp pos : Pos} {value : Expr} {Q : Flow → Shared → Prop} {E : Value → Shared → Prop} (hs : env.scope = sc) (hG : c.G s.heap) (eo : EnvOk X env s.heap ρ) (hself : ρ "self" = some (.val (.ref x))) (D : DI s x dx es) (hX : X dx) (hO : ¬ Own env dx) (hOx : ¬ Own env x) (htx : ¬ tb x) (htd : ¬ tb dx)
    (hv : wpAny (model c.prog c.w) c.A (eval value env) (fun v s₁ => Gw noX s s₁ ∧ ∀ h' hsh t, (∀ b o, b ≠ dx → s₁.heap.get? b = some o → h'.get? b = some o) → ∀ tk, EnvOk X env h' ρ → DI { s₁ with heap := h', toks := tk } x dx (putL nm hsh (.str nm t) v es) → Gw (fun a => a = dx) s { s₁ with heap := h', toks := tk } → Q .next { s₁ with heap := h', toks := tk }) E s)
    (hnm : findIn c.K (.ref 83) nm = some none) (hl : (getL nm es).isSome = true) (hz : es.length ≤ 900)
    (hsw : ∀ env, swapsWith value (some (.Attribute (.Name "self" sp) nm tp)) pos.line env = pure false := by intro _; rfl) :
    wpAny (model c.prog c.w) c.A (exec (.Assign [.Attribute (.Name "self" sp) nm tp] value pos) env) Q E s := by
  refine plainObj_wpAny_Assign_Attribute (wpAny_mono hv (fun v s₁ h₁ => ?_) fun _ _ e => e) (hsw env)
  obtain ⟨g, hq⟩ := h₁
  have hG₁ := W.KG.keeps _ _ hG g.kp
  have eo₁ := eo.gw W.KG g hG
  refine wpAny_Name (load_ok eo₁ hself fun u r => ?_) (by decide)
  cases r
  have D₁ := D.gw g ⟨fun z => z, htx⟩ ⟨fun z => z, htd⟩
  obtain ⟨n, hd⟩ := D₁.dict
  have I : InstAt s₁.heap x (instObj 83 dx) 83 (some (dictOf es n)) := ⟨D₁.at', rfl, rfl, hd⟩
  refine set_attr (W.KI _ hG₁) I rfl W.ws.sa W.ws.over (by unfold takerIn; rw [hnm]; rfl) W.ws.dict hl (fun hsh key => by have := putL_len nm hsh key v es; omega) fun h' hsh t n' tk hd' hsb => ?_
  have kx : ∀ b o, b ≠ dx → s₁.heap.get? b = some o → h'.get? b = some o := fun b o hb q => hsb.extBut b o hb q
  have hne : x ≠ dx := fun z => by
    have h1 := D₁.at'
    rw [z, hd] at h1
    cases h1
  have gd : Gw (fun a => a = dx) s₁ { s₁ with heap := h', toks := tk } := .heap (.all (fun b hb z => htd (z ▸ hb)) fun b o hb q => kx b o hb q)
  refine hq h' hsh t kx tk ?_ ⟨kx _ _ hne D₁.at', n', hd'⟩ (g.none.trans gd)
  refine eo₁.leave gd (fun a ha => ha ▸ ⟨hX, hO⟩) (fun _ q => q) (fun a q => (own_X eo q).1) eo.xt fun a ha => ?_
  by_cases hA : a = dx
  · exact ⟨_, hA ▸ hd'⟩
  · obtain ⟨o, q⟩ := eo₁.al a ha; exact ⟨o, kx a o hA q⟩
end
end Mine
namespace Mine
open PySem PySem.Spec PySem.Calls PyProof.Rows PySem.W
section
variable {c : Cx} {sc : Scope} {ρ ρ' : Str → Option D}
def b1 : List Stmt := bodyOf (methAt 1)
/-- the names' part at the head of __init__ -/
theorem in_swap (W : Wld c) {n : Nat} (hl : LimN n c) {pos : Pos} : True := trivial
def stTs : Stmt → List Expr
  | .Assign ts _ _ => ts
  | _ => []
def stVal : Stmt → Expr
  | .Assign _ v _ => v
  | _ => default
def b1At (k : Nat) : Stmt := b1[k]?.getD (.Pass default)
theorem hw_swap : ∀ env : Env, env.scope = scopeOf (methAt 1) → swappedStores (stTs (b1At 1)) (stVal (b1At 1)) env = pure (some [("S" : Str), ("T" : Str)]) := fun env hs => by
  obtain ⟨scope, locals, globals, cells, qual, func, code, frame, builtins⟩ := env
  dsimp only at hs
  subst hs
  rfl
theorem three_zero (W : Wld c) {n : Nat} (hl : LimN n c) {X : Addr → Prop} {env : Env} {A : Addr} {s : Shared} {Q : Flow → Shared → Prop} {E : Value → Shared → Prop} (hs : env.scope = scopeOf (methAt 1)) (hn : ∀ x, OwnN env x) (hG : c.G s.heap) {ds : List D} (m : Mu X env s.heap ρ A "count" ds)
    (h : ∀ s', Gw (Own env) s s' → c.G s'.heap → Mu X env s'.heap (upd (upd (upd ρ "b" (.int 0)) "n" (.int 0)) "nt" (.int 0)) A "count" ds → Q .next s') : wpAny (model c.prog c.w) c.A (exec (b1At 3) env) Q E s := by
  refine wpAny_Assign_three (wpAny_Constant_int ?_) rfl rfl
  have g0 : Gw noX s { s with toks := s.toks + 1 } := .same
  have m0 := m.gw W.KG hG g0
  have hG0 := W.KG.keeps _ _ hG g0.kp
  refine PySem.wpAny_assign_Name (m0.store hs (.int 0 s.toks) (ok1 rfl) (by decide) fun s₁ m₁ g₁ => ?_)
  refine PySem.wpAny_assign_Name (m₁.store hs (.int 0 s.toks) (ok1 rfl) (by decide) fun s₂ m₂ g₂ => ?_)
  refine PySem.wpAny_assign_Name (m₂.store hs (.int 0 s.toks) (ok1 rfl) (by decide) fun s₃ m₃ g₃ => ?_)
  have gg := ((g0.none.trans g₁).trans g₂).trans g₃
  exact h s₃ gg (apart_own W.KG m.eo hG gg) m₃
end
end Mine
namespace Mine
open PySem PySem.Spec PySem.Calls PyProof.Rows PySem.W
section
variable {c : Cx} {sc : Scope} {ρ ρ' : Str → Option D}
/-- the head of __init__: to the counters -/
theorem in_head (W : Wld c) {n : Nat} (hl : LimN n c) {X : Addr → Prop} {env : Env} {s : Shared} {x dx : Addr} {text : Str} {Q : Flow → Shared → Prop} {E : Value → Shared → Prop} (hs : env.scope = scopeOf (methAt 1)) (hcs : env.cells = []) (hG : c.G s.heap)
    (eo : EnvOk X env s.heap (updAll (fun _ => none) ["self", "ws"] [.val (.ref x), .str text])) (D : DI s x dx []) (hXx : X x) (hXd : X dx) (hOx : ¬ Own env x) (hOd : ¬ Own env dx) (htx : ¬ tb x) (htd : ¬ tb dx)
    (h : ∀ A s' hsh t tt, s.heap.get? A = none → ¬ X A → low ≤ A → Gw (fun a => Own env a ∨ a = dx) s s' → c.G s'.heap → Mu (fun a => X a ∨ a = A) env s'.heap (iρ0 x A 0 0 0) A "count" [] → DI s' x dx [⟨hsh, .str "raw" t, .str text tt⟩] →
      wpAny (model c.prog c.w) c.A (execs (b1.drop 4) env) Q E s') :
    wpAny (model c.prog c.w) c.A (execs b1 env) Q E s := by
  have KG := W.KG
  have hn : ∀ x, OwnN env x := fun x c' hc' => by rw [hcs] at hc'; cases hc'
  have e0 : b1 = b1At 0 :: b1At 1 :: b1At 2 :: b1At 3 :: b1.drop 4 := rfl
  rw [e0]
  refine wpAny_execs_cons (self_set (sc := scopeOf (methAt 1)) W hs hG eo rfl D hXd hOd hOx htx htd (wpAny_Name (load_ok eo (d := .str text) rfl fun v r => ⟨.refl s, fun h' hsh t kx tk eo' D' g' => ?_⟩) (by decide)) W.ws.raw rfl (by decide))
  obtain ⟨tt, rfl⟩ := r.strInv
  have hdX : ∀ a, a = dx → tb a ∨ low ≤ a := fun a ha => eo.xt.hi a (ha ▸ hXd)
  have hG₁ : c.G h' := KG.apart _ _ _ hdX hG g'.kp
  have W' := W
  refine wpAny_execs_cons (wp_up (Ex.asgSwap2 (c := c) (sc := scopeOf (methAt 1)) KG hl.lim (Ev.tuple KG (.cons KG (Ev.clsS W rfl) (.cons KG (Ev.clsT W rfl) .nil)) (szl _ (Nat.le_of_ble_eq_true rfl))) (ok1 rfl) (ok1 rfl) (by decide) (fun _ => rfl) hw_swap X env { s with heap := h', toks := tk } hs hn hG₁ eo') fun f s₂ h₂ => ?_)
  obtain ⟨g₂, rfl, eo₂⟩ := h₂
  have hG₂ : c.G s₂.heap := apart_own KG eo' hG₁ g₂
  refine wpAny_execs_cons (new_list (c := c) (nm := "count") (ns := []) KG hG₂ eo₂ hs rfl rfl Evs.nil (by decide) fun A s₃ hA0 hAX hAl g₃ hG₃ m₃ => ?_)
  refine wpAny_execs_cons (three_zero W hl hs hn hG₃ m₃ fun s₄ g₄ hG₄ m₄ => ?_)
  have gg : Gw (fun a => Own env a ∨ a = dx) s s₄ := ((g'.wide fun a q => .inr q).trans (g₂.wide fun a q => .inl q)).trans ((g₃.trans g₄).wide fun a q => .inl q)
  have g₁₄ : Gw (Own env) { s with heap := h', toks := tk } s₄ := (g₂.trans g₃).trans g₄
  have hA1 : s.heap.get? A = none := by
    cases e : s.heap.get? A with
    | none => rfl
    | some o =>
      by_cases ht : tb A
      · obtain ⟨ps, z⟩ := KG.table _ hG₂ A ht; rw [hA0] at z; cases z
      · have := ((g'.wide fun a q => .inr q).trans (g₂.wide fun a q => .inl q) : Gw (fun a => Own env a ∨ a = dx) s s₂).kp.keep A o (fun z => z.elim (fun q => hAX (own_X eo q).1) fun q => hAX (q ▸ hXd)) ht e
        rw [hA0] at this; cases this
  refine h A s₄ hsh t tt hA1 hAX hAl gg hG₄ (m₄.sub (iρ0_sub ⟨rfl, rfl, rfl, rfl, rfl, rfl, rfl, trivial⟩) rfl) (D'.gw g₁₄ ⟨hOx, htx⟩ ⟨hOd, htd⟩)
end
end Mine
namespace Mine
open PySem PySem.Spec PySem.Calls PyProof.Rows PySem.W
section
variable {c : Cx} {sc : Scope} {ρ ρ' : Str → Option D}
/-- the loop of __init__ -/
theorem in_for (W : Wld c) {n : Nat} (hl : LimN n c) {X : Addr → Prop} {env : Env} {s : Shared} {x dx A : Addr} {text : Str} {body : List Nat} {hsh : Int} {t tt : Tok} {Q : Flow → Shared → Prop} {E : Value → Shared → Prop} (hs : env.scope = scopeOf (methAt 1)) (hcs : env.cells = []) (hG : c.G s.heap)
    (m : Mu X env s.heap (iρ0 x A 0 0 0) A "count" []) (D : DI s x dx [⟨hsh, .str "raw" t, .str text tt⟩]) (hXx : X x) (hXd : X dx) (hOx : ¬ Own env x) (hOd : ¬ Own env dx) (htx : ¬ tb x) (htd : ¬ tb dx) (hAx : A ≠ x) (hAd : A ≠ dx)
    (hasc : text.cps.all (· < 128) = true) (htext : text.cps.toList = body ++ [120]) (hbody : ∀ ch ∈ body, ch = 32 ∨ ch = 9) (hlen : body.length ≤ 800)
    (h : ∀ X' A' s', (A' = A ∨ s.heap.get? A' = none) → Gw (fun a => Own env a ∨ a = A ∨ s.heap.get? a = none) s s' → c.G s'.heap → Mu X' env s'.heap (iρ0 x A' (runC ⟨[], 0, 0, 0⟩ body).b (runC ⟨[], 0, 0, 0⟩ body).n (runC ⟨[], 0, 0, 0⟩ body).nt) A' "count" ((runC ⟨[], 0, 0, 0⟩ body).cs.map .int) → (∀ a, X a → X' a) → DI s' x dx [⟨hsh, .str "raw" t, .str text tt⟩] → Q .next s') :
    wpAny (model c.prog c.w) c.A (exec inFor env) Q E s := by
  have KG := W.KG
  have KX := W.KI _ hG
  obtain ⟨nd, hd⟩ := D.dict
  have I : InstAt s.heap x (instObj 83 dx) 83 (some (dictOf [⟨hsh, .str "raw" t, .str text tt⟩] nd)) := ⟨D.at', rfl, rfl, hd⟩
  refine wpAny_For (Attribute_name (wpAny_Name (load_ok m.eo (d := .val (.ref x)) rfl fun v r => ?_) (by decide)))
  cases r
  refine get_value KX I (plainGet_of (W.ws.pg "raw")).1 (findObj_own W.ws.dict W.ws.raw (by rfl) (by rw [lookIn_dict]; rfl)) (by rfl) ?_
  refine wpAny_pyIter_ascii hasc ?_
  have hnew : s.heap.get? s.heap.objs.size = none := size_none _ (Nat.le_refl _)
  have kp : ∀ b o, s.heap.get? b = some o → (s.heap.push { cls := .type "str_ascii_iterator", data := .fields #[.str text tt, .int 0 0] }).get? b = some o := fun b o q => Heap.get?_push_of_some _ q
  have g₁ : Gw noX s { s with heap := s.heap.push { cls := .type "str_ascii_iterator", data := .fields #[.str text tt, .int 0 0] }, toks := s.toks + 1 } := .every kp
  have hG₁ := KG.keeps _ _ hG g₁.kp
  have m₁ := m.gw KG hG g₁
  refine in_loop W hl (s₁ := { s with heap := s.heap.push { cls := .type "str_ascii_iterator", data := .fields #[.str text tt, .int 0 0] }, toks := s.toks + 1 }) hs hcs htext hbody hlen (fresh_ntb KG hG hnew) m.eo.xok.fresh (KG.big _ hG) m₁.eo.al ⟨_, Heap.get?_push_size _ rfl, rfl, rfl⟩ hG₁ m₁ fun X' A' s' hA' g' hG' m' hX' => ?_
  have hnone : ∀ a, (s.heap.push { cls := .type "str_ascii_iterator", data := .fields #[.str text tt, .int 0 0] }).get? a = none → s.heap.get? a = none := fun a ha => by
    cases e : s.heap.get? a with
    | none => rfl
    | some o => rw [kp _ _ e] at ha; cases ha
  have gg : Gw (fun a => Own env a ∨ a = A ∨ s.heap.get? a = none) s s' := g₁.none.trans (g'.wide fun a q => by
    rcases q with q | q | q | q
    · exact .inl q
    · exact .inr (.inl q)
    · exact .inr (.inr (by rw [q]; exact hnew))
    · exact .inr (.inr (hnone a q)))
  refine h X' A' s' (hA'.imp id fun q => hnone _ q) gg hG' m' hX' (D.gw gg ⟨fun z => ?_, htx⟩ ⟨fun z => ?_, htd⟩)
  · rcases z with z | z | z
    · exact hOx z
    · exact hAx z.symm
    · rw [D.at'] at z; cases z
  · rcases z with z | z | z
    · exact hOd z
    · exact hAd z.symm
    · rw [hd] at z; cases z
end
end Mine
namespace Mine
open PySem PySem.Spec PySem.Calls PyProof.Rows PySem.W
section
variable {c : Cx} {sc : Scope} {ρ ρ' : Str → Option D}
theorem self_setM (W : Wld c) {X : Addr → Prop} {env : Env} {s : Shared} {x dx A : Addr} {es : List DictEntry} {nm : Str} {cs : List Int} {sp tp pos : Pos} {value : Expr} {P : Value → Shared → Prop} {Q : Flow → Shared → Prop} {E : Value → Shared → Prop} (hs : env.scope = sc) (hG : c.G s.heap) (m : Mu X env s.heap ρ A "count" (cs.map .int)) (hself : ρ "self" = some (.val (.ref x))) (D : DI s x dx es) (hX : X dx) (hO : ¬ Own env dx) (hOx : ¬ Own env x) (htx : ¬ tb x) (htd : ¬ tb dx) (hAd : A ≠ dx)
    (hv : wpAny (model c.prog c.w) c.A (eval value env) (fun v s₁ => Gw noX s s₁ ∧ P v s₁) noE s) (hnm : findIn c.K (.ref 83) nm = some none) (hl : (getL nm es).isSome = true) (hz : es.length ≤ 900)
    (h : ∀ v s₁ hsh t s', P v s₁ → Gw (fun a => a = dx) s₁ s' → Gw (fun a => a = dx) s s' → c.G s'.heap → Mu X env s'.heap ρ A "count" (cs.map .int) → DI s' x dx (putL nm hsh (.str nm t) v es) → Q .next s')
    (hsw : ∀ env, swapsWith value (some (.Attribute (.Name "self" sp) nm tp)) pos.line env = pure false := by intro _; rfl) :
    wpAny (model c.prog c.w) c.A (exec (.Assign [.Attribute (.Name "self" sp) nm tp] value pos) env) Q E s := by
  refine self_set W hs hG m.eo hself D hX hO hOx htx htd (wpAny_mono hv (fun v s₁ h₁ => ⟨h₁.1, fun h' hsh t kx tk eo' D' g' => ?_⟩) fun _ _ e => e.elim) hnm hl hz hsw
  have m₁ := m.gw W.KG hG h₁.1
  have g₁ : Gw (fun a => a = dx) s₁ { s₁ with heap := h', toks := tk } := .heap (.all (fun b hb z => htd (z ▸ hb)) fun b o hb q => kx b o hb q)
  obtain ⟨vs, ha, ra⟩ := m₁.at'
  exact h v s₁ hsh t _ h₁.2 g₁ g' (W.KG.apart _ _ _ (fun a (ha : a = dx) => m.eo.xt.hi a (ha ▸ hX)) hG g'.kp) ⟨eo', m.XA, m.nt, m.no, m.nmv, m.lc, vs, ha.at fun o q => kx _ o hAd q, .ofInts ra.ints⟩ D'

/-- the end of __init__ -/
theorem in_tail (W : Wld c) {n : Nat} (hl : LimN n c) {X : Addr → Prop} {env : Env} {s : Shared} {x dx A : Addr} {cs : List Int} {b : Nat} {k nt : Int} {hsh : Int} {t tt : Tok} {text : Str} {Q : Flow → Shared → Prop} {E : Value → Shared → Prop} (hs : env.scope = scopeOf (methAt 1)) (hcs : env.cells = []) (hG : c.G s.heap)
    (m : Mu X env s.heap (iρ0 x A b k nt) A "count" (cs.map .int)) (D : DI s x dx [⟨hsh, .str "raw" t, .str text tt⟩]) (hXd : X dx) (hOx : ¬ Own env x) (hOd : ¬ Own env dx) (htx : ¬ tb x) (htd : ¬ tb dx) (hAd : A ≠ dx) (hz : cs.length ≤ 1000)
    (h : ∀ s' es ep vn tn, Gw (fun a => a = dx) s s' → c.G s'.heap → s'.heap.get? x = some (instObj 83 dx) → s'.heap.get? dx = some (dictOf es ep) → getL "norm" es = some (some vn) → getL "nt" es = some (some (.int nt tn)) → getL "equal" es = some none → getL "indent_level" es = some none → Rd (rm X A) s'.heap vn (normD cs b) → Q .next s') :
    wpAny (model c.prog c.w) c.A (execs (b1.drop 5) env) Q E s := by
  have KG := W.KG
  have e0 : b1.drop 5 = [b1At 5, b1At 6, b1At 7, b1At 8] := rfl
  rw [e0]
  refine wpAny_execs_cons (self_setM (sc := scopeOf (methAt 1)) W hs hG m rfl D hXd hOd hOx htx htd hAd (P := fun v s₁ => True) (wp_up (Ev.run (c := c) (sc := scopeOf (methAt 1)) (Ev.name (d := .int k) rfl) X env s hs hG m.eo) fun v s₁ h₁ => ⟨h₁.1, trivial⟩) W.ws.n rfl (Nat.le_of_ble_eq_true rfl) fun v1 s₁ h1 t1 s₂ _ _ g₂ hG₂ m₂ D₂ => ?_)
  refine wpAny_execs_cons (self_setM (sc := scopeOf (methAt 1)) W hs hG₂ m₂ rfl D₂ hXd hOd hOx htx htd hAd (P := fun v s₁ => ∃ tn, v = .int nt tn) (wp_up (Ev.run (c := c) (sc := scopeOf (methAt 1)) (Ev.name (d := .int nt) rfl) X env s₂ hs hG₂ m₂.eo) fun v s₁ h₁ => ⟨h₁.1, h₁.2.intInv⟩) W.ws.nt rfl (Nat.le_of_ble_eq_true rfl) fun v2 s₃ h2 t2 s₄ hv2 _ g₄ hG₄ m₄ D₄ => ?_)
  obtain ⟨tn, rfl⟩ := hv2
  have rmdx : ∀ a, a = dx → rm X A a := fun a ha => by rw [ha]; exact ⟨hXd, fun z => hAd z.symm⟩
  refine wpAny_execs_cons (self_setM (sc := scopeOf (methAt 1)) W hs hG₄ m₄ rfl D₄ hXd hOd hOx htx htd hAd (P := fun v s₁ => Rd (rm X A) s₁.heap v (normD cs b)) (wp_up (Ev.run (c := c) (sc := scopeOf (methAt 1)) (Ev.tuple KG (.cons KG (Ev.callF KG W.KI rfl (.tupleL W.tuple (ds := cs.map .int) (by rw [List.length_map]; exact szl _ hz)) (.cons KG (.name rfl) .nil)) (.cons KG (.name rfl) .nil)) (szl _ (Nat.le_of_ble_eq_true rfl))) _ env s₄ hs hG₄ m₄.read) fun v s₁ h₁ => ⟨h₁.1, h₁.2⟩) W.ws.norm rfl (Nat.le_of_ble_eq_true rfl) fun vn s₅ h3 t3 s₆ hvn g₅₆ g₆ hG₆ m₆ D₆ => ?_)
  have r₆ := hvn.gw m.read.xt (g₅₆.wide rmdx)
  refine wpAny_execs_cons (self_setM (sc := scopeOf (methAt 1)) W hs hG₆ m₆ rfl D₆ hXd hOd hOx htx htd hAd (P := fun v s₁ => True) (wp_up (Ev.run (c := c) (sc := scopeOf (methAt 1)) (Ev.cmp KG (Ev.callF KG W.KI rfl (.len W.len (ds := cs.map .int) (by rw [List.length_map]; omega)) (.cons KG (.name rfl) .nil)) .intC CmpOk.le) _ env s₆ hs hG₆ m₆.read) fun v s₁ h₁ => ⟨h₁.1, trivial⟩) W.ws.simple rfl (Nat.le_of_ble_eq_true rfl) fun v4 s₇ h4 t4 s₈ _ _ g₈ hG₈ m₈ D₈ => ?_)
  obtain ⟨ep, hd⟩ := D₈.dict
  exact wpAny_execs_nil (h s₈ _ ep vn tn (((g₂.trans g₄).trans g₆).trans g₈) hG₈ D₈.at' hd rfl rfl rfl rfl (r₆.gw m.read.xt (g₈.wide rmdx)))
end
end Mine
namespace Mine
open PySem PySem.Spec PySem.Calls PyProof.Rows PySem.W
section
variable {c : Cx} {sc : Scope} {ρ ρ' : Str → Option D}
/-- __init__ whole -/
theorem in_all (W : Wld c) {n : Nat} (hl : LimN n c) {X : Addr → Prop} {env : Env} {s : Shared} {x dx : Addr} {text : Str} {body : List Nat} {Q : Flow → Shared → Prop} {E : Value → Shared → Prop} (hs : env.scope = scopeOf (methAt 1)) (hcs : env.cells = []) (hG : c.G s.heap)
    (eo : EnvOk X env s.heap (updAll (fun _ => none) ["self", "ws"] [.val (.ref x), .str text])) (D : DI s x dx []) (hXx : X x) (hXd : X dx) (hOx : ¬ Own env x) (hOd : ¬ Own env dx) (htx : ¬ tb x) (htd : ¬ tb dx)
    (hasc : text.cps.all (· < 128) = true) (htext : text.cps.toList = body ++ [120]) (hbody : ∀ ch ∈ body, ch = 32 ∨ ch = 9) (hlen : body.length ≤ 800)
    (h : ∀ s' es ep vn tn, Gw (fun a => Own env a ∨ a = dx) s s' → c.G s'.heap → s'.heap.get? x = some (instObj 83 dx) → s'.heap.get? dx = some (dictOf es ep) → getL "norm" es = some (some vn) → getL "nt" es = some (some (.int (runC ⟨[], 0, 0, 0⟩ body).nt tn)) → getL "equal" es = some none → getL "indent_level" es = some none → Rd X s'.heap vn (normD (runC ⟨[], 0, 0, 0⟩ body).cs (runC ⟨[], 0, 0, 0⟩ body).b) → Q .next s') :
    wpAny (model c.prog c.w) c.A (execs b1 env) Q E s := by
  refine in_head W hl hs hcs hG eo D hXx hXd hOx hOd htx htd fun A s₁ hsh t tt hA hAX hAl g₁ hG₁ m₁ D₁ => ?_
  have hAx : A ≠ x := fun z => hAX (z ▸ hXx)
  have hAd : A ≠ dx := fun z => hAX (z ▸ hXd)
  have e0 : b1.drop 4 = inFor :: b1.drop 5 := rfl
  rw [e0]
  refine wpAny_execs_cons (in_for W hl hs hcs hG₁ m₁ D₁ (.inl hXx) (.inl hXd) hOx hOd htx htd hAx hAd hasc htext hbody hlen fun X' A' s₂ hA' g₂ hG₂ m₂ hX' D₂ => ?_)
  have hlenc := (runC_len body ⟨[], 0, 0, 0⟩ 0 (Nat.zero_le _) (Nat.zero_le _)).2
  have xd : ∃ o, s₁.heap.get? dx = some o := by obtain ⟨n, e⟩ := D₁.dict; exact ⟨_, e⟩
  have hAd' : A' ≠ dx := by
    rcases hA' with q | q
    · rw [q]; exact hAd
    · intro z; obtain ⟨o, e⟩ := xd; rw [z, e] at q; cases q
  have was : ∀ a, X a → ∃ o, s₁.heap.get? a = some o := fun a ha => m₁.eo.al a (.inl ha)
  have hA'X : ¬ X A' := fun z => by
    rcases hA' with q | q
    · exact hAX (q ▸ z)
    · obtain ⟨o, e⟩ := was _ z; rw [q] at e; cases e
  refine in_tail W hl hs hcs hG₂ m₂ D₂ (hX' _ (.inl hXd)) hOx hOd htx htd hAd' (by omega) fun s₃ es ep vn tn g₃ hG₃ h1 h2 h3 h4 h5 h6 r => ?_
  refine h s₃ es ep vn tn ?_ hG₃ h1 h2 h3 h4 h5 h6 (r.less fun a ha => ⟨hX' a (.inl ha), fun z => hA'X (z ▸ ha)⟩)
  refine ((g₁.wide (X' := fun a => Own env a ∨ a = dx ∨ a = A ∨ s₁.heap.get? a = none) fun a q => q.imp id .inl).trans ((g₂.wide fun a q => ?_).trans (g₃.wide fun a q => .inr (.inl q)))).narrow fun a ha => ?_
  · rcases q with q | q | q
    · exact .inl q
    · exact .inr (.inr (.inl q))
    · exact .inr (.inr (.inr q))
  · rcases ha with q | q | q | q
    · exact .inl (.inl q)
    · exact .inl (.inr q)
    · exact .inr (q ▸ hA)
    · cases e : s.heap.get? a with
      | none => exact .inr rfl
      | some o =>
        by_cases ht : tb a
        · obtain ⟨ps, z⟩ := W.KG.table _ hG₁ a ht; rw [q] at z; cases z
        · by_cases hy : Own env a ∨ a = dx
          · exact .inl hy
          · have := g₁.kp.keep a o hy ht e
            rw [q] at this; cases this
end
end Mine
namespace Mine
open PySem PySem.Spec PySem.Calls PyProof.Rows PySem.W
section
variable {c : Cx} {sc : Scope} {ρ ρ' : Str → Option D}
theorem call_ws (W : Wld c) {n : Nat} (hl : LimN (n + 2) c) {text : Str} {body : List Nat} (hasc : text.cps.all (· < 128) = true) (htext : text.cps.toList = body ++ [120]) (hbody : ∀ ch ∈ body, ch = 32 ∨ ch = 9) (hlen : body.length ≤ 800) :
    CallOk c "Whitespace" [.str text] (.ws (runC ⟨[], 0, 0, 0⟩ body).cs (runC ⟨[], 0, 0, 0⟩ body).b (runC ⟨[], 0, 0, 0⟩ body).nt) :=
  ⟨.ref 83, W.ws.g, .k _ W.ws.kp, fun X s vs hG xo r => by
    have KG := W.KG
    obtain ⟨u, us, rfl, r1, r2⟩ := r.consInv
    rw [r2.nilInv]
    have KX := W.KI _ hG
    have n0 : s.heap.get? s.heap.objs.size = none := size_none _ (Nat.le_refl _)
    have n1 : s.heap.get? (s.heap.objs.size + 1) = none := size_none _ (Nat.le_succ _)
    have big : @LE.le Nat _ low s.heap.objs.size := KG.big _ hG
    obtain ⟨hh, gg, dd, tk, os⟩ := s
    refine wpAny_call (make_core (makes_of KX W.ws.mkI) (looks_findIn KX W.ws.init) (fun self => bind_fn KX self W.ws.initT) (.inl rfl) ?_)
    dsimp only at hG KX n0 n1 big r1 xo
    have kp : ∀ b o, hh.get? b = some o → ((hh.push emptyDict).push (instObj 83 hh.objs.size)).get? b = some o := fun b o q => Heap.get?_push_of_some _ (Heap.get?_push_of_some _ q)
    have hdx : ((hh.push emptyDict).push (instObj 83 hh.objs.size)).get? hh.objs.size = some emptyDict := Heap.get?_push_of_some _ (Heap.get?_push_size _ rfl)
    have hx : ((hh.push emptyDict).push (instObj 83 hh.objs.size)).get? (hh.objs.size + 1) = some (instObj 83 hh.objs.size) := by
      have := Heap.get?_push_size (hh.push emptyDict) (o := instObj 83 hh.objs.size) rfl
      rwa [Heap.size_push] at this
    have hG₁ : c.G ((hh.push emptyDict).push (instObj 83 hh.objs.size)) := KG.keeps _ _ hG (.every kp)
    have t0 := fresh_ntb KG hG n0
    have t1 := fresh_ntb KG hG n1
    have nX0 : ¬ X hh.objs.size := fun z => by obtain ⟨o, e⟩ := xo.al _ z; rw [n0] at e; cases e
    have nX1 : ¬ X (hh.objs.size + 1) := fun z => by obtain ⟨o, e⟩ := xo.al _ z; rw [n1] at e; cases e
    have xo' : Xok (fun a => X a ∨ a = hh.objs.size ∨ a = hh.objs.size + 1) ((hh.push emptyDict).push (instObj 83 hh.objs.size)) := by
      refine ⟨⟨fun b hb => .inl (xo.xt.tbs b hb), fun a ha => ?_⟩, fun a ha => ?_⟩
      · rcases ha with q | q | q
        · exact xo.xt.hi a q
        · exact .inr (by rw [q]; exact big)
        · exact .inr (by rw [q]; exact Nat.le_succ_of_le big)
      · rcases ha with q | q | q
        · obtain ⟨o, e⟩ := xo.al a q; exact ⟨o, kp _ _ e⟩
        · exact ⟨_, by rw [q]; exact hdx⟩
        · exact ⟨_, by rw [q]; exact hx⟩
    have ru : Rd (fun a => X a ∨ a = hh.objs.size ∨ a = hh.objs.size + 1) ((hh.push emptyDict).push (instObj 83 hh.objs.size)) u (.str text) := by
      obtain ⟨t, rfl⟩ := r1.strInv; exact .str text t
    have W' := W.at' (c.A.under (.builtin "type.__call__" ⟨.ref 83 :: [u], []⟩))
    have hl' : LimN (n + 1) { c with A := c.A.under (.builtin "type.__call__" ⟨.ref 83 :: [u], []⟩) } := by
      refine ⟨hl.hand, ?_, ?_⟩
      · have := hl.depth
        have hw : (Code.builtin "type.__call__" ⟨.ref 83 :: [u], []⟩).weight ≤ 1 := Nat.le_of_ble_eq_true rfl
        show c.A.depth + _ + 20 + (n + 1) < _
        omega
      · have := hl.units
        have hw : (Code.builtin "type.__call__" ⟨.ref 83 :: [u], []⟩).cUnits ≤ 1 := Nat.le_of_ble_eq_true rfl
        show c.A.units + _ + 1000 + 10 * (n + 1) < _
        omega
    refine enterC (c := { c with A := c.A.under (.builtin "type.__call__" ⟨.ref 83 :: [u], []⟩) }) (s := ⟨(hh.push emptyDict).push (instObj 83 hh.objs.size), gg, dd, tk, os⟩) W'.KG W'.ws.fI hl'.room hG₁ xo' (binds := [("self", .ref (hh.objs.size + 1)), ("ws", u)]) (ds := [.val (.ref (hh.objs.size + 1)), .str text]) (fun fd h => by obtain ⟨_, _, _, _, rfl⟩ := h; exact BindsTo.of_eq rfl) (.cons (.val _) (.one ru)) (by decide) (locs_of rfl) (fun env s₁ hs hcs g eo hL hLX hG₂ => ?_) rfl rfl rfl
    have hOwn : ∀ a, Own env a → a = env.locals := fun a ha => by
      rcases ha with q | ⟨p, hp, _⟩
      · exact q
      · rw [hcs] at hp; cases hp
    have hO0 : ¬ Own env hh.objs.size := fun z => hLX (.inr (.inl (hOwn _ z).symm))
    have hO1 : ¬ Own env (hh.objs.size + 1) := fun z => hLX (.inr (.inr (hOwn _ z).symm))
    refine in_all (c := Cx.dp { c with A := c.A.under (.builtin "type.__call__" ⟨.ref 83 :: [u], []⟩) } env) (W'.dp env) (hl'.dp env) hs hcs hG₂ eo ⟨g.kp.keep _ _ (fun z => z) t1 hx, 0, g.kp.keep _ _ (fun z => z) t0 hdx⟩ (.inl (.inr (.inr rfl))) (.inl (.inr (.inl rfl))) hO1 hO0 t1 t0 hasc htext hbody hlen fun s' es ep vn tn g' hG' h1 h2 h3 h4 h5 h6 rn => ?_
    refine ⟨rfl, ?_, .ws nX1 nX0 h1 h2 h3 h4 h5 h6 (rn.less fun a ha => .inl (.inl ha))⟩
    have g0 : Gw noX ⟨hh, gg, dd, tk, os⟩ ⟨(hh.push emptyDict).push (instObj 83 hh.objs.size), gg, dd, tk, os⟩ := .every (s := ⟨hh, gg, dd, tk, os⟩) (tk := tk) kp
    refine ((g0.none.trans g.none).trans g').narrow fun a ha => .inr ?_
    rcases ha with q | q
    · rw [hOwn a q]
      show hh.get? env.locals = none
      cases e : hh.get? env.locals with
      | none => rfl
      | some o => have := kp _ _ e; rw [hL] at this; cases this
    · rw [q]; exact n0⟩
end
end Mine
namespace Mine
open PySem PySem.Spec PySem.Calls PyProof.Rows PySem.W
section
variable {c : Cx} {sc : Scope} {ρ ρ' : Str → Option D}
theorem flat1 : ∀ res : List D, (res.map fun x => [x]).flatten = res
  | [] => rfl
  | x :: res => by rw [List.map_cons, List.flatten_cons, flat1 res]; rfl
/-- a comprehension of one clause -/
theorem Ev.comp1 (KG : Known c.G) (hl : Lim c) {elt tgt iter : Expr} {scope : Scope} {pos : Pos} {okT : Expr → Prop} {items res : List D} (st : CompSt sc scope [⟨tgt, iter, [], 0⟩]) (h1 : EvIt c sc ρ okT iter items) (hok : okT tgt) (hlen : res.length = items.length)
    (hstep : ∀ (j : Nat) d r, items[j]? = some d → res[j]? = some r → ∃ ρ', Asg (relD sc scope) (inner scope ρ) tgt d ρ' ∧ Sub (inner scope ρ) ρ' ∧ Ev c (relD sc scope) ρ' elt r) (hz : res.length ≤ sizeLine)
    (hset : ∀ env x, foldedSetIterable iter env x = pure x := by intro _ _; rfl) : Ev c sc ρ (.ListComp elt [⟨tgt, iter, [], 0⟩] scope pos) (.list res) := by
  have := Ev.comp (c := c) (sc := sc) (ρ := ρ) (elt := elt) (gs := []) (pos := pos) (outs := res.map fun x => [x]) KG hl st h1 hok (by rw [List.length_map]; exact hlen) (fun j d o hd ho => ?_) (by rw [flat1]; exact hz) hset
  · rw [flat1] at this; exact this
  · rw [List.getElem?_map] at ho
    cases hr : res[j]? with
    | none => rw [hr] at ho; cases ho
    | some r =>
      rw [hr] at ho; cases ho
      obtain ⟨ρ', a, b, e⟩ := hstep j d r hd hr
      exact ⟨ρ', a, b, r, e, rfl⟩
/-- each of the items by the same rule -/
theorem Ev.compMap {α : Type} (KG : Known c.G) (hl : Lim c) {elt tgt iter : Expr} {scope : Scope} {pos : Pos} {okT : Expr → Prop} (l : List α) (f g : α → D) (st : CompSt sc scope [⟨tgt, iter, [], 0⟩]) (h1 : EvIt c sc ρ okT iter (l.map f)) (hok : okT tgt)
    (hstep : ∀ a ∈ l, ∃ ρ', Asg (relD sc scope) (inner scope ρ) tgt (f a) ρ' ∧ Sub (inner scope ρ) ρ' ∧ Ev c (relD sc scope) ρ' elt (g a)) (hz : l.length ≤ 1000)
    (hset : ∀ env x, foldedSetIterable iter env x = pure x := by intro _ _; rfl) : Ev c sc ρ (.ListComp elt [⟨tgt, iter, [], 0⟩] scope pos) (.list (l.map g)) :=
  .comp1 KG hl st h1 hok (by simp) (fun j d r hd hr => by
    rw [List.getElem?_map] at hd hr
    cases h : l[j]? with
    | none => rw [h] at hd; cases hd
    | some a =>
      rw [h] at hd hr; cases hd; cases hr
      exact hstep a (List.mem_of_getElem? h)) (by rw [List.length_map]; exact szl _ hz) hset
end
end Mine
namespace Mine
open PySem PySem.Spec PySem.Calls PyProof.Rows PySem.W
theorem repl_arr {α : Type} (n : Nat) (v : α) : (List.foldl (fun x1 x2 => x1 ++ x2) (#[] : Array α) (List.replicate n #[v])) = (List.replicate n v).toArray := by
  have : ∀ (n : Nat) (acc : Array α), (List.foldl (fun x1 x2 => x1 ++ x2) acc (List.replicate n #[v])) = acc ++ (List.replicate n v).toArray := by
    intro n
    induction n with
    | zero => intro acc; simp
    | succ n ih => intro acc; rw [List.replicate_succ, List.foldl_cons, ih, List.replicate_succ]; apply Array.toList_inj.mp; simp
  simpa using this n #[]
theorem blanks (n : Nat) : (strRep " " n).cps = (List.replicate n 32).toArray := by
  have h : (" " : Str).cps = #[32] := by decide +kernel
  unfold strRep
  rw [h]
  exact repl_arr n 32
theorem blanks_len (n : Nat) : (strRep " " n).length = n := by
  show (strRep " " n).cps.size = n
  rw [blanks]; simp
end Mine
namespace Mine
open PySem PySem.Spec PySem.Calls PyProof.Rows PySem.W
def runS (r : Int) : Str := strRep " " r.toNat ++ ("\t" : Str)
def leadS (runs : List Int) (behind : Int) : Str := Txt.join "" (runs.map runS) ++ strRep " " behind.toNat ++ ("x" : Str)
section
variable {c : Cx} {sc : Scope} {ρ ρ' : Str → Option D}
theorem BinOk.blank {n : Int} (h0 : 0 ≤ n) (h1 : n ≤ 100) : BinOk c .Mult (.str " ") (.int n) (.str (strRep " " n.toNat)) := by
  have h2 : n < 2 ^ 20 := by omega
  have h3 : (strRep " " n.toNat).length ≤ sizeLine := by rw [blanks_len]; exact szl _ (by omega)
  have h4 : (" " : Str).length ≤ 1 := by decide +kernel
  exact BinOk.mulS h0 h2 h4 h3
end
end Mine
namespace Mine
open PySem PySem.Spec PySem.Calls PyProof.Rows PySem.W
section
variable {c : Cx} {sc : Scope} {ρ ρ' : Str → Option D}
theorem sub_upd {ρ : Str → Option D} {x : Str} {d : D} (h : ρ x = none) : Sub ρ (upd ρ x d) := fun y e hy => by
  unfold upd
  split
  · rename_i hyx; subst hyx; rw [h] at hy; cases hy
  · exact hy
theorem run_len (r : Int) : (runS r).length = r.toNat + 1 := by
  unfold runS
  rw [Str.length_append, blanks_len]
  have : ("\t" : Str).length = 1 := by decide +kernel
  rw [this]
set_option maxRecDepth 100000 in
theorem body_lead (W : Wld c) {n : Nat} (hl : LimN (n + 2) c) {runs : List Int} {behind : Int} {w : D} (hr : ∀ r ∈ runs, 0 ≤ r ∧ r ≤ 100) (hn : runs.length ≤ 100) (hb : 0 ≤ behind ∧ behind ≤ 100) (hs : ((runs.map runS).map (·.length)).sum + (runs.map runS).length * ("" : Str).length ≤ 16777216) (hj : (Txt.join "" (runs.map runS)).length ≤ 20000) (hws : CallOk c "Whitespace" [.str (leadS runs behind)] w) :
    Exs c (scopeOf (stAt 16)) (updAll (fun _ => none) ["runs", "behind"] [.list (runs.map .int), .int behind]) (bodyOf (stAt 16)) (.ret w) := by
  have KG := W.KG
  have hz1 : (Txt.join "" (runs.map runS)).length + (strRep " " behind.toNat).length ≤ sizeLine := by rw [blanks_len, PySem.sizeLine_eq]; omega
  have hz2 : (Txt.join "" (runs.map runS) ++ strRep " " behind.toNat).length + ("x" : Str).length ≤ sizeLine := by
    have : ("x" : Str).length = 1 := by decide +kernel
    rw [Str.length_append, blanks_len, this, PySem.sizeLine_eq]; omega
  refine Exs.retC (Ex.ret (Ev.callF KG W.KI rfl hws (.cons KG (Ev.bin KG (Ev.bin KG (Ev.join KG .strC (xs := runs.map runS) ?_ ?_) (Ev.bin KG .strC (.name rfl) (BinOk.blank hb.1 hb.2)) (BinOk.addS hz1)) .strC (BinOk.addS hz2)) .nil)))
  · rw [List.map_map]
    refine Ev.compMap (c := c) KG hl.lim runs D.int (D.str ∘ runS) (compSt_of (by decide +kernel)) (EvIt.list KG hl.lim (.name rfl)) (.inl ⟨_, _, rfl⟩) (fun r hr' => ⟨_, Asg.name (ok1 rfl), sub_upd rfl, ?_⟩) (by omega)
    · have h1 : (strRep " " r.toNat).length + ("\t" : Str).length ≤ sizeLine := by
        have : ("\t" : Str).length = 1 := by decide +kernel
        rw [blanks_len, this]; exact szl _ (by have := (hr r hr').2; omega)
      exact Ev.bin (c := c) KG (Ev.bin (c := c) KG .strC (.name rfl) (BinOk.blank (hr r hr').1 (hr r hr').2)) .strC (BinOk.addS h1)
  · exact hs
end
end Mine
namespace Mine
open PySem PySem.Spec PySem.Calls PyProof.Rows PySem.W
theorem app_cps (x y : Str) : (x ++ y).cps = x.cps ++ y.cps := rfl
theorem join_cps : ∀ xs : List Str, (Str.join "" xs).cps.toList = (xs.map (·.cps.toList)).flatten
  | [] => by decide +kernel
  | [x] => by
    have : Str.join "" [x] = x := rfl
    rw [this]; simp
  | x :: y :: r => by
    have : Str.join "" (x :: y :: r) = x ++ ("" : Str) ++ Str.join "" (y :: r) := rfl
    have h0 : ("" : Str).cps = #[] := by decide +kernel
    rw [this, app_cps, app_cps, h0, Array.toList_append, join_cps (y :: r)]
    simp
def runL (r : Int) : List Nat := List.replicate r.toNat 32 ++ [9]
theorem runS_cps (r : Int) : (runS r).cps.toList = runL r := by
  unfold runS runL
  have h0 : ("\t" : Str).cps = #[9] := by decide +kernel
  rw [app_cps, blanks, h0]; simp
theorem joinS_cps (runs : List Int) : (Txt.join "" (runs.map runS)).cps.toList = (runs.map runL).flatten := by
  unfold Txt.join
  rw [PySem.StrLaws.glued_eq_join, join_cps, List.map_map]
  congr 1
  exact List.map_congr_left fun r _ => runS_cps r
def leadL (runs : List Int) (behind : Int) : List Nat := (runs.map runL).flatten ++ List.replicate behind.toNat 32
theorem leadS_cps (runs : List Int) (behind : Int) : (leadS runs behind).cps.toList = leadL runs behind ++ [120] := by
  unfold leadS leadL
  have h0 : ("x" : Str).cps = #[120] := by decide +kernel
  rw [app_cps, app_cps, blanks, h0, Array.toList_append, Array.toList_append, joinS_cps]
theorem leadL_chars {runs : List Int} {behind : Int} : ∀ ch ∈ leadL runs behind, ch = 32 ∨ ch = 9 := fun ch h => by
  unfold leadL at h
  rcases List.mem_append.mp h with h | h
  · obtain ⟨l, h1, h2⟩ := List.mem_flatten.mp h
    obtain ⟨r, _, rfl⟩ := List.mem_map.mp h1
    rcases List.mem_append.mp h2 with h2 | h2
    · exact .inl (List.mem_replicate.mp h2).2
    · exact .inr (List.mem_singleton.mp h2)
  · exact .inl (List.mem_replicate.mp h).2
theorem runs_len (runs : List Int) : ((runs.map runL).flatten).length = (runs.map fun r => r.toNat + 1).sum := by
  rw [List.length_flatten, List.map_map]
  congr 1
  exact List.map_congr_left fun r _ => by unfold runL; simp
theorem leadS_asc (runs : List Int) (behind : Int) : (leadS runs behind).cps.all (· < 128) = true := by
  rw [Array.all_eq_true_iff_forall_mem]
  intro ch h
  rw [← Array.mem_toList_iff, leadS_cps] at h
  rcases List.mem_append.mp h with h | h
  · rcases leadL_chars ch h with rfl | rfl <;> decide
  · rw [List.mem_singleton.mp h]; decide

theorem runC_blanks : ∀ (k : Nat) (r : RS), runC r (List.replicate k 32) = ⟨r.cs, r.b + k, r.n + k, r.nt⟩
  | 0, r => by simp [runC]
  | k + 1, r => by
    rw [List.replicate_succ]
    show runC (r.step 32) (List.replicate k 32) = _
    rw [runC_blanks k]
    unfold RS.step
    rw [if_pos rfl]
    simp only [RS.mk.injEq, true_and, and_true]
    constructor <;> omega
theorem runC_app (r : RS) (a b : List Nat) : runC r (a ++ b) = runC (runC r a) b := by unfold runC; rw [List.foldl_append]
theorem runC_run (cs : List Int) (n nt : Int) (r : Int) : runC ⟨cs, 0, n, nt⟩ (runL r) = ⟨bump cs r.toNat, 0, n + r.toNat + 1, nt + 1⟩ := by
  unfold runL
  rw [runC_app, runC_blanks]
  show RS.step _ 9 = _
  unfold RS.step
  rw [if_neg (by decide)]
  simp
def countsFrom (cs : List Int) (runs : List Int) : List Int := runs.foldl (fun cs r => bump cs r.toNat) cs
theorem runC_runs : ∀ (runs : List Int) (cs : List Int) (n nt : Int), ∃ n', runC ⟨cs, 0, n, nt⟩ ((runs.map runL).flatten) = ⟨countsFrom cs runs, 0, n', nt + runs.length⟩
  | [], cs, n, nt => ⟨n, by simp [runC, countsFrom]⟩
  | r :: runs, cs, n, nt => by
    obtain ⟨n', h⟩ := runC_runs runs (bump cs r.toNat) (n + r.toNat + 1) (nt + 1)
    refine ⟨n', ?_⟩
    rw [List.map_cons, List.flatten_cons, runC_app, runC_run, h]
    simp only [RS.mk.injEq, true_and, List.length_cons]
    exact ⟨rfl, by omega⟩
def counts (runs : List Int) : List Int := countsFrom [] runs
theorem runC_lead (runs : List Int) (behind : Int) : ∃ n', runC ⟨[], 0, 0, 0⟩ (leadL runs behind) = ⟨counts runs, behind.toNat, n', runs.length⟩ := by
  obtain ⟨n', h⟩ := runC_runs runs [] 0 0
  refine ⟨n' + behind.toNat, ?_⟩
  unfold leadL
  rw [runC_app, h, runC_blanks]
  simp [counts]
theorem sum_bound {l : List Nat} {k : Nat} (h : ∀ x ∈ l, x ≤ k) : l.sum ≤ l.length * k := by
  induction l with
  | nil => simp
  | cons x l ih =>
    have h1 := h x (List.mem_cons_self ..)
    have h2 := ih fun y hy => h y (List.mem_cons_of_mem _ hy)
    rw [List.sum_cons, List.length_cons, Nat.add_mul]
    omega
section
variable {c : Cx} {sc : Scope} {ρ ρ' : Str → Option D}
theorem CallOk.of2 {nm x y : Str} {a : Addr} {k : Nat} {cdv : Value} {n : Nat} (W : Wld c) (hl : LimN n c) (F : Fnw c nm a k .none .none cdv) {e1 e2 d : D}
    (hb : ∀ (s : Shared) (v u : Value) (fd : FuncData), (∃ doc pm an ct, fd = fnX nm nm (argsOf (stAt k)) (bodyOf (stAt k)) (scopeOf (stAt k)) [] .none .none doc pm an cdv ct) → BindsTo s fd ⟨[v, u], []⟩ [(x, v), (y, u)])
    (hcell : ∀ x ∈ (scopeOf (stAt k)).names, x.2 ≠ .cell) (hloc : (([x, y] : List Str).all fun x => ((scopeOf (stAt k)).names.lookup x == some .local) && ((x == ("__debug__" : Str)) == false)) = true)
    (h : ∀ env, Exs (c.dp env) (scopeOf (stAt k)) (updAll (fun _ => none) [x, y] [e1, e2]) (bodyOf (stAt k)) (.ret d))
    (hco : (scopeOf (stAt k)).isCoroutine = false) (hgen : (scopeOf (stAt k)).isGenerator = false) (hk : (scopeOf (stAt k)).kind = .function) : CallOk c nm [e1, e2] d :=
  ⟨.ref a, F.g, .k _ F.kp, fun X s vs hG xo r => by
    obtain ⟨v, us, rfl, r1, r2⟩ := r.consInv
    obtain ⟨u, us, rfl, r2, r3⟩ := r2.consInv
    rw [r3.nilInv]
    exact callE W.KG hl F.f (binds := [(x, v), (y, u)]) hG xo (hb s v u) (.cons r1 (.one r2)) hcell (locs_of hloc) h hco hgen hk⟩
theorem call_lead (W : Wld c) {n : Nat} (hl : LimN (n + 3) c) {runs : List Int} {behind : Int} (hr : ∀ r ∈ runs, 0 ≤ r ∧ r ≤ 17) (hn : runs.length ≤ 40) (hb : 0 ≤ behind ∧ behind ≤ 10) :
    CallOk c "_law_lead" [.list (runs.map .int), .int behind] (.ws (counts runs) behind runs.length) :=
  .of2 W hl W.lead (x := "runs") (y := "behind") (fun s v u fd h => by obtain ⟨_, _, _, _, rfl⟩ := h; exact BindsTo.of_eq rfl) (by decide) rfl (fun env => by
    have W' := W.dp env
    have hl' : LimN (n + 2) (c.dp env) := hl.dp env
    have hs1 : (runs.map fun r => r.toNat + 1).sum ≤ 720 := by
      have := sum_bound (l := runs.map fun r => r.toNat + 1) (k := 18) (fun x hx => by
        obtain ⟨r, h1, rfl⟩ := List.mem_map.mp hx
        have := hr r h1; omega)
      rw [List.length_map] at this
      omega
    have hlen : (leadL runs behind).length ≤ 800 := by
      unfold leadL
      rw [List.length_append, runs_len, List.length_replicate]
      omega
    have hws : CallOk (c.dp env) "Whitespace" [.str (leadS runs behind)] (.ws (counts runs) behind runs.length) := by
      have := call_ws (c := c.dp env) W' hl' (text := leadS runs behind) (body := leadL runs behind) (leadS_asc _ _) (leadS_cps _ _) leadL_chars hlen
      obtain ⟨n', h⟩ := runC_lead runs behind
      rw [h] at this
      have hb' : ((behind.toNat : Nat) : Int) = behind := Int.toNat_of_nonneg hb.1
      dsimp only at this
      rw [hb'] at this
      exact this
    have h0 : ("" : Str).length = 0 := by decide +kernel
    have hsum : ((runs.map runS).map (·.length)).sum = (runs.map fun r => r.toNat + 1).sum := by
      rw [List.map_map]
      congr 1
      exact List.map_congr_left fun r _ => run_len r
    refine body_lead (c := c.dp env) W' hl' (fun r hr' => ?_) (by omega) (by omega) ?_ ?_ hws
    · have := hr r hr'; omega
    · rw [hsum, h0]; omega
    · have : (Txt.join "" (runs.map runS)).length = ((runs.map runL).flatten).length := by rw [← joinS_cps]; exact Array.length_toList.symm
      rw [this, runs_len]; omega) rfl rfl rfl
end
end Mine
namespace Mine
open PySem PySem.Spec PySem.Calls PyProof.Rows PySem.W
def stL (k : Nat) : Stmt := (bodyOf (stAt 17))[k]?.getD (.Pass default)
def scL : Scope := scopeOf (stAt 17)
theorem inner_free {scope : Scope} {ρ : Str → Option D} {x : Str} {d : D} (hl : scope.names.lookup x = some .free) (h : ρ x = some d) : inner scope ρ x = some d := by
  unfold inner; rw [if_pos hl]; exact h
def slI (ns : List Int) (lo hi st : Option Int) : List Int :=
  (sliceRange (sliceBounds lo hi st ns.length).1 (sliceBounds lo hi st ns.length).2.1 (sliceBounds lo hi st ns.length).2.2).filterMap (ns[·]?)
theorem slD_ints (ns : List Int) (lo hi st : Option Int) : slD (ns.map .int) lo hi st = (slI ns lo hi st).map .int := by
  unfold slD slI
  rw [List.length_map, List.map_filterMap]
  congr 1
  funext i
  rw [List.getElem?_map]
mutual
theorem eqvD (d : D) : PyData.eqv d.py d.py = true := by
  cases d with
  | none => rw [D.py, PyData.eqv]
  | bool b => rw [D.py, PyData.eqv]; exact beq_self_eq_true b
  | int i => rw [D.py, PyData.eqv]; exact beq_self_eq_true i
  | str x => rw [D.py, PyData.eqv]; exact beq_self_eq_true x
  | tup ds => rw [D.py, PyData.eqv]; exact eqvDs ds
  | list ds => rw [D.py, PyData.eqv]; exact eqvDs ds
  | ws _ _ _ => rw [D.py, PyData.eqv]
  | val _ => rw [D.py, PyData.eqv]
  | fn _ => rw [D.py, PyData.eqv]
  | sl _ => rw [D.py, PyData.eqv]
theorem eqvDs (ds : List D) : PyData.eqvAll (pys ds) (pys ds) = true := by
  cases ds with
  | nil => rw [pys, PyData.eqvAll]
  | cons d ds => rw [pys, PyData.eqvAll, eqvD d, eqvDs ds]; rfl
end
theorem eqv_ints : ∀ xs ys : List Int, PyData.eqvAll (pys (xs.map .int)) (pys (ys.map .int)) = decide (xs = ys)
  | [], [] => by rw [List.map_nil, pys, PyData.eqvAll]; rfl
  | [], y :: ys => by rw [List.map_nil, List.map_cons, pys, pys, PyData.eqvAll]; simp
  | x :: xs, [] => by rw [List.map_nil, List.map_cons, pys, pys, PyData.eqvAll]; simp
  | x :: xs, y :: ys => by
    rw [List.map_cons, List.map_cons, pys, pys, PyData.eqvAll, eqv_ints xs ys, D.py, D.py, PyData.eqv]
    by_cases h : x = y
    · subst h; by_cases h2 : xs = ys <;> simp [h2]
    · simp [h]
theorem eqv_two (a b a' b' : D) : PyData.eqvAll (pys [a, b]) (pys [a', b']) = (PyData.eqv a.py a'.py && PyData.eqv b.py b'.py) := by
  have h : ∀ x y x' y' : PyData, PyData.eqvAll [x, y] [x', y'] = (PyData.eqv x x' && PyData.eqv y y') := fun x y x' y' => by
    rw [PyData.eqvAll, PyData.eqvAll, PyData.eqvAll, Bool.and_true]
  have p : ∀ a b : D, pys [a, b] = [a.py, b.py] := fun a b => by rw [pys, pys, pys]
  rw [p, p, h]
theorem eqv_norm (cs cs' : List Int) (b b' : Int) : PyData.eqv (normD cs b).py (normD cs' b').py = (decide (cs = cs') && decide (b = b')) := by
  unfold normD
  have h : PyData.eqv (D.tup (cs.map .int)).py (D.tup (cs'.map .int)).py = decide (cs = cs') := by rw [D.py, D.py, PyData.eqv, eqv_ints]
  have h' : PyData.eqv (D.int b).py (D.int b').py = decide (b = b') := by rw [D.py, D.py, PyData.eqv]; rfl
  rw [D.py, D.py, PyData.eqv, eqv_two, h, h']
theorem eqv_list (xs ys : List Int) : PyData.eqv (D.list (xs.map .int)).py (D.list (ys.map .int)).py = decide (xs = ys) := by
  rw [D.py, D.py, PyData.eqv, eqv_ints]

section
variable {c : Cx} {sc : Scope} {ρ ρ' : Str → Option D}
/-- two like things do not differ -/
theorem CmpOk.neSame (hl : Lim c) {a : D} (ha : Cmpd a) : CmpOk c .NotEq a a (.bool false) := by
  have := CmpOk.neD (c := c) hl ha ha
  rw [eqvD] at this
  exact this
theorem swT {elt : Expr} {gens : List Comprehension} {scope : Scope} {pos py : Pos} {y : Str} {line : Nat} (h1 : (py.line == pos.line) = true) (h2 : (scope.names.any fun (n, k) => n == y && (k == .local || k == .cell)) = false) :
    ∀ env : Env, env.scope.kind = .function → env.kindOf y = some .local → swapsWith (.ListComp elt gens scope pos) (some (.Name y py)) line env = pure true := fun env hk hl => by
  unfold swapsWith
  have hb : env.blockKind = .function := by unfold Env.blockKind; rw [hk]; rfl
  dsimp only
  rw [hb, hl]
  show pure _ = pure true
  congr 1
  show ((ScopeKind.function == ScopeKind.function) && (some NameKind.local == some NameKind.local) && py.line == pos.line && !(scope.names.any fun (n, k) => n == y && (k == .local || k == .cell))) = true
  rw [h1, h2]; decide
theorem swF {elt : Expr} {gens : List Comprehension} {scope : Scope} {pos py : Pos} {y : Str} {line : Nat} :
    ∀ env : Env, env.kindOf y = some .cell → swapsWith (.ListComp elt gens scope pos) (some (.Name y py)) line env = pure false := fun env hl => by
  unfold swapsWith
  dsimp only
  rw [hl]
  show pure _ = pure false
  congr 1
  have : ((some NameKind.cell : Option NameKind) == some NameKind.local) = false := by decide
  rw [this, Bool.and_false]; rfl
/-- a comprehension of one clause, to a local name -/
theorem Ex.asgMap {α : Type} (KG : Known c.G) (hl : Lim c) {elt tgt iter : Expr} {scope : Scope} {pos spos py : Pos} {y : Str} {okT : Expr → Prop} (l : List α) (f g : α → D) (st : CompSt sc scope [⟨tgt, iter, [], 0⟩]) (h1 : EvIt c sc ρ okT iter (l.map f)) (hok : okT tgt)
    (hstep : ∀ a ∈ l, ∃ ρ', Asg (relD sc scope) (inner scope ρ) tgt (f a) ρ' ∧ Sub (inner scope ρ) ρ' ∧ Ev c (relD sc scope) ρ' elt (g a)) (hz : l.length ≤ 1000)
    (hy : sc.names.lookup y = some .local) (hyd : (y == ("__debug__" : Str)) = false) (hsw : ∀ env : Env, env.scope.kind = .function → env.kindOf y = some .local → swapsWith (.ListComp elt [⟨tgt, iter, [], 0⟩] scope pos) (some (.Name y py)) spos.line env = pure true)
    (hset : ∀ env x, foldedSetIterable iter env x = pure x := by intro _ _; rfl) :
    Ex c sc ρ (.Assign [.Name y py] (.ListComp elt [⟨tgt, iter, [], 0⟩] scope pos) spos) (.next (upd ρ y (.list (l.map g)))) := by
  have := Ex.asgComp (c := c) (sc := sc) (ρ := ρ) (elt := elt) (gs := []) (pos := pos) (spos := spos) (py := py) (y := y) (outs := (l.map g).map fun x => [x]) KG hl st h1 hok (by simp) (fun j d o hd ho => ?_) (by rw [flat1]; exact szl _ (by rw [List.length_map]; exact hz)) hy hyd hsw hset
  · rw [flat1] at this; exact this
  · rw [List.getElem?_map] at hd ho
    rw [List.getElem?_map] at ho
    cases h : l[j]? with
    | none => rw [h] at hd; cases hd
    | some a =>
      rw [h] at hd ho; cases hd; cases ho
      obtain ⟨ρ', x, y, e⟩ := hstep a (List.mem_of_getElem? h)
      exact ⟨ρ', x, y, g a, e, rfl⟩
theorem enumD_ints {α : Type} (l : List α) (f : α → D) : enumD (l.map f) = l.zipIdx.map fun p => D.tup [.int (p.2 : Nat), f p.1] := by
  unfold enumD
  apply List.ext_getElem?
  intro i
  rw [List.getElem?_mapIdx, List.getElem?_map, List.getElem?_map, List.getElem?_zipIdx]
  cases l[i]? with
  | none => rfl
  | some a => simp
end
end Mine
section
set_option maxRecDepth 100000
namespace Mine
open PySem PySem.Spec PySem.Calls PyProof.Rows PySem.W
theorem sub_upd2 {ρ : Str → Option D} {x y : Str} {d e : D} (h : ρ x = none) (h2 : upd ρ x d y = none) : Sub ρ (updAll ρ [x, y] [d, e]) := fun z f hz => sub_upd (ρ := upd ρ x d) h2 z f (sub_upd h z f hz)
def cellI (ns : List Int) (p base : Int) : Int := (base + (slI ns (some p) (some 60) (some 4)).sum).fmod ((10 : Int) ^ (6 : Int).toNat)
def cellsI (ns : List Int) : List Int := [cellI ns 0 9, cellI ns 1 18, cellI ns 2 2, cellI ns 3 4]
theorem cellI_lo (ns : List Int) (p b : Int) : 0 ≤ cellI ns p b := Int.fmod_nonneg_of_pos _ (by decide)
theorem cellI_hi (ns : List Int) (p b : Int) : cellI ns p b < 1000000 := Int.fmod_lt_of_pos _ (by decide)
section
variable {c : Cx} {sc : Scope} {ρ ρ' : Str → Option D}
theorem ex_cells (W : Wld c) {n : Nat} (hl : LimN n c) {ns : List Int} (hz : ns.length ≤ 63) (h : ρ "script" = some (.sl ns)) : Ex c scL ρ (stL 0) (.next (upd ρ "cells" (.list ((cellsI ns).map .int)))) := by
  have KG := W.KG
  refine Ex.asgC KG (Ev.compMap KG hl.lim (okT := tupT) [((0 : Int), (9 : Int)), (1, 18), (2, 2), (3, 4)] (fun p => .tup [.int p.1, .int p.2]) (fun p => .int (cellI ns p.1 p.2)) (compSt_of (by decide +kernel)) ?_ ⟨_, _, _, rfl⟩ (fun p hp => ?_) (by decide)) (ok1 rfl) rfl swF
  · exact EvIt.enum (ds := [.int 9, .int 18, .int 2, .int 4]) KG W.KI hl.lim W.enum rfl (Ev.list KG (.cons KG .intC (.cons KG .intC (.cons KG .intC (.cons KG .intC .nil)))) (szl _ (by decide)))
  · have S : ∀ {scope : Scope}, inner scope ρ "place" = none → upd (inner scope ρ) "place" (.int p.1) "base" = none → Sub (inner scope ρ) (updAll (inner scope ρ) ["place", "base"] [.int p.1, .int p.2]) := fun a b => sub_upd2 a b
    refine ⟨_, Asg.tup (xs := [("place", _), ("base", _)]) (okA rfl) rfl, S rfl rfl, ?_⟩
    refine Ev.bin KG (Ev.bin KG (.name rfl) (Ev.callF KG W.KI rfl (CallOk.sum hl.lim W.sum) (.cons KG ?_ .nil)) BinOk.add) (Ev.bin KG .intC .intC (BinOk.pow (by decide) (by decide) (by decide))) (BinOk.mod (by decide))
    rw [← slD_ints]
    exact Ev.sliceSl KG (.name (S rfl rfl _ _ (inner_free rfl h))) (EvP.some (.name rfl)) (EvP.some .intC) (EvP.some .intC) (by decide) (szl _ (by omega))
end
end Mine
end
section
set_option maxRecDepth 100000
namespace Mine
open PySem PySem.Spec PySem.Calls PyProof.Rows PySem.W
def lD (l : List Int) : D := .list (l.map .int)
def pD (a b : Int) : D := .tup [.int a, .int b]
def kindOf (n : Int) : Int := (n.fdiv 16).fmod 3
def gI (n : Int) : List Int := givenI n (pairA n) (pairB n)
def mI (n : Int) : List Int := if kindOf n = 2 then [0, 0 + pairA n, 0 + pairA n + pairA n, 0 + pairA n + pairA n + pairA n, 0 + pairA n + pairA n + pairA n + pairA n] else [0, 0 + pairA n, 0 + pairA n + pairB n]
theorem pairA_b (n : Int) : 1 ≤ pairA n ∧ pairA n ≤ 4 := by
  unfold pairA
  have h0 : 0 ≤ n.fmod 4 := Int.fmod_nonneg_of_pos _ (by decide)
  have h1 : n.fmod 4 < 4 := Int.fmod_lt_of_pos _ (by decide)
  omega
theorem pairB_b (n : Int) : 1 ≤ pairB n ∧ pairB n ≤ 4 := by
  unfold pairB
  generalize (if ((n.fdiv 16).fmod 3 == 2) = true then n else n.fdiv 4) = m
  have h0 : 0 ≤ m.fmod 4 := Int.fmod_nonneg_of_pos _ (by decide)
  have h1 : m.fmod 4 < 4 := Int.fmod_lt_of_pos _ (by decide)
  omega
theorem pairB_same {n : Int} (h : kindOf n = 2) : pairB n = pairA n := by
  unfold pairB pairA
  unfold kindOf at h
  rw [h]; rfl
theorem kind_b (n : Int) : kindOf n = 0 ∨ kindOf n = 1 ∨ kindOf n = 2 := by
  unfold kindOf
  have h0 : 0 ≤ (n.fdiv 16).fmod 3 := Int.fmod_nonneg_of_pos _ (by decide)
  have h1 : (n.fdiv 16).fmod 3 < 3 := Int.fmod_lt_of_pos _ (by decide)
  omega
theorem any_zero (l : List Int) : (pys (l.map .int)).any (fun y => PyData.eqv y (D.int 0).py) = l.any (· == 0) := by
  rw [pys_map, List.map_map, List.any_map]
  congr 1
section
variable {c : Cx} {sc : Scope} {ρ ρ' : Str → Option D}
theorem Ev.takeC (KG : Known c.G) {a : Expr} {ds : List D} {i : Int} {k k' : Nat} {p1 p pos : Pos} (h : Ev c sc ρ a (.list ds)) (hi : i = ((k : Nat) : Int)) (hz : ds.length ≤ 1000) : Ev c sc ρ (.Subscript a (.Slice none (some (.Constant (.int i) k' p1)) none p) pos) (.list (ds.take k)) := by
  subst hi
  rw [← slD_take]
  exact Ev.slice KG h EvP.none (EvP.some .intC) EvP.none (by decide) (szl _ hz)
theorem marks_of (W : Wld c) {n : Nat} (hl : LimN (n + 2) c) (k : Int) : CallOk c "_law_marks" [lD (gI k)] (lD (mI k)) := by
  have ha := pairA_b k
  have hb := pairB_b k
  have h1 : pairA k ≠ 127 ∧ pairA k ≠ 0 := by omega
  have h2 : pairB k ≠ 127 ∧ pairB k ≠ 0 := by omega
  unfold gI mI givenI lD
  rcases kind_b k with e | e | e
  · have e' : (k.fdiv 16).fmod 3 = 0 := e
    rw [e', e, if_pos rfl, if_neg (by decide)]
    exact marks_two W hl h1 h2 (.inl rfl)
  · have e' : (k.fdiv 16).fmod 3 = 1 := e
    rw [e', e, if_neg (by decide), if_pos rfl, if_neg (by decide)]
    exact marks_two W hl h1 h2 (.inr ⟨_, rfl⟩)
  · have e' : (k.fdiv 16).fmod 3 = 2 := e
    rw [e', e, if_neg (by decide), if_neg (by decide), if_pos rfl]
    exact marks_ever W hl h1
theorem marks_back (W : Wld c) {n : Nat} (hl : LimN (n + 2) c) (k : Int) : CallOk c "_law_marks" [lD [pairB k, pairA k]] (lD [0, 0 + pairB k, 0 + pairB k + pairA k]) := by
  have ha := pairA_b k
  have hb := pairB_b k
  exact marks_two W hl (by omega) (by omega) (.inl rfl)
theorem gI_len (k : Int) : (gI k).length ≤ 4 := by
  unfold gI givenI
  split
  · simp
  · split <;> simp
theorem gI_zero (k : Int) : (gI k).any (· == 0) = decide (kindOf k = 2) := by
  have ha := pairA_b k
  have hb := pairB_b k
  have h1 : (pairA k == 0) = false := beq_eq_false_iff_ne.mpr (by omega)
  have h2 : (pairB k == 0) = false := beq_eq_false_iff_ne.mpr (by omega)
  unfold gI givenI
  rcases kind_b k with e | e | e
  · have e' : (k.fdiv 16).fmod 3 = 0 := e
    rw [e', e, if_pos rfl]; simp [h1, h2]
  · have e' : (k.fdiv 16).fmod 3 = 1 := e
    rw [e', e, if_neg (by decide), if_pos rfl]; simp [h1, h2]
  · have e' : (k.fdiv 16).fmod 3 = 2 := e
    rw [e', e, if_neg (by decide), if_neg (by decide)]; simp
theorem mI_len (k : Int) : (mI k).length ≤ 5 := by
  unfold mI; split <;> simp

variable {c0 c1 c2 c3 : Int}
theorem ex_pairs (W : Wld c) {n : Nat} (hl : LimN n c) (h : ρ "cells" = some (lD [c0, c1, c2, c3])) : Ex c scL ρ (stL 1) (.next (upd ρ "pairs" (.list [pD (pairA c0) (pairB c0), pD (pairA c1) (pairB c1)]))) := by
  have KG := W.KG
  refine Ex.asgMap KG hl.lim (okT := anyT) [c0, c1] .int (fun n => pD (pairA n) (pairB n)) (compSt_of (by decide +kernel)) ?_ (.inl ⟨_, _, rfl⟩) (fun n hn => ⟨_, Asg.name (ok1 rfl), sub_upd rfl, ?_⟩) (Nat.le_of_ble_eq_true rfl) rfl rfl (swT rfl rfl)
  · exact EvIt.list KG hl.lim (Ev.takeC (k := 2) KG (.name h) rfl (Nat.le_of_ble_eq_true rfl))
  · exact Ev.callF KG W.KI rfl (call_pair W hl n) (.cons KG (.name rfl) .nil)
theorem ex_back (W : Wld c) {n : Nat} (hl : LimN n c) {a b u v : Int} (h : ρ "pairs" = some (.list [pD a b, pD u v])) : Ex c scL ρ (stL 2) (.next (upd ρ "back" (pD v u))) := by
  have KG := W.KG
  have hp : ∀ {p1 p2 p3 : Pos} {k1 : Nat}, Ev c scL ρ (.Subscript (.Name "pairs" p1) (.Constant (.int 1) k1 p2) p3) (.tup [.int u, .int v]) := fun {_ _ _ _} => Ev.itemL KG (ds := [pD a b, pD u v]) (.name h) .intC (by decide) (by decide) rfl
  exact Ex.asg KG (Ev.tuple KG (.cons KG (Ev.itemT KG hp .intC (by decide) (by decide) rfl) (.cons KG (Ev.itemT KG hp .intC (by decide) (by decide) rfl) .nil)) (szl _ (Nat.le_of_ble_eq_true rfl))) (ok1 rfl)
theorem ex_given (W : Wld c) {n : Nat} (hl : LimN (n + 1) c) {u v : Int} (h : ρ "cells" = some (lD [c0, c1, c2, c3])) (hb : ρ "back" = some (pD u v)) : Ex c scL ρ (stL 3) (.next (upd ρ "given" (.list [lD (gI c0), lD (gI c1), lD [u, v]]))) := by
  have KG := W.KG
  refine Ex.asg KG (Ev.bin KG (Ev.compMap KG hl.lim (okT := anyT) [c0, c1] .int (fun n => lD (gI n)) (compSt_of (by decide +kernel)) ?_ (.inl ⟨_, _, rfl⟩) (fun n hn => ⟨_, Asg.name (ok1 rfl), sub_upd rfl, ?_⟩) (Nat.le_of_ble_eq_true rfl)) (Ev.list KG (.cons KG (Ev.callF KG W.KI rfl (CallOk.listT (ds := [.int u, .int v]) W.list (szl _ (Nat.le_of_ble_eq_true rfl))) (.cons KG (.name hb) .nil)) .nil) (szl _ (Nat.le_of_ble_eq_true rfl))) (BinOk.addL (szl _ (Nat.le_of_ble_eq_true rfl)))) (ok1 rfl)
  · exact EvIt.list KG hl.lim (Ev.takeC (k := 2) KG (.name h) rfl (Nat.le_of_ble_eq_true rfl))
  · exact Ev.callF KG W.KI rfl (call_given W hl n) (.cons KG (.name rfl) .nil)
theorem ex_told (W : Wld c) {n : Nat} (hl : LimN (n + 2) c) {k : Int} (h : ρ "given" = some (.list [lD (gI c0), lD (gI c1), lD [pairB k, pairA k]])) : Ex c scL ρ (stL 4) (.next (upd ρ "told" (.list [lD (mI c0), lD (mI c1), lD [0, 0 + pairB k, 0 + pairB k + pairA k]]))) := by
  have KG := W.KG
  refine Ex.asgMap KG hl.lim (okT := anyT) [(gI c0, mI c0), (gI c1, mI c1), ([pairB k, pairA k], [0, 0 + pairB k, 0 + pairB k + pairA k])] (fun p => lD p.1) (fun p => lD p.2) (compSt_of (by decide +kernel)) ?_ (.inl ⟨_, _, rfl⟩) (fun p hp => ⟨_, Asg.name (ok1 rfl), sub_upd rfl, ?_⟩) (Nat.le_of_ble_eq_true rfl) rfl rfl (swT rfl rfl)
  · exact EvIt.list KG hl.lim (.name h)
  · refine Ev.callF KG W.KI rfl (?_ : CallOk c "_law_marks" [lD p.1] (lD p.2)) (.cons KG (.name rfl) .nil)
    simp only [List.mem_cons, List.not_mem_nil, or_false] at hp
    rcases hp with rfl | rfl | rfl
    · exact marks_of W hl c0
    · exact marks_of W hl c1
    · exact marks_back W hl k
end
end Mine
end
section
set_option maxRecDepth 100000
namespace Mine
open PySem PySem.Spec PySem.Calls PyProof.Rows PySem.W
theorem cmpN_l (n : Nat) (l : List Int) : CmpN (n + 1) (lD l) := CmpN.list (CmpN.ints n l)
theorem cmpN_ll (n : Nat) {ls : List (List Int)} : CmpN (n + 2) (.list (ls.map lD)) := CmpN.list fun d hd => by
  obtain ⟨l, _, rfl⟩ := List.mem_map.mp hd
  exact cmpN_l n l
section
variable {c : Cx} {sc : Scope} {ρ ρ' : Str → Option D} {c0 c1 c2 c3 : Int}
/-- a test that finds no difference, and the answer False behind it is not taken -/
theorem Ex.skip (KG : Known c.G) {t : Expr} {body : List Stmt} {pos : Pos} (ht : EvT c sc ρ t false) : Ex c sc ρ (.If t body [] pos) (.next ρ) :=
  Ex.iff KG ht (fun h => by cases h) (fun _ => Exs.nil)
theorem ints_range (k : Nat) : (List.range k).map (fun (i : Nat) => D.int i) = ((List.range k).map fun (i : Nat) => (i : Int)).map D.int := by rw [List.map_map]; rfl
theorem mI_two {k : Int} (h : kindOf k = 2) : mI k = (List.range 5).map fun (i : Nat) => pairA k * (i : Int) := by
  unfold mI; rw [if_pos h]
  show _ = [pairA k * ((0 : Nat) : Int), pairA k * ((1 : Nat) : Int), pairA k * ((2 : Nat) : Int), pairA k * ((3 : Nat) : Int), pairA k * ((4 : Nat) : Int)]
  congr 1
  · omega
  · congr 1
    · omega
    · congr 1
      · omega
      · congr 1
        · omega
        · congr 1; omega
theorem mI_else {k : Int} (h : ¬ kindOf k = 2) : mI k = [0, pairA k, pairA k + pairB k] := by
  unfold mI; rw [if_neg h, Int.zero_add]
theorem ex_check1 (W : Wld c) {n : Nat} (hl : LimN (n + 2) c) (hg : ρ "given" = some (.list [lD (gI c0), lD (gI c1), lD [pairB c1, pairA c1]])) (ht : ρ "told" = some (.list [lD (mI c0), lD (mI c1), lD [0, 0 + pairB c1, 0 + pairB c1 + pairA c1]]))
    (hp : ρ "pairs" = some (.list [pD (pairA c0) (pairB c0), pD (pairA c1) (pairB c1)])) (hb : ρ "back" = some (pD (pairB c1) (pairA c1))) : Ex c scL ρ (stL 5) (.next ρ) := by
  have KG := W.KG
  refine Ex.skip KG (EvT.cmp KG (.name ht) (Ev.compMap KG hl.lim (okT := tupT) [(gI c0, (pairA c0, pairB c0), mI c0), (gI c1, (pairA c1, pairB c1), mI c1), ([pairB c1, pairA c1], (pairB c1, pairA c1), [0, 0 + pairB c1, 0 + pairB c1 + pairA c1])] (fun p => .tup [lD p.1, pD p.2.1.1 p.2.1.2]) (fun p => lD p.2.2) (compSt_of (by decide +kernel)) ?_ ⟨_, _, _, rfl⟩ (fun p hp' => ?_) (Nat.le_of_ble_eq_true rfl)) (CmpOk.neSame hl.lim ((cmpN_ll 0 (ls := [mI c0, mI c1, [0, 0 + pairB c1, 0 + pairB c1 + pairA c1]])).cmpd (by decide))))
  · exact EvIt.zip (ds := [lD (gI c0), lD (gI c1), lD [pairB c1, pairA c1]]) (es := [pD (pairA c0) (pairB c0), pD (pairA c1) (pairB c1)] ++ [pD (pairB c1) (pairA c1)]) KG W.KI hl.lim W.zip rfl (.name hg) (Ev.bin KG (.name hp) (Ev.list KG (.cons KG (.name hb) .nil) (szl _ (Nat.le_of_ble_eq_true rfl))) (BinOk.addL (szl _ (Nat.le_of_ble_eq_true rfl))))
  · obtain ⟨l, ⟨a, b⟩, m⟩ := p
    have S : ∀ {scope : Scope}, inner scope ρ "sizes" = none → upd (inner scope ρ) "sizes" (lD l) "pair" = none → Sub (inner scope ρ) (updAll (inner scope ρ) ["sizes", "pair"] [lD l, pD a b]) := fun a b => sub_upd2 a b
    refine ⟨_, Asg.tup (xs := [("sizes", _), ("pair", _)]) (okA rfl) rfl, S rfl rfl, ?_⟩
    dsimp only
    have hc : CmpN 8 (lD l) := cmpN_l 7 l
    have key : (l.any (· == 0) = true → m = (List.range 5).map fun (i : Nat) => a * (i : Int)) ∧ (l.any (· == 0) = false → m = [0, a, a + b]) := by
      have two : ∀ k : Int, ((gI k).any (· == 0) = true → mI k = (List.range 5).map fun (i : Nat) => pairA k * (i : Int)) ∧ ((gI k).any (· == 0) = false → mI k = [0, pairA k, pairA k + pairB k]) := fun k => by
        rw [gI_zero]
        exact ⟨fun h => mI_two (of_decide_eq_true h), fun h => mI_else (of_decide_eq_false h)⟩
      simp only [List.mem_cons, List.not_mem_nil, or_false, Prod.mk.injEq] at hp'
      rcases hp' with ⟨rfl, ⟨rfl, rfl⟩, rfl⟩ | ⟨rfl, ⟨rfl, rfl⟩, rfl⟩ | ⟨rfl, ⟨rfl, rfl⟩, rfl⟩
      · exact two c0
      · exact two c1
      · have ha := pairA_b c1
        have hb := pairB_b c1
        have h1 : (pairA c1 == 0) = false := beq_eq_false_iff_ne.mpr (by omega)
        have h2 : (pairB c1 == 0) = false := beq_eq_false_iff_ne.mpr (by omega)
        refine ⟨fun h => ?_, fun _ => by rw [Int.zero_add]⟩
        simp [h1, h2] at h
    have hin : CmpOk c .In (.int 0) (lD l) (.bool (l.any (· == 0))) := by
      rw [← any_zero]
      exact CmpOk.inD hl.lim ((CmpN.int 0 0).cmpd (by decide)) (hc.cmpd (by decide))
    refine Ev.ite KG (EvT.cmp KG .intC (.name rfl) hin) (fun h => ?_) (fun h => ?_)
    · rw [key.1 h]
      unfold lD
      rw [List.map_map]
      refine Ev.compMap KG hl.lim (okT := nameT) (List.range 5) (fun (i : Nat) => D.int i) (fun (i : Nat) => D.int (a * (i : Int))) (compSt_of (by decide +kernel)) (EvIt.range1 KG W.KI hl.lim W.range rfl .intC (by decide) (by decide)) ⟨_, _, rfl⟩ (fun i hi => ⟨_, Asg.name (ok1 rfl), sub_upd rfl, ?_⟩) (Nat.le_of_ble_eq_true rfl)
      refine Ev.bin KG (Ev.itemT (ds := [.int a, .int b]) KG (.name rfl) .intC (by decide) (by decide) rfl) (.name rfl) (BinOk.mul ?_)
      refine mul_l ?_
      simp only [List.mem_cons, List.not_mem_nil, or_false, Prod.mk.injEq] at hp'
      have ha := pairA_b c0
      have hb := pairB_b c0
      have ha1 := pairA_b c1
      have hb1 := pairB_b c1
      rcases hp' with ⟨rfl, ⟨rfl, rfl⟩, rfl⟩ | ⟨rfl, ⟨rfl, rfl⟩, rfl⟩ | ⟨rfl, ⟨rfl, rfl⟩, rfl⟩ <;> omega
    · rw [key.2 h]
      refine Ev.list (ds := [.int 0, .int a, .int (a + b)]) KG (.cons KG .intC (.cons KG (Ev.itemT (ds := [.int a, .int b]) KG (.name rfl) .intC (by decide) (by decide) rfl) (.cons KG (Ev.bin KG (Ev.itemT (ds := [.int a, .int b]) KG (.name rfl) .intC (by decide) (by decide) rfl) (Ev.itemT (ds := [.int a, .int b]) KG (.name rfl) .intC (by decide) (by decide) rfl) BinOk.add) .nil))) (szl _ (Nat.le_of_ble_eq_true rfl))
end
end Mine
end
section
set_option maxRecDepth 100000
namespace Mine
open PySem PySem.Spec PySem.Calls PyProof.Rows PySem.W
def fI (k : Int) : List Int := [0, 0 + pairA k, 0 + pairA k + pairB k]
def bI (k : Int) : List Int := [0, 0 + pairB k, 0 + pairB k + pairA k]
theorem mI_take (k : Int) : (mI k).take 3 = fI k := by
  unfold mI fI
  by_cases h : kindOf k = 2
  · rw [if_pos h, pairB_same h]; rfl
  · rw [if_neg h]; rfl
def stepI (c2 : Int) : Int := ([1, 2, 4, 5, 7, 8] : List Int).getD (c2.fmod 6).toNat 0
def spotsI (st c3 : Int) : List Int := (List.range 9).map fun (t : Nat) => ((t : Int) * st + c3).fmod 9
def laidI (f sm spots : List Int) : List (Int × Int) := spots.zipIdx.map fun p => (f.getD (p.1.fdiv 3).toNat 0 + sm.getD (p.1.fmod 3).toNat 0, (p.2 : Int))
theorem get_ints {l : List Int} {k : Nat} (h : k < l.length) : (l.map D.int)[k]? = some (.int (l.getD k 0)) := by
  rw [List.getElem?_map, List.getElem?_eq_getElem h]
  simp [List.getD, List.getElem?_eq_getElem h]
section
variable {c : Cx} {sc : Scope} {ρ ρ' : Str → Option D} {c0 c1 c2 c3 : Int}
theorem ex_three (W : Wld c) {n : Nat} (hl : LimN n c) {m : Int} (h : ρ "told" = some (.list [lD (mI c0), lD (mI c1), lD (bI m)])) : Ex c scL ρ (stL 6) (.next (updAll ρ ["first", "second", "turned"] [lD (fI c0), lD (fI c1), lD (bI m)])) := by
  have KG := W.KG
  have hb : (bI m).take 3 = bI m := rfl
  have e : ([mI c0, mI c1, bI m] : List (List Int)).map (fun l => lD (l.take 3)) = [lD (fI c0), lD (fI c1), lD (bI m)] := by
    show [lD ((mI c0).take 3), lD ((mI c1).take 3), lD ((bI m).take 3)] = _
    rw [mI_take, mI_take, hb]
  refine Ex.asgL KG hl.lim (xs := [("first", _), ("second", _), ("turned", _)]) (ds := [lD (fI c0), lD (fI c1), lD (bI m)]) ?_ (okA rfl) rfl
  rw [← e]
  refine Ev.compMap KG hl.lim (okT := anyT) [mI c0, mI c1, bI m] lD (fun l => lD (l.take 3)) (compSt_of (by decide +kernel)) (EvIt.list KG hl.lim (.name h)) (.inl ⟨_, _, rfl⟩) (fun l hl' => ⟨_, Asg.name (ok1 rfl), sub_upd rfl, ?_⟩) (Nat.le_of_ble_eq_true rfl)
  have hlen : l.length ≤ 5 := by
    simp only [List.mem_cons, List.not_mem_nil, or_false] at hl'
    rcases hl' with rfl | rfl | rfl
    · exact mI_len _
    · exact mI_len _
    · exact Nat.le_of_ble_eq_true rfl
  unfold lD
  rw [List.map_take]
  exact Ev.takeC (k := 3) KG (.name rfl) rfl (by rw [List.length_map]; omega)
theorem fmod_b (a : Int) {k : Int} (hk : 0 < k) : 0 ≤ a.fmod k ∧ a.fmod k < k := ⟨Int.fmod_nonneg_of_pos _ hk, Int.fmod_lt_of_pos _ hk⟩
theorem cell_at (KG : Known c.G) {e : Expr} {i : Int} {k : Nat} {l : List Int} {p1 p : Pos} (h : Ev c sc ρ e (lD l)) (h0 : 0 ≤ i) (h1 : i < 100) (h2 : i.toNat < l.length) : Ev c sc ρ (.Subscript e (.Constant (.int i) k p1) p) (.int (l.getD i.toNat 0)) :=
  Ev.itemL KG h .intC h0 (by omega) (get_ints h2)
theorem ex_step (W : Wld c) {n : Nat} (hl : LimN n c) (h : ρ "cells" = some (lD [c0, c1, c2, c3])) : Ex c scL ρ (stL 7) (.next (upd ρ "step" (.int (stepI c2)))) := by
  have KG := W.KG
  have hb := fmod_b c2 (k := 6) (by decide)
  refine Ex.asg KG (Ev.itemL (ds := ([1, 2, 4, 5, 7, 8] : List Int).map .int) (k := c2.fmod 6) KG (Ev.list KG (.cons KG .intC (.cons KG .intC (.cons KG .intC (.cons KG .intC (.cons KG .intC (.cons KG .intC .nil)))))) (szl _ (Nat.le_of_ble_eq_true rfl))) (Ev.bin KG (cell_at (l := [c0, c1, c2, c3]) KG (.name h) (by decide) (by decide) (Nat.le_of_ble_eq_true rfl)) .intC (BinOk.mod (by decide))) hb.1 (by omega) ?_) (ok1 rfl)
  exact get_ints (show _ < 6 by omega)
theorem stepI_b (c2 : Int) : 0 ≤ stepI c2 ∧ stepI c2 ≤ 8 := by
  unfold stepI
  have hb := fmod_b c2 (k := 6) (by decide)
  generalize hk : (c2.fmod 6).toNat = k
  have : k < 6 := by omega
  match k, this with
  | 0, _ => decide
  | 1, _ => decide
  | 2, _ => decide
  | 3, _ => decide
  | 4, _ => decide
  | 5, _ => decide
theorem ex_spots (W : Wld c) {n : Nat} (hl : LimN n c) {st : Int} (h : ρ "cells" = some (lD [c0, c1, c2, c3])) (hs : ρ "step" = some (.int st)) : Ex c scL ρ (stL 8) (.next (upd ρ "spots" (lD (spotsI st c3)))) := by
  have KG := W.KG
  have e : lD (spotsI st c3) = .list ((List.range 9).map fun (t : Nat) => D.int (((t : Int) * st + c3).fmod 9)) := by unfold lD spotsI; rw [List.map_map]; rfl
  rw [e]
  refine Ex.asgC KG (Ev.compMap KG hl.lim (okT := nameT) (List.range 9) (fun (t : Nat) => D.int t) (fun (t : Nat) => D.int (((t : Int) * st + c3).fmod 9)) (compSt_of (by decide +kernel)) (EvIt.range1 KG W.KI hl.lim W.range rfl .intC (by decide) (by decide)) ⟨_, _, rfl⟩ (fun t ht => ⟨_, Asg.name (ok1 rfl), sub_upd rfl, ?_⟩) (Nat.le_of_ble_eq_true rfl)) (ok1 rfl) rfl swF
  have S : ∀ {scope : Scope}, inner scope ρ "turn" = none → Sub (inner scope ρ) (upd (inner scope ρ) "turn" (.int (t : Nat))) := fun a => sub_upd a
  have ht' : t < 9 := List.mem_range.mp ht
  refine Ev.bin KG (Ev.bin KG (Ev.bin KG (.name rfl) (.name (S rfl _ _ (inner_free rfl hs))) (BinOk.mul (mul_l (by omega)))) (cell_at (l := [c0, c1, c2, c3]) KG (.name (S rfl _ _ (inner_free rfl h))) (by decide) (by decide) (Nat.le_of_ble_eq_true rfl)) BinOk.add) .intC (BinOk.mod (by decide))
theorem spots_b {st c3 : Int} : ∀ x ∈ spotsI st c3, 0 ≤ x ∧ x < 9 := fun x hx => by
  obtain ⟨t, _, rfl⟩ := List.mem_map.mp hx
  exact fmod_b _ (by decide)
theorem item_at (KG : Known c.G) {e i : Expr} {k : Int} {l : List Int} {p : Pos} (h : Ev c sc ρ e (lD l)) (hi : Ev c sc ρ i (.int k)) (h0 : 0 ≤ k) (h1 : k < 100) (h2 : k.toNat < l.length) : Ev c sc ρ (.Subscript e i p) (.int (l.getD k.toNat 0)) :=
  Ev.itemL KG h hi h0 (by omega) (get_ints h2)
theorem ex_laid (W : Wld c) {n : Nat} (hl : LimN n c) {f s1 s2 spots : List Int} (hf : ρ "first" = some (lD f)) (h1 : ρ "second" = some (lD s1)) (h2 : ρ "turned" = some (lD s2)) (hsp : ρ "spots" = some (lD spots)) (lf : f.length = 3) (l1 : s1.length = 3) (l2 : s2.length = 3) (hb : ∀ x ∈ spots, 0 ≤ x ∧ x < 9) (lsp : spots.length ≤ 1000) :
    Ex c scL ρ (stL 9) (.next (upd ρ "laid" (.list [.list ((laidI f s1 spots).map prD), .list ((laidI f s2 spots).map prD)]))) := by
  have KG := W.KG
  refine Ex.asgMap KG hl.lim (okT := nameT) [s1, s2] lD (fun sm => .list ((laidI f sm spots).map prD)) (compSt_of (by decide +kernel)) ?_ ⟨_, _, rfl⟩ (fun sm hsm => ?_) (Nat.le_of_ble_eq_true rfl) rfl rfl (swT rfl rfl)
  · exact EvIt.tuple KG hl.lim (Ev.tuple KG (.cons KG (.name h1) (.cons KG (.name h2) .nil)) (szl _ (Nat.le_of_ble_eq_true rfl)))
  · have ls : sm.length = 3 := by
      simp only [List.mem_cons, List.not_mem_nil, or_false] at hsm
      rcases hsm with rfl | rfl
      · exact l1
      · exact l2
    have S : ∀ {scope : Scope}, inner scope ρ "small" = none → Sub (inner scope ρ) (upd (inner scope ρ) "small" (lD sm)) := fun a => sub_upd a
    refine ⟨_, Asg.name (ok1 rfl), S rfl, ?_⟩
    have hf' := fun {scope : Scope} (a : scope.names.lookup ("first" : Str) = some NameKind.free) (b : inner scope ρ "small" = none) => S b _ _ (inner_free a hf)
    have hsp' := fun {scope : Scope} (a : scope.names.lookup ("spots" : Str) = some NameKind.free) (b : inner scope ρ "small" = none) => S b _ _ (inner_free a hsp)
    unfold laidI
    rw [List.map_map]
    refine Ev.compMap KG hl.lim (okT := tupT) spots.zipIdx (fun p => .tup [.int (p.2 : Nat), .int p.1]) (fun p => prD (f.getD (p.1.fdiv 3).toNat 0 + sm.getD (p.1.fmod 3).toNat 0, (p.2 : Int))) (compSt_of (by decide +kernel)) ?_ ⟨_, _, _, rfl⟩ (fun p hp => ?_) (by rw [List.length_zipIdx]; exact lsp)
    · rw [← enumD_ints spots D.int]
      exact EvIt.enum KG W.KI hl.lim W.enum rfl (.name (hsp' rfl rfl))
    · have hx : p.1 ∈ spots := by
        obtain ⟨a, b⟩ := p
        exact List.fst_mem_of_mem_zipIdx hp
      have hbb := hb _ hx
      have d1 : 0 ≤ p.1.fdiv 3 ∧ p.1.fdiv 3 < 3 := by
        have := Int.fdiv_eq_ediv_of_nonneg p.1 (show (0 : Int) ≤ 3 by decide)
        omega
      have d2 := fmod_b p.1 (k := 3) (by decide)
      refine ⟨_, Asg.tup (xs := [("turn", _), ("spot", _)]) (okA rfl) rfl, sub_upd2 rfl rfl, ?_⟩
      have T := fun {ρ₂ : Str → Option D} {scope : Scope} (a : inner scope ρ₂ "turn" = none) (b : upd (inner scope ρ₂) "turn" (.int (p.2 : Nat)) "spot" = none) => sub_upd2 (ρ := inner scope ρ₂) (x := "turn") (y := "spot") (d := .int (p.2 : Nat)) (e := .int p.1) a b
      exact Ev.tuple (ds := [.int _, .int _]) KG (.cons KG (Ev.bin KG (item_at KG (.name (T rfl rfl _ _ (inner_free rfl (hf' rfl rfl)))) (Ev.bin KG (.name rfl) .intC (BinOk.fdivS (by decide) (by decide))) d1.1 (by omega) (by omega)) (item_at KG (.name rfl) (Ev.bin KG (.name rfl) .intC (BinOk.mod (by decide))) d2.1 (by omega) (by omega)) BinOk.add) (.cons KG (.name rfl) .nil)) (szl _ (Nat.le_of_ble_eq_true rfl))
end
end Mine
end
section
set_option maxRecDepth 100000
namespace Mine
open PySem PySem.Spec PySem.Calls PyProof.Rows PySem.W
noncomputable def brN (xs : List Int) (x : Int) : Nat := bis (fun i => decide (x < xs.getD i 0)) xs.length 0 xs.length
noncomputable def blN (xs : List Int) (x : Int) : Nat := bis (fun i => !decide (xs.getD i 0 < x)) xs.length 0 xs.length
section
variable {c : Cx} {sc : Scope} {ρ ρ' : Str → Option D} {c0 c1 c2 c3 : Int}
theorem ex_rows (W : Wld c) {n : Nat} (hl : LimN n c) {o1 o2 : List (Int × Int)} (h : ρ "ordered" = some (.list [.list (o1.map prD), .list (o2.map prD)])) (l1 : o1.length ≤ 1000) (l2 : o2.length ≤ 1000) :
    Ex c scL ρ (stL 12) (.next (upd ρ "rows" (.list [lD (o1.map (·.1)), lD (o2.map (·.1))]))) := by
  have KG := W.KG
  refine Ex.asgC KG (Ev.compMap KG hl.lim (okT := anyT) [o1, o2] (fun o => .list (o.map prD)) (fun o => lD (o.map (·.1))) (compSt_of (by decide +kernel)) (EvIt.list KG hl.lim (.name h)) (.inl ⟨_, _, rfl⟩) (fun o ho => ⟨_, Asg.name (ok1 rfl), sub_upd rfl, ?_⟩) (Nat.le_of_ble_eq_true rfl)) (ok1 rfl) rfl swF
  have lo : o.length ≤ 1000 := by
    simp only [List.mem_cons, List.not_mem_nil, or_false] at ho
    rcases ho with rfl | rfl
    · exact l1
    · exact l2
  unfold lD
  rw [List.map_map]
  refine Ev.compMap KG hl.lim (okT := anyT) o prD (fun p => .int p.1) (compSt_of (by decide +kernel)) (EvIt.list KG hl.lim (.name rfl)) (.inr ⟨_, _, _, rfl⟩) (fun p hp => ?_) lo
  exact ⟨_, Asg.tup (xs := [("mark", _), ("turn", _)]) (ds := [.int p.1, .int p.2]) (okA rfl) rfl, sub_upd2 rfl rfl, .name rfl⟩
theorem row_at (KG : Known c.G) {e : Expr} {r0 r1 : List Int} {p1 p : Pos} {k : Nat} (h : Ev c sc ρ e (.list [lD r0, lD r1])) : Ev c sc ρ (.Subscript e (.Constant (.int 0) k p1) p) (lD r0) := Ev.itemL KG (ds := [lD r0, lD r1]) h .intC (by decide) (by decide) rfl
theorem row_at1 (KG : Known c.G) {e : Expr} {r0 r1 : List Int} {p1 p : Pos} {k : Nat} (h : Ev c sc ρ e (.list [lD r0, lD r1])) : Ev c sc ρ (.Subscript e (.Constant (.int 1) k p1) p) (lD r1) := Ev.itemL KG (ds := [lD r0, lD r1]) h .intC (by decide) (by decide) rfl
/-- the places told of each mark, and the sum of the places told part by part -/
theorem ex_check3 (W : Wld c) {n : Nat} (hl : LimN (n + 1) c) {r0 r1 f s : List Int} (h : ρ "rows" = some (.list [lD r0, lD r1])) (hf : ρ "first" = some (lD f)) (hs : ρ "second" = some (lD s)) (l0 : r0.length ≤ 100) (lf : f.length ≤ 100) (ls : s.length ≤ 100)
    (hE : r0.map (fun m => ((brN r0 m : Nat) : Int)) = r0.map fun m => (f.map fun p => ((brN s (m - p) : Nat) : Int)).sum) : Ex c scL ρ (stL 13) (.next ρ) := by
  have KG := W.KG
  have e1 : lD (r0.map (fun m => ((brN r0 m : Nat) : Int))) = .list (r0.map fun m => D.int ((brN r0 m : Nat) : Int)) := by unfold lD; rw [List.map_map]; rfl
  have e2 : lD (r0.map (fun m => ((brN r0 m : Nat) : Int))) = .list (r0.map fun m => D.int (f.map fun p => ((brN s (m - p) : Nat) : Int)).sum) := by rw [hE]; unfold lD; rw [List.map_map]; rfl
  refine Ex.skip KG (EvT.cmp KG (da := lD (r0.map (fun m => ((brN r0 m : Nat) : Int)))) (db := lD (r0.map (fun m => ((brN r0 m : Nat) : Int)))) (e1 ▸ ?_) (e2 ▸ ?_) (CmpOk.neSame hl.lim ((cmpN_l 0 _).cmpd (by decide))))
  · refine Ev.compMap KG hl.lim (okT := anyT) r0 .int (fun m => .int ((brN r0 m : Nat) : Int)) (compSt_of (by decide +kernel)) (EvIt.list KG hl.lim (row_at KG (.name h))) (.inl ⟨_, _, rfl⟩) (fun m hm => ⟨_, Asg.name (ok1 rfl), sub_upd rfl, ?_⟩) (by omega)
    have S : ∀ {scope : Scope}, inner scope ρ "mark" = none → Sub (inner scope ρ) (upd (inner scope ρ) "mark" (.int m)) := fun a => sub_upd a
    exact Ev.callF KG W.KI rfl (call_bis2 W hl r0 m (by omega)) (.cons KG (row_at KG (.name (S rfl _ _ (inner_free rfl h)))) (.cons KG (.name rfl) .nil))
  · refine Ev.compMap KG hl.lim (okT := anyT) r0 .int (fun m => .int (f.map fun p => ((brN s (m - p) : Nat) : Int)).sum) (compSt_of (by decide +kernel)) (EvIt.list KG hl.lim (row_at KG (.name h))) (.inl ⟨_, _, rfl⟩) (fun m hm => ⟨_, Asg.name (ok1 rfl), sub_upd rfl, ?_⟩) (by omega)
    have S : ∀ {scope : Scope}, inner scope ρ "mark" = none → Sub (inner scope ρ) (upd (inner scope ρ) "mark" (.int m)) := fun a => sub_upd a
    have hf' := fun {scope : Scope} (a : scope.names.lookup ("first" : Str) = some NameKind.free) (b : inner scope ρ "mark" = none) => S b _ _ (inner_free a hf)
    have hs' := fun {scope : Scope} (a : scope.names.lookup ("second" : Str) = some NameKind.free) (b : inner scope ρ "mark" = none) => S b _ _ (inner_free a hs)
    refine Ev.callF KG W.KI rfl (CallOk.sum hl.lim W.sum) (.cons KG ?_ .nil)
    rw [List.map_map]
    refine Ev.compMap KG hl.lim (okT := anyT) f .int (fun p => .int ((brN s (m - p) : Nat) : Int)) (compSt_of (by decide +kernel)) (EvIt.list KG hl.lim (.name (hf' rfl rfl))) (.inl ⟨_, _, rfl⟩) (fun p hp => ⟨_, Asg.name (ok1 rfl), sub_upd rfl, ?_⟩) (by omega)
    have T := fun {ρ₂ : Str → Option D} {scope : Scope} (a : inner scope ρ₂ "part" = none) => sub_upd (ρ := inner scope ρ₂) (x := "part") (d := .int p) a
    exact Ev.callF KG W.KI rfl (call_bis2 W hl s (m - p) (by omega)) (.cons KG (.name (T rfl _ _ (inner_free rfl (hs' rfl rfl)))) (.cons KG (Ev.bin KG (.name rfl) (.name rfl) BinOk.sub) .nil))
theorem ex_check4 (W : Wld c) {n : Nat} (hl : LimN (n + 1) c) {r0 r1 f s : List Int} (h : ρ "rows" = some (.list [lD r0, lD r1])) (hf : ρ "first" = some (lD f)) (hs : ρ "turned" = some (lD s)) (l0 : r1.length ≤ 100) (lf : f.length ≤ 100) (ls : s.length ≤ 100)
    (hE : r1.map (fun m => ((blN r1 m : Nat) : Int)) = r1.map fun m => (f.map fun p => ((blN s (m - p) : Nat) : Int)).sum) : Ex c scL ρ (stL 14) (.next ρ) := by
  have KG := W.KG
  have e1 : lD (r1.map (fun m => ((blN r1 m : Nat) : Int))) = .list (r1.map fun m => D.int ((blN r1 m : Nat) : Int)) := by unfold lD; rw [List.map_map]; rfl
  have e2 : lD (r1.map (fun m => ((blN r1 m : Nat) : Int))) = .list (r1.map fun m => D.int (f.map fun p => ((blN s (m - p) : Nat) : Int)).sum) := by rw [hE]; unfold lD; rw [List.map_map]; rfl
  refine Ex.skip KG (EvT.cmp KG (da := lD (r1.map (fun m => ((blN r1 m : Nat) : Int)))) (db := lD (r1.map (fun m => ((blN r1 m : Nat) : Int)))) (e1 ▸ ?_) (e2 ▸ ?_) (CmpOk.neSame hl.lim ((cmpN_l 0 _).cmpd (by decide))))
  · refine Ev.compMap KG hl.lim (okT := anyT) r1 .int (fun m => .int ((blN r1 m : Nat) : Int)) (compSt_of (by decide +kernel)) (EvIt.list KG hl.lim (row_at1 KG (.name h))) (.inl ⟨_, _, rfl⟩) (fun m hm => ⟨_, Asg.name (ok1 rfl), sub_upd rfl, ?_⟩) (by omega)
    have S : ∀ {scope : Scope}, inner scope ρ "mark" = none → Sub (inner scope ρ) (upd (inner scope ρ) "mark" (.int m)) := fun a => sub_upd a
    exact Ev.callF KG W.KI rfl (call_bisl2 W hl r1 m (by omega)) (.cons KG (row_at1 KG (.name (S rfl _ _ (inner_free rfl h)))) (.cons KG (.name rfl) .nil))
  · refine Ev.compMap KG hl.lim (okT := anyT) r1 .int (fun m => .int (f.map fun p => ((blN s (m - p) : Nat) : Int)).sum) (compSt_of (by decide +kernel)) (EvIt.list KG hl.lim (row_at1 KG (.name h))) (.inl ⟨_, _, rfl⟩) (fun m hm => ⟨_, Asg.name (ok1 rfl), sub_upd rfl, ?_⟩) (by omega)
    have S : ∀ {scope : Scope}, inner scope ρ "mark" = none → Sub (inner scope ρ) (upd (inner scope ρ) "mark" (.int m)) := fun a => sub_upd a
    have hf' := fun {scope : Scope} (a : scope.names.lookup ("first" : Str) = some NameKind.free) (b : inner scope ρ "mark" = none) => S b _ _ (inner_free a hf)
    have hs' := fun {scope : Scope} (a : scope.names.lookup ("turned" : Str) = some NameKind.free) (b : inner scope ρ "mark" = none) => S b _ _ (inner_free a hs)
    refine Ev.callF KG W.KI rfl (CallOk.sum hl.lim W.sum) (.cons KG ?_ .nil)
    rw [List.map_map]
    refine Ev.compMap KG hl.lim (okT := anyT) f .int (fun p => .int ((blN s (m - p) : Nat) : Int)) (compSt_of (by decide +kernel)) (EvIt.list KG hl.lim (.name (hf' rfl rfl))) (.inl ⟨_, _, rfl⟩) (fun p hp => ⟨_, Asg.name (ok1 rfl), sub_upd rfl, ?_⟩) (by omega)
    have T := fun {ρ₂ : Str → Option D} {scope : Scope} (a : inner scope ρ₂ "part" = none) => sub_upd (ρ := inner scope ρ₂) (x := "part") (d := .int p) a
    exact Ev.callF KG W.KI rfl (call_bisl2 W hl s (m - p) (by omega)) (.cons KG (.name (T rfl _ _ (inner_free rfl (hs' rfl rfl)))) (.cons KG (Ev.bin KG (.name rfl) (.name rfl) BinOk.sub) .nil))
end
end Mine
end
section
set_option maxRecDepth 100000
namespace Mine
open PySem PySem.Spec PySem.Calls PyProof.Rows PySem.W
section
variable {c : Cx} {sc : Scope} {ρ ρ' : Str → Option D} {c0 c1 c2 c3 : Int}
theorem EvC.last {elt : Expr} {d : D} (h : Ev c sc ρ elt d) : EvC c sc elt [] ρ [d] := ⟨d, h, rfl⟩
theorem EvC.map {α : Type} {elt tgt iter : Expr} {gs : List Comprehension} {okT : Expr → Prop} (l : List α) (f : α → D) (g : α → List D) (hok : okT tgt) (h1 : EvIt c sc ρ okT iter (l.map f))
    (hstep : ∀ a ∈ l, ∃ ρ', Asg sc ρ tgt (f a) ρ' ∧ Sub ρ ρ' ∧ EvC c sc elt gs ρ' (g a)) (hset : ∀ env x, foldedSetIterable iter env x = pure x := by intro _ _; rfl) : EvC c sc elt (⟨tgt, iter, [], 0⟩ :: gs) ρ (l.flatMap g) :=
  ⟨okT, l.map f, l.map g, hok, hset, h1, by simp, fun j d o hd ho => by
    rw [List.getElem?_map] at hd ho
    cases h : l[j]? with
    | none => rw [h] at hd; cases hd
    | some a =>
      rw [h] at hd ho; cases hd; cases ho
      exact hstep a (List.mem_of_getElem? h), by rw [List.flatMap_def]⟩
theorem Ev.compFlat {α : Type} (KG : Known c.G) (hl : Lim c) {elt tgt iter : Expr} {gs : List Comprehension} {scope : Scope} {pos : Pos} {okT : Expr → Prop} (l : List α) (f : α → D) (g : α → List D) (st : CompSt sc scope (⟨tgt, iter, [], 0⟩ :: gs)) (h1 : EvIt c sc ρ okT iter (l.map f)) (hok : okT tgt)
    (hstep : ∀ a ∈ l, ∃ ρ', Asg (relD sc scope) (inner scope ρ) tgt (f a) ρ' ∧ Sub (inner scope ρ) ρ' ∧ EvC c (relD sc scope) elt gs ρ' (g a)) (hz : (l.flatMap g).length ≤ 1000)
    (hset : ∀ env x, foldedSetIterable iter env x = pure x := by intro _ _; rfl) : Ev c sc ρ (.ListComp elt (⟨tgt, iter, [], 0⟩ :: gs) scope pos) (.list (l.flatMap g)) := by
  rw [List.flatMap_def] at hz ⊢
  refine Ev.comp (items := l.map f) (outs := l.map g) KG hl st h1 hok (by simp) (fun j d o hd ho => ?_) (szl _ hz) hset
  rw [List.getElem?_map] at hd ho
  cases h : l[j]? with
  | none => rw [h] at hd; cases hd
  | some a =>
    rw [h] at hd ho; cases hd; cases ho
    exact hstep a (List.mem_of_getElem? h)
def apartI (f s : List Int) : List Int := f.flatMap fun high => f.flatMap fun low => s.flatMap fun late => s.flatMap fun early => [high - low + late - early]
theorem apart_len {f s : List Int} (lf : f.length = 3) (ls : s.length = 3) : (apartI f s).length = 81 := by
  match f, lf with
  | [a, b, d], _ =>
    match s, ls with
    | [x, y, z], _ => rfl
theorem ex_apart (W : Wld c) {n : Nat} (hl : LimN n c) {f s : List Int} (hf : ρ "first" = some (lD f)) (hs : ρ "second" = some (lD s)) (lf : f.length = 3) (ls : s.length = 3) : Ex c scL ρ (stL 15) (.next (upd ρ "apart" (lD (apartI f s)))) := by
  have KG := W.KG
  have e : lD (apartI f s) = .list (f.flatMap fun high => f.flatMap fun low => s.flatMap fun late => s.flatMap fun early => [D.int (high - low + late - early)]) := by
    unfold lD apartI
    rw [List.map_flatMap]
    simp only [List.map_flatMap, List.map_cons, List.map_nil]
  have hz : (f.flatMap fun high => f.flatMap fun low => s.flatMap fun late => s.flatMap fun early => [D.int (high - low + late - early)]).length ≤ 1000 := by
    have := apart_len lf ls
    have q : (D.list (f.flatMap fun high => f.flatMap fun low => s.flatMap fun late => s.flatMap fun early => [D.int (high - low + late - early)])) = .list ((apartI f s).map .int) := e.symm
    rw [D.list.inj q, List.length_map]; omega
  rw [e]
  refine Ex.asgC KG (Ev.compFlat KG hl.lim (okT := anyT) f .int _ (compSt_of (by decide +kernel)) (EvIt.list KG hl.lim (.name hf)) (.inl ⟨_, _, rfl⟩) (fun high _ => ⟨_, Asg.name (ok1 rfl), sub_upd rfl, ?_⟩) hz) (ok1 rfl) rfl swF
  have S1 := fun {scope : Scope} (a : inner scope ρ "high" = none) => sub_upd (ρ := inner scope ρ) (x := "high") (d := .int high) a
  refine EvC.map (okT := anyT) f .int _ (.inl ⟨_, _, rfl⟩) (EvIt.list KG hl.lim (.name (S1 rfl _ _ (inner_free rfl hf)))) (fun low _ => ⟨_, Asg.name (ok1 rfl), sub_upd rfl, ?_⟩)
  have S2 := fun {scope : Scope} (a : inner scope ρ "high" = none) (b : upd (inner scope ρ) "high" (.int high) "low" = none) => fun x d h => sub_upd (ρ := upd (inner scope ρ) "high" (.int high)) (x := "low") (d := .int low) b x d (S1 a x d h)
  refine EvC.map (okT := anyT) s .int _ (.inl ⟨_, _, rfl⟩) (EvIt.list KG hl.lim (.name (S2 rfl rfl _ _ (inner_free rfl hs)))) (fun late _ => ⟨_, Asg.name (ok1 rfl), sub_upd rfl, ?_⟩)
  have S3 := fun {scope : Scope} (a : inner scope ρ "high" = none) (b : upd (inner scope ρ) "high" (.int high) "low" = none) (b' : upd (upd (inner scope ρ) "high" (.int high)) "low" (.int low) "late" = none) => fun x d h => sub_upd (ρ := upd (upd (inner scope ρ) "high" (.int high)) "low" (.int low)) (x := "late") (d := .int late) b' x d (S2 a b x d h)
  refine EvC.map (okT := anyT) s .int _ (.inl ⟨_, _, rfl⟩) (EvIt.list KG hl.lim (.name (S3 rfl rfl rfl _ _ (inner_free rfl hs)))) (fun early _ => ⟨_, Asg.name (ok1 rfl), sub_upd rfl, EvC.last ?_⟩)
  exact Ev.bin KG (Ev.bin KG (Ev.bin KG (.name rfl) (.name rfl) BinOk.sub) (.name rfl) BinOk.add) (.name rfl) BinOk.sub
def dueI (ap : List Int) (m : Int) : List Int := [((ap.count 0 : Nat) - 9 : Int).fdiv 2] ++ (List.range m.toNat).map fun (i : Nat) => ((ap.count (1 + (i : Int)) : Nat) : Int)
theorem ex_due (W : Wld c) {n : Nat} (hl : LimN n c) {ap f s : List Int} (ha : ρ "apart" = some (lD ap)) (hf : ρ "first" = some (lD f)) (hs : ρ "second" = some (lD s)) (lf : f.length = 3) (ls : s.length = 3) (h0 : 0 ≤ f.getD 2 0 + s.getD 2 0) (h1 : f.getD 2 0 + s.getD 2 0 ≤ 20) :
    Ex c scL ρ (stL 16) (.next (upd ρ "due" (lD (dueI ap (f.getD 2 0 + s.getD 2 0))))) := by
  have KG := W.KG
  have e : lD (dueI ap (f.getD 2 0 + s.getD 2 0)) = .list ([.int (((ap.count 0 : Nat) - 9 : Int).fdiv 2)] ++ (List.range (f.getD 2 0 + s.getD 2 0 + 1 - 1).toNat).map fun (i : Nat) => D.int ((ap.count (1 + (i : Int)) : Nat) : Int)) := by
    unfold lD dueI
    rw [List.map_append, List.map_map, Int.add_sub_cancel]; rfl
  rw [e]
  refine Ex.asg KG (Ev.bin KG (Ev.list KG (.cons KG (Ev.bin KG (Ev.bin KG (Ev.count KG (.name ha) .intC) .intC BinOk.sub) .intC (BinOk.fdivS (by decide) (by decide))) .nil) (szl _ (Nat.le_of_ble_eq_true rfl))) (Ev.compMap KG hl.lim (okT := nameT) (List.range (f.getD 2 0 + s.getD 2 0 + 1 - 1).toNat) (fun (i : Nat) => .int (1 + (i : Int))) (fun (i : Nat) => D.int ((ap.count (1 + (i : Int)) : Nat) : Int)) (compSt_of (by decide +kernel)) ?_ ⟨_, _, rfl⟩ (fun i hi => ⟨_, Asg.name (ok1 rfl), sub_upd rfl, ?_⟩) ?_) (BinOk.addL ?_)) (ok1 rfl)
  · exact EvIt.range2 KG W.KI hl.lim W.range rfl .intC (Ev.bin KG (Ev.bin KG (cell_at (l := f) KG (.name hf) (by decide) (by decide) (by rw [lf]; decide)) (cell_at (l := s) KG (.name hs) (by decide) (by decide) (by rw [ls]; decide)) BinOk.add) .intC BinOk.add) (by decide) (by decide) (by show _ ≤ f.getD 2 0 + s.getD 2 0 + 1; omega) (by show f.getD 2 0 + s.getD 2 0 + 1 ≤ _; omega)
  · have S := fun {scope : Scope} (a : inner scope ρ "distance" = none) => sub_upd (ρ := inner scope ρ) (x := "distance") (d := .int (1 + (i : Int))) a
    exact Ev.count KG (.name (S rfl _ _ (inner_free rfl ha))) (.name rfl)
  · rw [List.length_range]; omega
  · refine szl _ ?_
    rw [List.length_map, List.length_range]
    show 1 + _ ≤ 1000
    omega
theorem ex_behind (W : Wld c) {n : Nat} (hl : LimN n c) (h : ρ "cells" = some (lD [c0, c1, c2, c3])) : Ex c scL ρ (stL 17) (.next (upd ρ "behind" (.int (c2.fmod 5)))) :=
  Ex.asg W.KG (Ev.bin W.KG (cell_at (l := [c0, c1, c2, c3]) W.KG (.name h) (by decide) (by decide) (Nat.le_of_ble_eq_true rfl)) .intC (BinOk.mod (by decide))) (ok1 rfl)
theorem ex_size (W : Wld c) {n : Nat} (hl : LimN n c) (h : ρ "cells" = some (lD [c0, c1, c2, c3])) : Ex c scL ρ (stL 18) (.next (upd ρ "size" (.int (1 + c3.fmod 9)))) :=
  Ex.asg W.KG (Ev.bin W.KG .intC (Ev.bin W.KG (cell_at (l := [c0, c1, c2, c3]) W.KG (.name h) (by decide) (by decide) (Nat.le_of_ble_eq_true rfl)) .intC (BinOk.mod (by decide))) BinOk.add) (ok1 rfl)
end
end Mine
end
section
set_option maxRecDepth 100000
namespace Mine
open PySem PySem.Spec PySem.Calls PyProof.Rows PySem.W
def runsI (row : List Int) : List Int := (List.range 9).flatMap fun (l : Nat) => (List.range l).flatMap fun (e : Nat) => [row.getD l 0 - row.getD e 0]
theorem runs_length (row : List Int) : (runsI row).length = 36 := by
  unfold runsI
  simp only [List.length_flatMap, List.length_singleton]
  decide +kernel
theorem runs_map (row : List Int) : lD (runsI row) = .list ((List.range 9).flatMap fun (l : Nat) => (List.range l).flatMap fun (e : Nat) => [D.int (row.getD l 0 - row.getD e 0)]) := by
  unfold lD runsI
  simp only [List.map_flatMap, List.map_cons, List.map_nil]
theorem runs_len2 (row : List Int) : ((List.range 9).flatMap fun (l : Nat) => (List.range l).flatMap fun (e : Nat) => [D.int (row.getD l 0 - row.getD e 0)]).length ≤ 1000 := by
  have := runs_length row
  rw [← D.list.inj (runs_map row), List.length_map]
  omega
section
variable {c : Cx} {sc : Scope} {ρ ρ' : Str → Option D} {c0 c1 c2 c3 : Int}
theorem ex_leads (W : Wld c) {n : Nat} (hl : LimN (n + 3) c) {r0 r1 : List Int} {b : Int} (h : ρ "rows" = some (.list [lD r0, lD r1])) (hb : ρ "behind" = some (.int b)) (b0 : 0 ≤ b ∧ b ≤ 10) (l0 : r0.length = 9) (l1 : r1.length = 9) (h0 : ∀ x ∈ runsI r0, 0 ≤ x ∧ x ≤ 17) (h1 : ∀ x ∈ runsI r1, 0 ≤ x ∧ x ≤ 17) :
    Ex c scL ρ (stL 19) (.next (updAll ρ ["one", "two"] [.ws (counts (runsI r0)) b 36, .ws (counts (runsI r1)) b 36])) := by
  have KG := W.KG
  refine Ex.asgL KG hl.lim (xs := [("one", _), ("two", _)]) (ds := [r0, r1].map fun r => .ws (counts (runsI r)) b 36) ?_ (okA rfl) rfl
  refine Ev.compMap KG hl.lim (okT := anyT) [r0, r1] lD (fun r => .ws (counts (runsI r)) b 36) (compSt_of (by decide +kernel)) (EvIt.list KG hl.lim (.name h)) (.inl ⟨_, _, rfl⟩) (fun r hr => ⟨_, Asg.name (ok1 rfl), sub_upd rfl, ?_⟩) (Nat.le_of_ble_eq_true rfl)
  have S := fun {scope : Scope} (a : inner scope ρ "row" = none) => sub_upd (ρ := inner scope ρ) (x := "row") (d := lD r) a
  have hr' : r.length = 9 ∧ ∀ x ∈ runsI r, 0 ≤ x ∧ x ≤ 17 := by
    simp only [List.mem_cons, List.not_mem_nil, or_false] at hr
    rcases hr with rfl | rfl
    · exact ⟨l0, h0⟩
    · exact ⟨l1, h1⟩
  have hcl := call_lead W hl (runs := runsI r) (behind := b) hr'.2 (by rw [runs_length]; decide) b0
  rw [runs_length] at hcl
  refine Ev.callF KG W.KI rfl hcl (.cons KG ?_ (.cons KG (.name (S rfl _ _ (inner_free rfl hb))) .nil))
  show Ev _ _ _ _ (lD (runsI r))
  rw [runs_map]
  refine Ev.compFlat KG hl.lim (okT := nameT) (List.range 9) (fun (l : Nat) => D.int l) _ (compSt_of (by decide +kernel)) (EvIt.range1 KG W.KI hl.lim W.range rfl .intC (by decide) (by decide)) ⟨_, _, rfl⟩ (fun late hlate => ⟨_, Asg.name (ok1 rfl), sub_upd rfl, ?_⟩) (runs_len2 r)
  have hlt : late < 9 := List.mem_range.mp hlate
  refine EvC.map (okT := nameT) (List.range late) (fun (e : Nat) => D.int e) _ ⟨_, _, rfl⟩ (EvIt.range1 (b := (late : Int)) KG W.KI hl.lim W.range rfl (.name rfl) (by omega) (by omega)) (fun early hearly => ⟨_, Asg.name (ok1 rfl), sub_upd rfl, EvC.last ?_⟩)
  have hlt2 : early < late := List.mem_range.mp hearly
  refine Ev.bin KG (item_at (l := r) (k := (late : Int)) KG (.name rfl) (.name rfl) (by omega) (by omega) (by rw [hr'.1]; omega)) (item_at (l := r) (k := (early : Int)) KG (.name rfl) (.name rfl) (by omega) (by omega) (by rw [hr'.1]; omega)) BinOk.sub
theorem ex_check20 (W : Wld c) {n : Nat} (hl : LimN (n + 1) c) {cs cs' due : List Int} {b nt nt' : Int} (h1 : ρ "one" = some (.ws cs b nt)) (h2 : ρ "two" = some (.ws cs' b nt')) (hd : ρ "due" = some (lD due)) (hb : ρ "behind" = some (.int b)) (lz : due.length ≤ 100) (e1 : cs = due) (e2 : cs = cs') : Ex c scL ρ (stL 20) (.next ρ) := by
  have KG := W.KG
  subst e1
  subst e2
  have t1 : CmpOk c .NotEq (normD cs b) (normD cs b) (.bool false) := CmpOk.neSame hl.lim (cmpd_norm cs b)
  have t2 : CmpOk c .IsNot (.bool (PyData.eqv (normD cs b).py (normD cs b).py)) (.bool true) (.bool false) := by
    rw [eqvD]; exact CmpOk.isNotB
  refine Ex.skip KG (EvT.or2 KG (x := false) (y := false) (EvT.cmp KG (Ev.norm W h1) (Ev.tuple (ds := [.tup (cs.map .int), .int b]) KG (.cons KG (Ev.callF KG W.KI rfl (CallOk.tupleL W.tuple (szl _ (by rw [List.length_map]; omega))) (.cons KG (.name hd) .nil)) (.cons KG (.name hb) .nil)) (szl _ (Nat.le_of_ble_eq_true rfl))) t1) (EvT.cmp KG (Ev.equal W hl h1 (.name h2)) .boolC t2))
def levelI (due : List Int) (t : Int) : Int := (due.zipIdx.map fun p => ((p.2 : Int).fdiv t + 1) * p.1).sum
theorem ex_check21 (W : Wld c) {n : Nat} (hl : LimN (n + 1) c) {cs due : List Int} {b nt t : Int} (h1 : ρ "one" = some (.ws cs b nt)) (hd : ρ "due" = some (lD due)) (hb : ρ "behind" = some (.int b)) (hs : ρ "size" = some (.int t)) (lz : due.length ≤ 100) (lc : cs.length ≤ 100) (ht : 0 < t) (ht2 : t < 100)
    (hE : b + t * (lvl cs t (cs.length - t).toNat + nt) = b + t * levelI due t) : Ex c scL ρ (stL 21) (.next ρ) := by
  have KG := W.KG
  refine Ex.skip KG (EvT.cmp KG (da := .int (b + t * levelI due t)) (db := .int (b + t * levelI due t)) (hE ▸ ?_) (Ev.bin KG (.name hb) (Ev.bin KG (.name hs) (Ev.callF KG W.KI rfl (CallOk.sum hl.lim W.sum) (.cons KG ?_ .nil)) (BinOk.mul (mul_l (by omega)))) BinOk.add) (CmpOk.neSame hl.lim ((CmpN.int 0 _).cmpd (by decide))))
  · exact Ev.methI W h1 (.cons KG (.name hs) .nil) W.ws.ilF W.ws.ilT W.ws.ilK (fun es _ h => h) (meth_level W hl ht (by omega) (by omega))
  · rw [List.map_map]
    refine Ev.compMap KG hl.lim (okT := tupT) due.zipIdx (fun p => .tup [.int (p.2 : Nat), .int p.1]) (fun p => .int (((p.2 : Int).fdiv t + 1) * p.1)) (compSt_of (by decide +kernel)) ?_ ⟨_, _, _, rfl⟩ (fun p hp => ⟨_, Asg.tup (xs := [("distance", _), ("often", _)]) (okA rfl) rfl, sub_upd2 rfl rfl, ?_⟩) (by rw [List.length_zipIdx]; omega)
    · rw [← enumD_ints due D.int]
      exact EvIt.enum KG W.KI hl.lim W.enum rfl (.name hd)
    · have hx : p.2 < 100 := by
        obtain ⟨a, i⟩ := p
        have := List.snd_lt_of_mem_zipIdx hp
        simp at this
        show i < 100
        omega
      have hq : 0 ≤ (p.2 : Int).fdiv t ∧ (p.2 : Int).fdiv t < 100 := by
        rw [Int.fdiv_eq_ediv_of_nonneg _ (by omega)]
        refine ⟨Int.ediv_nonneg (by omega) (by omega), Int.lt_of_le_of_lt (Int.ediv_le_self _ (by omega)) (by omega)⟩
      have S := fun {scope : Scope} (a : inner scope ρ "distance" = none) (b : upd (inner scope ρ) "distance" (.int (p.2 : Nat)) "often" = none) => sub_upd2 (ρ := inner scope ρ) (x := "distance") (y := "often") (d := .int (p.2 : Nat)) (e := .int p.1) a b
      exact Ev.bin KG (Ev.bin KG (Ev.bin KG (.name rfl) (.name (S rfl rfl _ _ (inner_free rfl hs))) (BinOk.fdivS (by omega) (by omega))) .intC BinOk.add) (.name rfl) (BinOk.mul (mul_l (by omega)))
end
end Mine
end
section
set_option maxRecDepth 100000
namespace Mine
open PySem PySem.Spec PySem.Calls PyProof.Rows PySem.W
def movedI (r0 : List Int) (c2 c3 : Int) : List Int := r0.zipIdx.map fun p => if ((p.2 : Int) == c2.fmod 9) = true then (if p.1 - 1 > 0 then p.1 - 1 else 0) else if ((p.2 : Int) == c3.fmod 9) = true then p.1 + 1 else p.1
def turnedI (r1 : List Int) : List Int := r1.map fun m => r1.getD 8 0 - m
section
variable {c : Cx} {sc : Scope} {ρ ρ' : Str → Option D} {c0 c1 c2 c3 : Int}
theorem ex_shape (W : Wld c) {n : Nat} (hl : LimN (n + 3) c) {r0 r1 : List Int} (h : ρ "rows" = some (.list [lD r0, lD r1])) (l0 : r0.length = 9) (h0 : ∀ x ∈ r0, 0 ≤ x ∧ x ≤ 17) : Ex c scL ρ (stL 22) (.next (upd ρ "shape" (.ws (counts r0) 0 9))) := by
  have KG := W.KG
  have hcl := call_lead W hl (runs := r0) (behind := 0) h0 (by omega) (by decide)
  rw [l0] at hcl
  exact Ex.asg KG (Ev.callF KG W.KI rfl hcl (.cons KG (row_at KG (.name h)) (.cons KG .intC .nil))) (ok1 rfl)
theorem ex_moved (W : Wld c) {n : Nat} (hl : LimN n c) {r0 r1 : List Int} (h : ρ "rows" = some (.list [lD r0, lD r1])) (hc : ρ "cells" = some (lD [c0, c1, c2, c3])) (l0 : r0.length = 9) : Ex c scL ρ (stL 23) (.next (upd ρ "moved" (lD (movedI r0 c2 c3)))) := by
  have KG := W.KG
  have e : lD (movedI r0 c2 c3) = .list (r0.zipIdx.map fun p => D.int (if ((p.2 : Int) == c2.fmod 9) = true then (if p.1 - 1 > 0 then p.1 - 1 else 0) else if ((p.2 : Int) == c3.fmod 9) = true then p.1 + 1 else p.1)) := by
    unfold lD movedI; rw [List.map_map]; rfl
  rw [e]
  refine Ex.asgMap KG hl.lim (okT := tupT) r0.zipIdx (fun p => .tup [.int (p.2 : Nat), .int p.1]) (fun p => D.int (if ((p.2 : Int) == c2.fmod 9) = true then (if p.1 - 1 > 0 then p.1 - 1 else 0) else if ((p.2 : Int) == c3.fmod 9) = true then p.1 + 1 else p.1)) (compSt_of (by decide +kernel)) ?_ ⟨_, _, _, rfl⟩ (fun p hp => ⟨_, Asg.tup (xs := [("place", _), ("mark", _)]) (okA rfl) rfl, sub_upd2 rfl rfl, ?_⟩) (by rw [List.length_zipIdx]; omega) rfl rfl (swT rfl rfl)
  · rw [← enumD_ints r0 D.int]
    exact EvIt.enum KG W.KI hl.lim W.enum rfl (row_at KG (.name h))
  · have S := fun {scope : Scope} (a : inner scope ρ "place" = none) (b : upd (inner scope ρ) "place" (.int (p.2 : Nat)) "mark" = none) => sub_upd2 (ρ := inner scope ρ) (x := "place") (y := "mark") (d := .int (p.2 : Nat)) (e := .int p.1) a b
    exact Ev.iteI KG (EvT.cmp KG (.name rfl) (Ev.bin KG (cell_at (l := [c0, c1, c2, c3]) KG (.name (S rfl rfl _ _ (inner_free rfl hc))) (by decide) (by decide) (Nat.le_of_ble_eq_true rfl)) .intC (BinOk.mod (by decide))) CmpOk.eqI) (Ev.callF KG W.KI rfl (CallOk.max hl.lim W.max) (.cons KG .intC (.cons KG (Ev.bin KG (.name rfl) .intC BinOk.sub) .nil)))
      (Ev.iteI KG (EvT.cmp KG (.name rfl) (Ev.bin KG (cell_at (l := [c0, c1, c2, c3]) KG (.name (S rfl rfl _ _ (inner_free rfl hc))) (by decide) (by decide) (Nat.le_of_ble_eq_true rfl)) .intC (BinOk.mod (by decide))) CmpOk.eqI) (Ev.bin KG (.name rfl) .intC BinOk.add) (.name rfl))
/-- shape.equal of a lead -/
theorem ev_shape (W : Wld c) {n : Nat} (hl : LimN (n + 3) c) {cs : List Int} {nt : Int} {runs : List Int} {b : Int} {e eb : Expr} {np apos lp p1 p2 : Pos} (h : ρ "shape" = some (.ws cs 0 nt)) (he : Ev c sc ρ e (lD runs)) (heb : Ev c sc ρ eb (.int b)) (hk : sc.names.lookup ("_law_lead" : Str) = some .globalImplicit) (lr : runs.length ≤ 40) (hr : ∀ x ∈ runs, 0 ≤ x ∧ x ≤ 17) (hb : 0 ≤ b ∧ b ≤ 10)
    (hst : ∀ env, starEach [.Call (.Name "_law_lead" lp) [e, eb] [] p1] env = (false, eval (.Call (.Name "_law_lead" lp) [e, eb] [] p1) env) :: starEach [] env := by intro _; rfl)
    (hst1 : ∀ env, starEach [e, eb] env = (false, eval e env) :: starEach [eb] env := by intro _; rfl) (hst2 : ∀ env, starEach [eb] env = (false, eval eb env) :: starEach [] env := by intro _; rfl) (hpl : ∀ env, (backTo p1 (starEach [eb] env)).any (·.1) = false := by intro _; rfl)
    (hm : ∀ env, eval (.Call (.Attribute (.Name "shape" np) "equal" apos) [.Call (.Name "_law_lead" lp) [e, eb] [] p1] [] p2) env = (do
      let ov ← eval (.Name "shape" np) env
      standAt apos.atName
      let (f, first) ← holding [ov] (getMethod ov "equal" (do return (← importBound (.Name "shape" np) env).getD true))
      callWith p2 f first (backTo p2 (starEach [.Call (.Name "_law_lead" lp) [e, eb] [] p1] env)) (backToKw p2 (keywordEach [] env))) := by intro _; rfl) :
    Ev c sc ρ (.Call (.Attribute (.Name "shape" np) "equal" apos) [.Call (.Name "_law_lead" lp) [e, eb] [] p1] [] p2) (.bool (decide (cs = counts runs) && decide (0 = b))) := by
  rw [← eqv_norm]
  exact Ev.equal W (hl.less (by omega) : LimN (n + 1) c) h (Ev.callF W.KG W.KI hk (call_lead W hl hr lr hb) (.cons W.KG he (.cons W.KG heb .nil hst2) hst1) hst1 hpl) hst hm
theorem ex_alike (W : Wld c) {n : Nat} (hl : LimN (n + 3) c) {cs r0 r1 : List Int} {nt : Int} (h : ρ "shape" = some (.ws cs 0 nt)) (hr : ρ "rows" = some (.list [lD r0, lD r1])) (l1 : r1.length = 9) (b1 : ∀ x ∈ r1, 0 ≤ x ∧ x ≤ 17) (b2 : ∀ x ∈ turnedI r1, 0 ≤ x ∧ x ≤ 17) :
    Ex c scL ρ (stL 25) (.next (upd ρ "alike" (.bool ((decide (cs = counts r1) && decide ((0 : Int) = 0)) || (decide (cs = counts (turnedI r1)) && decide ((0 : Int) = 0)))))) := by
  have KG := W.KG
  have lt : (turnedI r1).length ≤ 40 := by unfold turnedI; rw [List.length_map]; omega
  refine Ex.asg KG (Ev.or2 KG (ev_shape W hl h (row_at1 KG (.name hr)) .intC rfl (by omega) b1 (by decide)) (ev_shape W hl h (runs := turnedI r1) ?_ .intC rfl lt b2 (by decide))) (ok1 rfl)
  have e : lD (turnedI r1) = .list (r1.map fun m => D.int (r1.getD 8 0 - m)) := by unfold lD turnedI; rw [List.map_map]; rfl
  rw [e]
  refine Ev.compMap KG hl.lim (okT := anyT) r1 .int (fun m => D.int (r1.getD 8 0 - m)) (compSt_of (by decide +kernel)) (EvIt.list KG hl.lim (row_at1 KG (.name hr))) (.inl ⟨_, _, rfl⟩) (fun m hm => ⟨_, Asg.name (ok1 rfl), sub_upd rfl, ?_⟩) (by omega)
  have S := fun {scope : Scope} (a : inner scope ρ "mark" = none) => sub_upd (ρ := inner scope ρ) (x := "mark") (d := .int m) a
  have hr' := fun {scope : Scope} (a : scope.names.lookup ("rows" : Str) = some NameKind.free) (b : inner scope ρ "mark" = none) => S b _ _ (inner_free a hr)
  have hg : (r1.map D.int)[(-1 + ((r1.map D.int).length : Int)).toNat]? = some (.int (r1.getD 8 0)) := by
    rw [List.length_map, l1]
    exact get_ints (by omega)
  exact Ev.bin KG (Ev.itemLneg KG (ds := r1.map .int) (k := -1) (row_at1 KG (.name (hr' rfl rfl))) (Ev.neg .intC) (by decide) (by rw [List.length_map]; omega) (by decide) hg) (.name rfl) BinOk.sub
theorem ex_ret (W : Wld c) {n : Nat} (hl : LimN n c) {a b u v : Int} {x : Bool} (h : ρ "pairs" = some (.list [pD a b, pD u v])) (ha : ρ "alike" = some (.bool x)) (hE : x = ((a == b) || (u == v))) : Ex c scL ρ (stL 26) (.ret (.bool true)) := by
  have KG := W.KG
  have p0 : ∀ {p1 p2 p3 : Pos} {k1 : Nat}, Ev c scL ρ (.Subscript (.Name "pairs" p1) (.Constant (.int 0) k1 p2) p3) (.tup [.int a, .int b]) := fun {_ _ _ _} => Ev.itemL KG (ds := [pD a b, pD u v]) (.name h) .intC (by decide) (by decide) rfl
  have p1 : ∀ {p1 p2 p3 : Pos} {k1 : Nat}, Ev c scL ρ (.Subscript (.Name "pairs" p1) (.Constant (.int 1) k1 p2) p3) (.tup [.int u, .int v]) := fun {_ _ _ _} => Ev.itemL KG (ds := [pD a b, pD u v]) (.name h) .intC (by decide) (by decide) rfl
  have t : CmpOk c .Is (.bool x) (.bool ((a == b) || (u == v))) (.bool true) := by
    have := CmpOk.isB (c := c) (a := x) (b := (a == b) || (u == v))
    rw [hE] at this ⊢
    rw [beq_self_eq_true] at this
    exact this
  refine Ex.ret (Ev.cmp KG (.name ha) (Ev.or2 KG (Ev.cmp KG (Ev.itemT KG p0 .intC (by decide) (by decide) rfl) (Ev.itemT KG p0 .intC (by decide) (by decide) rfl) CmpOk.eqI) (Ev.cmp KG (Ev.itemT KG p1 .intC (by decide) (by decide) rfl) (Ev.itemT KG p1 .intC (by decide) (by decide) rfl) CmpOk.eqI)) t)
end
end Mine
end
section
set_option maxRecDepth 100000
namespace Mine
open PySem PySem.Spec PySem.Calls PyProof.Rows PySem.W
noncomputable def ins (x : Int) : List Int → List Int
  | [] => [x]
  | y :: r => if x ≤ y then x :: y :: r else y :: ins x r
noncomputable def isort : List Int → List Int
  | [] => []
  | x :: r => ins x (isort r)
theorem ins_perm (x : Int) : ∀ l : List Int, (ins x l).Perm (x :: l)
  | [] => .refl _
  | y :: r => by
    rw [ins]
    split
    · exact .refl _
    · exact ((ins_perm x r).cons y).trans (.swap x y r)
theorem isort_perm : ∀ l : List Int, (isort l).Perm l
  | [] => .refl _
  | x :: r => (ins_perm x _).trans ((isort_perm r).cons x)
theorem ins_sorted (x : Int) : ∀ {l : List Int}, l.Pairwise (· ≤ ·) → (ins x l).Pairwise (· ≤ ·)
  | [], _ => by simp [ins]
  | y :: r, h => by
    rw [ins]
    obtain ⟨h1, h2⟩ := List.pairwise_cons.mp h
    split
    · rename_i hxy
      exact .cons (fun z hz => by
        rcases List.mem_cons.mp hz with rfl | hz
        · exact hxy
        · exact Int.le_trans hxy (h1 z hz)) h
    · rename_i hxy
      refine .cons (fun z hz => ?_) (ins_sorted x h2)
      rcases List.mem_cons.mp ((ins_perm x r).mem_iff.mp hz) with rfl | hz
      · omega
      · exact h1 z hz
theorem isort_sorted : ∀ l : List Int, (isort l).Pairwise (· ≤ ·)
  | [] => .nil
  | x :: r => ins_sorted x (isort_sorted r)
theorem isort_eq {a b : List Int} (h : a.Perm b) (hs : a.Pairwise (· ≤ ·)) : a = isort b := lks_uniq (h.trans (isort_perm b).symm) hs (isort_sorted b)
section
variable {c : Cx} {sc : Scope} {ρ ρ' : Str → Option D} {c0 c1 c2 c3 : Int}
theorem CallOk.sortedI (g : GlobIs c "sorted" (.builtin "sorted")) {ns : List Int} (hz : ns.length < 64) : CallOk c "sorted" [lD ns] (lD (isort ns)) :=
  ⟨_, g, .b _, fun X s vs hG xo r => by
    obtain ⟨v, us, rfl, r1, r2⟩ := r.consInv
    rw [r2.nilInv]
    obtain ⟨a, xs, n, rfl, hx, e1, ra⟩ := r1.listInv
    have hI := ra.ints
    have hlen : xs.toList.length < 64 := by have := ra.1; rw [List.length_map] at this; omega
    refine sorted_ints (l := a) (vs := xs.toList) ⟨_, e1, rfl, n, by simp⟩ hI hlen fun out ns' hI' hp hs => ?_
    refine ⟨.every (tk := s.toks) (fun b o q => sortedAll_old q), ?_⟩
    obtain ⟨e, he⟩ := sortedAll_at s.heap xs.toList out
    rw [isort_eq hp hs] at hI'
    have hnx : ¬ X (s.heap.objs.size + 1) := fun q => by
      obtain ⟨o, ho⟩ := xo.al _ q
      exact absurd (Heap.lt_size ho) (by show ¬ @LT.lt Nat _ _ _; omega)
    exact RdAll.list (vs := out.toList) (n := e) hnx (by simpa using he) (RdAll.ofInts hI')⟩
theorem cmpN_bb (a b : Bool) : CmpN 1 (.list [.bool a, .bool b]) := CmpN.list fun d hd => by
  simp only [List.mem_cons, List.not_mem_nil, or_false] at hd
  rcases hd with rfl | rfl <;> exact CmpN.bool _ _
theorem ex_check24 (W : Wld c) {n : Nat} (hl : LimN (n + 3) c) {r0 r1 mv : List Int} {b nt : Int} (h : ρ "shape" = some (.ws (counts r0) 0 nt)) (hr : ρ "rows" = some (.list [lD r0, lD r1])) (hm : ρ "moved" = some (lD mv)) (hb : ρ "behind" = some (.int b)) (l0 : r0.length = 9) (lm : mv.length = 9) (h0 : ∀ x ∈ r0, 0 ≤ x ∧ x ≤ 17) (h1 : ∀ x ∈ mv, 0 ≤ x ∧ x ≤ 17) (b0 : 0 ≤ b ∧ b ≤ 10)
    (hE : decide (counts r0 = counts mv) = decide (isort mv = r0)) : Ex c scL ρ (stL 24) (.next ρ) := by
  have KG := W.KG
  have e1 : (decide (counts r0 = counts mv) && decide ((0 : Int) = 0)) = decide (isort mv = r0) := by rw [hE]; simp
  have e2 : (decide (counts r0 = counts r0) && decide ((0 : Int) = b)) = (b == 0) := by
    by_cases q : b = 0
    · subst q; simp
    · have q' : ¬ (0 : Int) = b := fun z => q z.symm
      have q2 : (b == 0) = false := beq_eq_false_iff_ne.mpr q
      simp [q', q2]
  refine Ex.skip KG (EvT.cmp KG (da := .list [.bool (decide (isort mv = r0)), .bool (b == 0)]) (db := .list [.bool (decide (isort mv = r0)), .bool (b == 0)]) (Ev.list KG (.cons KG (e1 ▸ ?_) (.cons KG (e2 ▸ ?_) .nil)) (szl _ (Nat.le_of_ble_eq_true rfl))) (Ev.list KG (.cons KG ?_ (.cons KG (Ev.cmp KG (.name hb) .intC CmpOk.eqI) .nil)) (szl _ (Nat.le_of_ble_eq_true rfl))) (CmpOk.neSame hl.lim ((cmpN_bb _ _).cmpd (by decide))))
  · exact ev_shape W hl h (.name hm) .intC rfl (by omega) h1 (by decide)
  · exact ev_shape W hl h (row_at KG (.name hr)) (.name hb) rfl (by omega) h0 b0
  · have t : CmpOk c .Eq (lD (isort mv)) (lD r0) (.bool (decide (isort mv = r0))) := by
      rw [← eqv_list]
      exact CmpOk.eqD hl.lim ((cmpN_l 0 _).cmpd (by decide)) ((cmpN_l 0 _).cmpd (by decide))
    exact Ev.cmp KG (Ev.callF KG W.KI rfl (CallOk.sortedI W.sorted (by omega)) (.cons KG (.name hm) .nil)) (row_at KG (.name hr)) t
end
end Mine
end
namespace Mine
open PySem PySem.W PyProof.Rows
/-- an order of the items, places told by numbers -/
structure Ar (n : Nat) (p : Array Nat) : Prop where
  perm : p.Perm (List.toArray (List.range n))
theorem Ar.size {n : Nat} {p : Array Nat} (h : Ar n p) : p.size = n := by rw [h.perm.size_eq]; simp
theorem Ar.lt {n : Nat} {p : Array Nat} (h : Ar n p) {i : Nat} (hi : i < n) : p.getD i 0 < n := by
  have hz := h.size
  have hi' : i < p.size := by omega
  have e : p.getD i 0 = p[i] := by simp [Array.getD, hi']
  have hm : p[i] ∈ p := Array.getElem_mem hi'
  have := h.perm.mem_iff.mp hm
  rw [e]
  simpa using this
theorem Ar.nodup {n : Nat} {p : Array Nat} (h : Ar n p) : p.toList.Nodup := by
  have h1 : p.toList.Perm (List.range n) := by simpa using h.perm.toList
  exact h1.nodup_iff.mpr List.nodup_range
theorem Ar.ne {n : Nat} {p : Array Nat} (h : Ar n p) {i j : Nat} (hi : i < n) (hj : j < n) (hij : i ≠ j) : p.getD i 0 ≠ p.getD j 0 := by
  have hz := h.size
  have hi' : i < p.toList.length := by rw [Array.length_toList]; omega
  have hj' : j < p.toList.length := by rw [Array.length_toList]; omega
  have e1 : p.getD i 0 = p.toList[i] := by rw [Array.getElem_toList]; simp [Array.getD, show i < p.size by omega]
  have e2 : p.getD j 0 = p.toList[j] := by rw [Array.getElem_toList]; simp [Array.getD, show j < p.size by omega]
  rw [e1, e2]
  rcases Nat.lt_or_gt_of_ne hij with q | q
  · exact List.pairwise_iff_getElem.mp h.nodup i j hi' hj' q
  · exact fun z => List.pairwise_iff_getElem.mp h.nodup j i hj' hi' q z.symm
def Up (key : Nat → Int) (p : Array Nat) (k : Nat) : Prop := ∀ i j, i < j → j < k → key (p.getD i 0) < key (p.getD j 0)
def Dn (key : Nat → Int) (p : Array Nat) (k : Nat) : Prop := ∀ i j, i < j → j < k → key (p.getD j 0) < key (p.getD i 0)
section
variable {n : Nat} {key : Nat → Int} {cmp : Nat → Nat → (Bool → Shared → Prop) → Shared → Prop} {s : Shared}
/-- the comparing tells the keys' order, and turns nothing -/
structure Tells (n : Nat) (key : Nat → Int) (cmp : Nat → Nat → (Bool → Shared → Prop) → Shared → Prop) (s : Shared) : Prop where
  ask : ∀ i j (C : Bool → Shared → Prop), i < n → j < n → C (decide (key i < key j)) s → cmp i j C s
  inj : ∀ i j, i < n → j < n → i ≠ j → key i ≠ key j
theorem up_snoc {p : Array Nat} {k : Nat} (h : Up key p k) (hk : 1 ≤ k) (hl : key (p.getD (k - 1) 0) < key (p.getD k 0)) : Up key p (k + 1) := fun i j hij hj => by
  by_cases hjk : j = k
  · subst hjk
    by_cases hi : i = j - 1
    · subst hi; exact hl
    · exact Int.lt_trans (h i (j - 1) (by omega) (by omega)) hl
  · exact h i j hij (by omega)
theorem dn_snoc {p : Array Nat} {k : Nat} (h : Dn key p k) (hk : 1 ≤ k) (hl : key (p.getD k 0) < key (p.getD (k - 1) 0)) : Dn key p (k + 1) := fun i j hij hj => by
  by_cases hjk : j = k
  · subst hjk
    by_cases hi : i = j - 1
    · subst hi; exact hl
    · exact Int.lt_trans hl (h i (j - 1) (by omega) (by omega))
  · exact h i j hij (by omega)
theorem asc_ok (T : Tells n key cmp s) {p : Array Nat} (ha : Ar n p) : ∀ (f k : Nat) {Q : Nat → Shared → Prop}, 1 ≤ k → k + f ≤ n → Up key p k → (∀ m, k ≤ m → m ≤ k + f → Up key p m → (m < k + f → key (p.getD m 0) < key (p.getD (m - 1) 0)) → Q m s) → (kas_asc p f k).kasWp cmp Q s
  | 0, k, Q, hk, hf, hu, hQ => hQ k (Nat.le_refl _) (Nat.le_refl _) hu (fun h => absurd h (by omega))
  | f + 1, k, Q, hk, hf, hu, hQ => by
    refine T.ask _ _ _ (ha.lt (by omega)) (ha.lt (by omega)) ?_
    by_cases hlt : key (p.getD k 0) < key (p.getD (k - 1) 0)
    · rw [decide_eq_true hlt]
      show (if true = true then KasT.ret k else kas_asc p f (k + 1)).kasWp cmp Q s
      rw [if_pos rfl]
      exact hQ k (Nat.le_refl _) (by omega) hu fun _ => hlt
    · rw [decide_eq_false hlt]
      show (if false = true then KasT.ret k else kas_asc p f (k + 1)).kasWp cmp Q s
      rw [if_neg (by simp)]
      have hne := T.inj _ _ (ha.lt (i := k) (by omega)) (ha.lt (i := k - 1) (by omega)) (ha.ne (by omega) (by omega) (by omega))
      exact asc_ok T ha f (k + 1) (by omega) (by omega) (up_snoc hu hk (by omega)) fun m h1 h2 h3 h4 => hQ m (by omega) (by omega) h3 (fun q => h4 (by omega))
theorem desc_ok (T : Tells n key cmp s) {p : Array Nat} (ha : Ar n p) : ∀ (f k : Nat) {Q : Array Nat × Nat × Nat → Shared → Prop}, 1 ≤ k → k + f ≤ n → Dn key p k → (∀ m, k ≤ m → m ≤ k + f → Dn key p m → Q (p, m, 0) s) → (kas_desc f p k 0).kasWp cmp Q s
  | 0, k, Q, hk, hf, hu, hQ => hQ k (Nat.le_refl _) (Nat.le_refl _) hu
  | f + 1, k, Q, hk, hf, hu, hQ => by
    refine T.ask _ _ _ (ha.lt (by omega)) (ha.lt (by omega)) ?_
    by_cases hlt : key (p.getD k 0) < key (p.getD (k - 1) 0)
    · rw [decide_eq_true hlt]
      show (if true = true then (if 0 > 0 then kas_desc f (kas_rev p (k - (0 + 1)) k) (k + 1) 0 else kas_desc f p (k + 1) 0) else _).kasWp cmp Q s
      rw [if_pos rfl, if_neg (by omega)]
      exact desc_ok T ha f (k + 1) (by omega) (by omega) (dn_snoc hu hk hlt) fun m h1 h2 h3 => hQ m (by omega) (by omega) h3
    · rw [decide_eq_false hlt]
      show (if false = true then _ else KasT.ask (p.getD (k - 1) 0) (p.getD k 0) fun d => if d = true then KasT.ret (p, k, 0) else kas_desc f p (k + 1) (0 + 1)).kasWp cmp Q s
      rw [if_neg (by simp)]
      have hne := T.inj _ _ (ha.lt (i := k) (by omega)) (ha.lt (i := k - 1) (by omega)) (ha.ne (by omega) (by omega) (by omega))
      refine T.ask _ _ _ (ha.lt (by omega)) (ha.lt (by omega)) ?_
      rw [decide_eq_true (by omega)]
      show (if true = true then KasT.ret (p, k, 0) else _).kasWp cmp Q s
      rw [if_pos rfl]
      exact hQ k (Nat.le_refl _) (by omega) hu
theorem getD_some {p : Array Nat} {i : Nat} {v : Nat} (h : p[i]? = some v) : p.getD i 0 = v := by
  rw [Array.getD_eq_getD_getElem?, h]; rfl
theorem getD_congr {p q : Array Nat} {i j : Nat} (h : p[i]? = q[j]?) : p.getD i 0 = q.getD j 0 := by
  rw [Array.getD_eq_getD_getElem?, Array.getD_eq_getD_getElem?, h]
theorem rev_ar {p : Array Nat} (ha : Ar n p) (i j : Nat) : Ar n (kas_rev p i j) := ⟨(mirror_perm _ _ _ _).trans ha.perm⟩
theorem rev_up {p : Array Nat} (ha : Ar n p) {k : Nat} (hk : k ≤ n) (hd : Dn key p k) : Up key (kas_rev p 0 k) k := fun i j hij hj => by
  have hz := ha.size
  have e : ∀ i, i < k → (kas_rev p 0 k).getD i 0 = p.getD (k - 1 - i) 0 := fun i hi => getD_congr (by
    unfold kas_rev
    rw [getElem?_mirror_all (by omega), if_pos (by omega)]
    congr 1; omega)
  rw [e i (by omega), e j hj]
  exact hd _ _ (by omega) (by omega)
theorem tail3_ok (T : Tells n key cmp s) {p : Array Nat} (ha : Ar n p) {k : Nat} {Q : Nat × Array Nat → Shared → Prop} (hk : 1 ≤ k) (hn : k ≤ n) (hd : Dn key p k) (hQ : ∀ m p', 1 ≤ m → m ≤ n → Ar n p' → Up key p' m → Q (m, p') s) : (kas_tail3 k n p).kasWp cmp Q s := by
  unfold kas_tail3
  rw [KasT.kasWp_bind]
  exact asc_ok T (rev_ar ha 0 k) (n - k) k hk (by omega) (rev_up ha hn hd) fun m h1 h2 h3 _ => hQ m _ (by omega) (by omega) (rev_ar ha 0 k) h3
theorem count_ok (T : Tells n key cmp s) {p : Array Nat} (ha : Ar n p) {Q : Nat × Array Nat → Shared → Prop} (hn : 1 ≤ n) (hQ : ∀ m p', 1 ≤ m → m ≤ n → Ar n p' → Up key p' m → Q (m, p') s) : (kas_count n p).kasWp cmp Q s := by
  unfold kas_count
  rw [KasT.kasWp_bind]
  refine asc_ok T ha (n - 1) 1 (Nat.le_refl _) (by omega) (fun i j a b => absurd a (by omega)) fun m h1 h2 h3 h4 => ?_
  by_cases hmn : m = n
  · subst hmn
    rw [if_pos (beq_self_eq_true m)]
    exact hQ m p h1 (by omega) ha h3
  · rw [if_neg (by simpa using hmn)]
    by_cases hm1 : m > 1
    · rw [if_pos hm1]
      refine T.ask _ _ _ (ha.lt (by omega)) (ha.lt (by omega)) ?_
      rw [decide_eq_true (h3 0 (m - 1) (by omega) (by omega))]
      show (if true = true then KasT.ret (m, p) else _).kasWp cmp Q s
      rw [if_pos rfl]
      exact hQ m p h1 (by omega) ha h3
    · rw [if_neg hm1]
      have hm : m = 1 := by omega
      subst hm
      have hlt := h4 (by omega)
      unfold kas_descPart
      rw [KasT.kasWp_bind]
      refine desc_ok T ha (n - (1 + 1)) (1 + 1) (by omega) (by omega) (fun i j a b => ?_) fun k k1 k2 k3 => ?_
      · have : i = 0 := by omega
        have : j = 1 := by omega
        subst i; subst j; exact hlt
      · show (if (0 : Nat) > 0 then _ else kas_tail3 k n p).kasWp cmp Q s
        rw [if_neg (by omega)]
        exact tail3_ok T ha (by omega) (by omega) k3 hQ
theorem place_ok (T : Tells n key cmp s) {p : Array Nat} (ha : Ar n p) {k : Nat} (hk : k < n) : ∀ (f l r : Nat) {Q : Nat → Shared → Prop}, r - l ≤ f → l ≤ r → r ≤ k → (∀ i, i < l → key (p.getD i 0) < key (p.getD k 0)) → (∀ i, r ≤ i → i < k → key (p.getD k 0) < key (p.getD i 0)) →
    Up key p k → (∀ m, m ≤ k → (∀ i, i < m → key (p.getD i 0) < key (p.getD k 0)) → (∀ i, m ≤ i → i < k → key (p.getD k 0) < key (p.getD i 0)) → Q m s) → (kas_place p k f l r).kasWp cmp Q s
  | 0, l, r, Q, hf, hlr, hr, h1, h2, hu, hQ => hQ l (by omega) h1 (fun i a b => h2 i (by omega) b)
  | f + 1, l, r, Q, hf, hlr, hr, h1, h2, hu, hQ => by
    unfold kas_place
    by_cases hge : l ≥ r
    · rw [if_pos hge]
      exact hQ l (by omega) h1 (fun i a b => h2 i (by omega) b)
    · rw [if_neg hge]
      refine T.ask _ _ _ (ha.lt (by omega)) (ha.lt (by omega)) ?_
      have hne := T.inj _ _ (ha.lt (i := k) (by omega)) (ha.lt (i := (l + r) / 2) (by omega)) (ha.ne (by omega) (by omega) (by omega))
      have up' : ∀ i j, i ≤ j → j < k → key (p.getD i 0) ≤ key (p.getD j 0) := fun i j hij hj => by
        by_cases q : i = j
        · subst q; exact Int.le_refl _
        · exact Int.le_of_lt (hu i j (by omega) hj)
      by_cases hlt : key (p.getD k 0) < key (p.getD ((l + r) / 2) 0)
      · rw [decide_eq_true hlt]
        show (if true = true then kas_place p k f l ((l + r) / 2) else _).kasWp cmp Q s
        rw [if_pos rfl]
        exact place_ok T ha hk f l ((l + r) / 2) (by omega) (by omega) (by omega) h1 (fun i a b => Int.lt_of_lt_of_le hlt (up' _ _ a b)) hu hQ
      · rw [decide_eq_false hlt]
        show (if false = true then _ else kas_place p k f ((l + r) / 2 + 1) r).kasWp cmp Q s
        rw [if_neg (by simp)]
        refine place_ok T ha hk f ((l + r) / 2 + 1) r (by omega) (by omega) hr (fun i a => ?_) h2 hu hQ
        have := up' i ((l + r) / 2) (by omega) (by omega)
        omega
theorem bubble_up {p : Array Nat} (ha : Ar n p) {k m : Nat} (hk : k < n) (hm : m ≤ k) (hu : Up key p k) (h1 : ∀ i, i < m → key (p.getD i 0) < key (p.getD k 0)) (h2 : ∀ i, m ≤ i → i < k → key (p.getD k 0) < key (p.getD i 0)) : Up key (bubble p k (k - m)) (k + 1) := by
  have hz := ha.size
  have hb := fun i => getElem?_bubble (xs := p) (src := k) (by omega) (k - m) (by omega) i
  have e1 : ∀ i, i < m → (bubble p k (k - m)).getD i 0 = p.getD i 0 := fun i hi => getD_congr (by rw [hb, if_neg (by omega), if_neg (by omega)])
  have e2 : (bubble p k (k - m)).getD m 0 = p.getD k 0 := getD_congr (by rw [hb, if_pos (by omega)])
  have e3 : ∀ i, m < i → i ≤ k → (bubble p k (k - m)).getD i 0 = p.getD (i - 1) 0 := fun i a b => getD_congr (by rw [hb, if_neg (by omega), if_pos (by omega)])
  intro i j hij hj
  rcases Nat.lt_trichotomy i m with hi | hi | hi
  · rw [e1 i hi]
    rcases Nat.lt_trichotomy j m with hj' | hj' | hj'
    · rw [e1 j hj']; exact hu i j hij (by omega)
    · subst hj'; rw [e2]; exact h1 i hi
    · rw [e3 j hj' (by omega)]; exact hu i (j - 1) (by omega) (by omega)
  · subst hi
    rw [e2, e3 j hij (by omega)]
    exact h2 _ (by omega) (by omega)
  · rw [e3 i hi (by omega), e3 j (by omega) (by omega)]
    exact hu _ _ (by omega) (by omega)
theorem bin_ok (T : Tells n key cmp s) : ∀ (f k : Nat) {p : Array Nat} (ha : Ar n p) {Q : Array Nat → Shared → Prop}, k + f = n → Up key p k → (∀ p', Ar n p' → Up key p' n → Q p' s) → (kas_bin f p k).kasWp cmp Q s
  | 0, k, p, ha, Q, hf, hu, hQ => hQ p ha (by have : k = n := by omega
                                              subst this; exact hu)
  | f + 1, k, p, ha, Q, hf, hu, hQ => by
    show ((kas_place p k k 0 k).bind fun l => kas_bin f (bubble p k (k - l)) (k + 1)).kasWp cmp Q s
    rw [KasT.kasWp_bind]
    refine place_ok T ha (by omega) k 0 k (by omega) (by omega) (Nat.le_refl _) (fun i a => absurd a (by omega)) (fun i a b => absurd a (by omega)) hu fun m m1 m2 m3 => ?_
    exact bin_ok T f (k + 1) ⟨(bubble_perm _ _ _).trans ha.perm⟩ (by omega) (bubble_up ha (by omega) m1 hu m2 m3) hQ
theorem sort_ok (T : Tells n key cmp s) {Q : Array Nat → Shared → Prop} (hn : 1 ≤ n) (hQ : ∀ p', Ar n p' → Up key p' n → Q p' s) : (kas_sort n).kasWp cmp Q s := by
  unfold kas_sort
  rw [KasT.kasWp_bind]
  refine count_ok T ⟨Array.Perm.refl _⟩ hn fun m p' h1 h2 h3 h4 => ?_
  by_cases hm : m < n
  · show (if m < n then kas_bin (n - max m 1) p' (max m 1) else .ret p').kasWp cmp Q s
    rw [if_pos hm]
    have : max m 1 = m := by omega
    rw [this]
    exact bin_ok T (n - m) m h3 (by omega) h4 hQ
  · show (if m < n then kas_bin (n - max m 1) p' (max m 1) else .ret p').kasWp cmp Q s
    rw [if_neg hm]
    have : m = n := by omega
    subst this
    exact hQ p' h3 h4
end
end Mine
namespace Mine
open PySem PySem.Spec PySem.Calls PyProof.Rows PySem.W
def keyP (p : Int × Int) : Int := 9 * p.1 + p.2
theorem pair_at {X : Addr → Prop} {h : Heap} {vs : List Value} {kp : List (Int × Int)} (r : RdAll X h vs (kp.map prD)) {i : Nat} (hi : i < kp.length) :
    ∃ a o xs n t u, vs.getD i Value.none = .ref a ∧ h.get? a = some o ∧ o.cls = .type "tuple" ∧ o.data = .seq xs n ∧ xs.toList = [.int (kp.getD i (0, 0)).1 t, .int (kp.getD i (0, 0)).2 u] := by
  have e : (kp.map prD)[i]? = some (prD (kp.getD i (0, 0))) := by
    rw [List.getElem?_map, List.getElem?_eq_getElem hi]
    simp [List.getD, List.getElem?_eq_getElem hi]
  obtain ⟨v, hv, rv⟩ := r.get e
  obtain ⟨a, o, xs, n, rfl, _, e1, e2, e3, ra⟩ := rv.tupInv
  obtain ⟨w1, us, q1, r1, r2⟩ := ra.consInv
  obtain ⟨w2, us', q2, r3, r4⟩ := r2.consInv
  obtain ⟨t, rfl⟩ := r1.intInv
  obtain ⟨u, rfl⟩ := r3.intInv
  refine ⟨a, o, xs, n, t, u, ?_, e1, e2, e3, by rw [q1, q2, r4.nilInv]⟩
  rw [List.getD, hv]; rfl
section
variable {prog : Program} {w : World} {A : Around} {E : Value → Shared → Prop} {s : Shared} {X : Addr → Prop} {vs : List Value} {kp : List (Int × Int)}
theorem tells_pairs (r : RdAll X s.heap vs (kp.map prD)) (hwin : ∀ i j, i < kp.length → j < kp.length → (kp.getD i (0, 0)).2 - (kp.getD j (0, 0)).2 ≤ 8) (hdis : ∀ i j, i < kp.length → j < kp.length → i ≠ j → (kp.getD i (0, 0)).2 ≠ (kp.getD j (0, 0)).2) :
    Tells kp.length (fun i => keyP (kp.getD i (0, 0))) (kas_ask prog w A (tuples' true) vs) s := by
  refine ⟨fun i j C hi hj hC => ?_, fun i j hi hj hij => ?_⟩
  · obtain ⟨a, o, xs, n, t, u, h1, h2, h3, h4, h5⟩ := pair_at r hi
    obtain ⟨a', o', xs', n', t', u', h1', h2', h3', h4', h5'⟩ := pair_at r hj
    have w1 := hwin i j hi hj
    have w2 := hwin j i hj hi
    have sz : xs.size = 2 := by rw [← Array.length_toList, h5]; rfl
    have sz' : xs'.size = 2 := by rw [← Array.length_toList, h5']; rfl
    generalize hx : kp.getD i (0, 0) = p at *
    generalize hy : kp.getD j (0, 0) = q at *
    unfold kas_ask
    rw [h1, h1']
    refine kat_lt h2 h4 h2' h4' ?_
    rw [h5, h5', sz, sz']
    show KatLex prog w A true _ C [(Value.int p.1 t, Value.int q.1 t'), (Value.int p.2 u, Value.int q.2 u')] 0 s
    refine kat_cons (wpAny_eqBool_int (kat_go (fun e => kat_yes (kat_cons (wpAny_eqBool_int (kat_go (fun e2 => kat_yes (kat_nil ?_)) (fun e2 => kat_no ?_))))) (fun e => kat_no ?_)))
    · have e' := beq_iff_eq.mp e
      have e2' := beq_iff_eq.mp e2
      have : decide (keyP p < keyP q) = decide (2 < 2) := by
        unfold keyP; rw [decide_eq_false (by omega)]; rfl
      rw [← this]; exact hC
    · have e' := beq_iff_eq.mp e
      show wpAny _ _ (oneLt' false _ _) C _ s
      refine kat_one _ _ (PyProof.Rows.lt_int ?_)
      have : decide (keyP p < keyP q) = decide (p.2 < q.2) := by
        unfold keyP; exact decide_eq_decide.mpr (by omega)
      show C (decide (p.2 < q.2)) s
      rw [← this]; exact hC
    · have e' := beq_eq_false_iff_ne.mp e
      show wpAny _ _ (oneLt' true _ _) C _ s
      refine oneLt_int ?_
      have : decide (keyP p < keyP q) = decide (p.1 < q.1) := by
        unfold keyP; exact decide_eq_decide.mpr (by omega)
      rw [← this]; exact hC
  · have w1 := hwin i j hi hj
    have w2 := hwin j i hj hi
    have d := hdis i j hi hj hij
    show keyP _ ≠ keyP _
    unfold keyP
    omega
theorem tups_of {X : Addr → Prop} {h : Heap} : ∀ {kp : List (Int × Int)} {vs : List Value}, RdAll X h vs (kp.map prD) → ∃ fs, KatTups h vs fs ∧ fs.length = kp.length ∧ ∀ v ∈ fs, ∃ k t, v = .int k t
  | [], vs, r => by rw [r.nilInv]; exact ⟨[], .nil, rfl, fun v hv => nomatch hv⟩
  | p :: kp, vs, r => by
    obtain ⟨v, us, rfl, r1, r2⟩ := RdAll.consInv (d := prD p) (ds := kp.map prD) r
    obtain ⟨fs, k1, k2, k3⟩ := tups_of r2
    obtain ⟨a, o, xs, n, rfl, _, e1, e2, e3, ra⟩ := r1.tupInv
    obtain ⟨w1, ws, q1, r3, r4⟩ := ra.consInv
    obtain ⟨t, rfl⟩ := r3.intInv
    have h0 : xs[0]? = some (.int p.1 t) := by rw [← Array.getElem?_toList, q1]; rfl
    refine ⟨.int p.1 t :: fs, .cons e1 e2 e3 h0 k1, by simp [k2], fun v hv => ?_⟩
    rcases List.mem_cons.mp hv with rfl | hv
    · exact ⟨_, _, rfl⟩
    · exact k3 v hv
theorem kind_pairs (r : RdAll X s.heap vs (kp.map prD)) (hn : 0 < kp.length) {Q : SortKind → Shared → Prop} (h : Q (tuples' true) s) : wpAny (model prog w) A (keyKind' vs.toArray) Q E s := by
  obtain ⟨fs, k1, k2, k3⟩ := tups_of r
  refine kat_kind (T := .type "int") k1 (by omega) (fun v hv => ?_) (by decide) h
  obtain ⟨k, t, rfl⟩ := k3 v hv
  exact .now
end
/-- all things there are but one -/
def allN (h : Heap) (L : Addr) : List (Addr × Obj) := (List.range h.objs.size).filterMap fun (b : Nat) => if b = L then none else (h.get? b).map fun o => ((b : Addr), o)
theorem allN_mem {h : Heap} {L b : Addr} {o : Obj} (hb : b ≠ L) (e : h.get? b = some o) : (b, o) ∈ allN h L := by
  unfold allN
  rw [List.mem_filterMap]
  refine ⟨b, List.mem_range.mpr (Heap.lt_size e), ?_⟩
  have : ¬ @Eq Nat b L := hb
  rw [if_neg this, e]; rfl
theorem mem_allN {h : Heap} {L : Addr} {p : Addr × Obj} (e : p ∈ allN h L) : p.1 ≠ L ∧ h.get? p.1 = some p.2 := by
  unfold allN at e
  rw [List.mem_filterMap] at e
  obtain ⟨b, _, hb⟩ := e
  by_cases q : @Eq Nat b L
  · rw [if_pos q] at hb; cases hb
  · rw [if_neg q] at hb
    cases e2 : h.get? b with
    | none => rw [e2] at hb; cases hb
    | some o => rw [e2] at hb; cases hb; exact ⟨q, e2⟩
def h00 : Heap := {}
theorem h00_none (b : Addr) : h00.get? b = none := Heap.get?_none_of_le (Nat.zero_le _)
theorem news_all {h : Heap} {L : Addr} : News h00 L h (allN h L) := fun p hp => ⟨(mem_allN hp).2, (mem_allN hp).1, h00_none _⟩
theorem fr_all {h : Heap} {L : Addr} {m : Str → Option Value} (hn : h.Ns L m) : Fr h00 L h m := ⟨hn, fun b o q => (by rw [h00_none] at q; cases q), Nat.zero_le _⟩
theorem all_keep {h h' : Heap} {L : Addr} {more : List (Addr × Obj)} (N : News h00 L h' (more ++ allN h L)) : ∀ b o, b ≠ L → h.get? b = some o → h'.get? b = some o := fun b o hb e => (N (b, o) (List.mem_append_right _ (allN_mem hb e))).1
end Mine
namespace Mine
open PySem PySem.Spec PySem.Calls PyProof.Rows PySem.W
theorem EnvOk.but {X : Addr → Prop} {env : Env} {h h' : Heap} {ρ : Str → Option D} {m : Str → Option Value} (e : EnvOk X env h ρ) (hn : h'.Ns env.locals m) (hm : ∀ x d, ρ x = some d → env.kindOf x = some .local → ∃ v, m x = some v ∧ Rd X h v d) (k : ∀ b o, b ≠ env.locals → h.get? b = some o → h'.get? b = some o) : EnvOk X env h' ρ := by
  have kr : ∀ b o, ¬ X b → h.get? b = some o → h'.get? b = some o := fun b o hx q => k b o (fun z => hx (z ▸ e.locX)) q
  have kc : ∀ c v, c ≠ env.locals → h.IsCell c v → h'.IsCell c v := fun c v hc ⟨o, ho, hd⟩ => ⟨o, k c o hc ho, hd⟩
  refine ⟨e.kind, e.glob, e.blt, e.xt, fun a ha => ?_, e.ntb, e.locX, ⟨m, hn, fun x d hx hk => ?_⟩, fun x d hx hk => ?_, fun p hp => ?_, e.apart, e.gl, e.hasC⟩
  · by_cases q : a = env.locals
    · obtain ⟨o, _, _, ho, _⟩ := hn; exact ⟨o, q ▸ ho⟩
    · obtain ⟨o, ho⟩ := e.al a ha; exact ⟨o, k a o q ho⟩
  · obtain ⟨v, hv, r⟩ := hm x d hx hk
    exact ⟨v, hv, r.mono kr⟩
  · obtain ⟨h1, c, v, hc, hv, r⟩ := e.cel x d hx hk
    exact ⟨h1, c, v, hc, kc c _ (e.cells _ (mem_of_lookup hc)).2.1 hv, r.mono kr⟩
  · obtain ⟨h1, h2, h3, v, h4⟩ := e.cells p hp
    exact ⟨h1, h2, h3, v, kc _ _ h2 h4⟩
theorem RdAll.pickD {X : Addr → Prop} {h : Heap} {vs : List Value} {ps : List (Int × Int)} (r : RdAll X h vs (ps.map prD)) : ∀ is : List Nat, (∀ i ∈ is, i < ps.length) → RdAll X h (is.map fun i => vs.getD i Value.none) ((is.map fun i => ps.getD i (0, 0)).map prD)
  | [], _ => .nil
  | i :: is, hi => by
    have h0 := hi i (List.mem_cons_self ..)
    have e : (ps.map prD)[i]? = some (prD (ps.getD i (0, 0))) := by
      rw [List.getElem?_map, List.getElem?_eq_getElem h0]
      simp [List.getD, List.getElem?_eq_getElem h0]
    obtain ⟨v, hv, rv⟩ := r.get e
    have ev : vs.getD i Value.none = v := by rw [List.getD, hv]; rfl
    rw [List.map_cons, List.map_cons, List.map_cons, ev]
    exact .cons rv (RdAll.pickD r is fun j hj => hi j (List.mem_cons_of_mem _ hj))
theorem range_getD {ps : List (Int × Int)} : (List.range ps.length).map (fun i => ps.getD i (0, 0)) = ps := by
  apply List.ext_getElem?
  intro i
  rw [List.getElem?_map]
  by_cases h : i < ps.length
  · rw [List.getElem?_range h, List.getElem?_eq_getElem h]
    simp [List.getD, List.getElem?_eq_getElem h]
  · rw [List.getElem?_eq_none (by rw [List.length_range]; omega), List.getElem?_eq_none (by omega)]; rfl
theorem Ar.list {n : Nat} {p : Array Nat} (h : Ar n p) : p.toList.Perm (List.range n) := by simpa using h.perm.toList
def outP (ps : List (Int × Int)) (p : Array Nat) : List (Int × Int) := p.toList.map fun i => ps.getD i (0, 0)
theorem outP_perm {ps : List (Int × Int)} {p : Array Nat} (h : Ar ps.length p) : (outP ps p).Perm ps := by
  have := h.list.map fun i => ps.getD i (0, 0)
  rwa [range_getD] at this
theorem outP_up {ps ks : List (Int × Int)} {p : Array Nat} (f : Int × Int → Int × Int) (hk : ks = ps.map f) (h : Ar ps.length p) (u : Up (fun i => keyP (ks.getD i (0, 0))) p ps.length) : (outP ps p).Pairwise fun a b => keyP (f a) < keyP (f b) := by
  unfold outP
  rw [List.pairwise_map, List.pairwise_iff_getElem]
  intro i j hi hj hij
  have hz := h.size
  have li : p.toList.length = ps.length := by rw [Array.length_toList]; exact hz
  have e : ∀ i (hi : i < p.toList.length), ks.getD (p.getD i 0) (0, 0) = f (ps.getD p.toList[i] (0, 0)) := fun i hi => by
    have hp : p.toList[i] < ps.length := by
      have := h.list.mem_iff.mp (List.getElem_mem hi)
      simpa using this
    have e0 : p.getD i 0 = p.toList[i] := by rw [Array.getElem_toList]; simp [Array.getD, show i < p.size by omega]
    rw [e0, hk, List.getD, List.getElem?_map, List.getElem?_eq_getElem hp, List.getD, List.getElem?_eq_getElem hp]
    rfl
  have := u i j hij (by omega)
  dsimp only at this
  rw [e i hi, e j hj] at this
  exact this
structure Apart9 (kp : List (Int × Int)) : Prop where
  win : ∀ i j, i < kp.length → j < kp.length → (kp.getD i (0, 0)).2 - (kp.getD j (0, 0)).2 ≤ 8
  dis : ∀ i j, i < kp.length → j < kp.length → i ≠ j → (kp.getD i (0, 0)).2 ≠ (kp.getD j (0, 0)).2
section
variable {c : Cx} {sc : Scope} {ρ ρ' : Str → Option D}
theorem gw_locs {X : Addr → Prop} {env : Env} {s : Shared} {h' : Heap} {tk : Nat} (eo : EnvOk X env s.heap ρ) (k : ∀ b o, b ≠ env.locals → s.heap.get? b = some o → h'.get? b = some o) : Gw (Own env) s { s with heap := h', toks := tk } :=
  .heap (.all (fun b hb z => (own_X eo z).2 hb) fun b o hb q => k b o (fun z => hb (.inl z)) q)
/-- sorted(pairs) -/
theorem sorted_pairs (W : Wld c) {X : Addr → Prop} {env : Env} {s : Shared} {v : Value} {ps : List (Int × Int)} (hG : c.G s.heap) (eo : EnvOk X env s.heap ρ) (r : Rd X s.heap v (.list (ps.map prD))) (hp : Apart9 ps) (h2 : 2 ≤ ps.length) (h64 : ps.length < 64) :
    wpAny (model c.prog c.w) c.A (call (.builtin "sorted") [v]) (fun u s' => Gw (Own env) s s' ∧ c.G s'.heap ∧ EnvOk X env s'.heap ρ ∧ ∃ S : List (Int × Int), S.Perm ps ∧ S.Pairwise (fun a b => keyP a < keyP b) ∧ Rd X s'.heap u (.list (S.map prD))) noE s := by
  obtain ⟨l, its, n, rfl, hxl, e1, ra⟩ := r.listInv
  obtain ⟨m, hn, hm⟩ := eo.loc
  have hlen : its.toList.length = ps.length := by have := ra.1; rwa [List.length_map] at this
  refine kat_sorted (L := env.locals) (vs := its.toList) (news := allN s.heap env.locals) (fr_all hn) news_all ⟨_, e1, rfl, n, by simp⟩ (by omega) (by omega) fun D e2 h' F N hD => ?_
  have keep := all_keep (more := [(D, seqObj "list" #[] e2)]) N
  have kr : ∀ b o, ¬ X b → s.heap.get? b = some o → h'.get? b = some o := fun b o hx q => keep b o (fun z => hx (z ▸ eo.locX)) q
  have ra' : RdAll X h' its.toList (ps.map prD) := ra.mono kr
  refine kind_pairs (s := { s with heap := h' }) ra' (by omega) ?_
  have T := tells_pairs (prog := c.prog) (w := c.w) (A := c.A.in1.in1) (s := { s with heap := h' }) ra' hp.win hp.dis
  rw [hlen]
  refine sort_ok T (by omega) fun p ha hu => ?_
  refine KasFin.intro F N (.head fun q hq => Nat.ne_of_lt (hD q hq)) fun h3 c3 F3 N3 => ?_
  have keep3 := all_keep (more := [(D, listOf (List.toArray (p.toList.map fun i => its.toList.getD i Value.none)) c3)]) N3
  have kr3 : ∀ b o, ¬ X b → s.heap.get? b = some o → h3.get? b = some o := fun b o hx q => keep3 b o (fun z => hx (z ▸ eo.locX)) q
  have hDD := N3 (D, listOf (List.toArray (p.toList.map fun i => its.toList.getD i Value.none)) c3) (.head _)
  have nX : ¬ X D := fun z => by
    obtain ⟨o, ho⟩ := eo.al D z
    exact absurd (hD _ (allN_mem hDD.2.1 ho)) (Nat.lt_irrefl _)
  have g := gw_locs (tk := s.toks) eo keep3
  refine ⟨g, apart_own W.KG eo hG g, eo.but F3.ns hm keep3, outP ps p, outP_perm ha, outP_up (ks := ps) id (by simp) ha hu, ?_⟩
  refine RdAll.list nX hDD.1 ((ra.pickD _ fun i hi => ?_).mono kr3)
  have := ha.list.mem_iff.mp hi
  simpa using this
end
end Mine
namespace Mine
open PySem PySem.Spec PySem.Calls PyProof.Rows PySem.W
def negP (p : Int × Int) : Int × Int := (p.1, -p.2)
def NegFn (fd : FuncData) : Prop := ∀ (c : Cx) (n : Nat), Wld c → LimN n c → ∀ (k t : Int) X (s : Shared) v u, c.G s.heap → Xok X s.heap → Rd X s.heap v (.fn fd) → Rd X s.heap u (.tup [.int k, .int t]) → Gives c X s (call v [u]) (.tup [.int k, .int (-t)])
theorem katRev_f {α : Type} (l : List α) : katRev false l = l := rfl
/-- all but two -/
def allB (h : Heap) (L d : Addr) : List (Addr × Obj) := (allN h L).filter fun q => decide (@Ne Nat q.1 d)
theorem allB_ne {h : Heap} {L d : Addr} : ∀ q ∈ allB h L d, q.1 ≠ d := fun q hq => of_decide_eq_true (List.mem_filter.mp hq).2
theorem allB_mem {h : Heap} {L d b : Addr} {o : Obj} (hb : b ≠ L) (hd : b ≠ d) (e : h.get? b = some o) : (b, o) ∈ allB h L d := List.mem_filter.mpr ⟨allN_mem hb e, decide_eq_true hd⟩
theorem newsB {h : Heap} {L d : Addr} {o : Obj} (hd : d ≠ L) (e : h.get? d = some o) : News h00 L h ((d, o) :: allB h L d) := fun p hp => by
  rcases List.mem_cons.mp hp with rfl | hp
  · exact ⟨e, hd, h00_none _⟩
  · exact news_all p (List.mem_filter.mp hp).1
theorem keepB {h h' : Heap} {L d : Addr} {o' : Obj} (N : News h00 L h' ((d, o') :: allB h L d)) : ∀ b o, b ≠ L → b ≠ d → h.get? b = some o → h'.get? b = some o := fun b o hb hd e => (N (b, o) (.tail _ (allB_mem hb hd e))).1
section
variable {c : Cx} {sc : Scope} {ρ ρ' : Str → Option D}
theorem every_of (KG : Known c.G) {s s' : Shared} (hG : c.G s.heap) (g : Gw noX s s') : ∀ b o, s.heap.get? b = some o → s'.heap.get? b = some o := fun b o e => by
  by_cases ht : tb b
  · obtain ⟨ps, q⟩ := KG.table _ hG b ht
    have := g.kp.tabs b ps ht q
    rw [q] at e; cases e; exact this
  · exact g.kp.keep b o (fun z => z) ht e
/-- what stands while the keys are made -/
structure KI9 (c : Cx) (X' : Addr → Prop) (L : Addr) (m : Str → Option Value) (s₀ : Shared) (DA kS : Addr) (e1 : Nat) (kds : List (Int × Int)) (ks : List Value) (e : Nat) (s : Shared) : Prop where
  F : Fr h00 L s.heap m
  G : c.G s.heap
  kS : s.heap.get? kS = some (seqObj "list" (List.toArray ks) e)
  dA : s.heap.get? DA = some (seqObj "list" #[] e1)
  keep : ∀ b o, b ≠ L → s₀.heap.get? b = some o → s.heap.get? b = some o
  rk : RdAll X' s.heap ks (kds.map prD)
  os : s.os = s₀.os
  gens : GensOk s₀.gens s.gens
/-- where all this happens -/
structure KW9 (X : Addr → Prop) (env : Env) (s₀ : Shared) (DA kS : Addr) : Prop where
  lt : ∀ a o, a ≠ env.locals → s₀.heap.get? a = some o → a < DA
  dk : DA < kS
  dL : DA ≠ env.locals
  kL : kS ≠ env.locals
  lD : low ≤ DA
  lL : low ≤ env.locals
abbrev xDK (X : Addr → Prop) (DA kS : Addr) : Addr → Prop := fun a => X a ∨ a = DA ∨ a = kS
theorem kw_none {X : Addr → Prop} {env : Env} {s₀ : Shared} {DA kS : Addr} (Z : KW9 X env s₀ DA kS) : s₀.heap.get? DA = none ∧ s₀.heap.get? kS = none := by
  constructor
  · cases q : s₀.heap.get? DA with
    | none => rfl
    | some o => exact absurd (Z.lt _ _ Z.dL q) (Nat.lt_irrefl _)
  · cases q : s₀.heap.get? kS with
    | none => rfl
    | some o => exact absurd (Z.lt _ _ Z.kL q) (Nat.not_lt_of_le (Nat.le_of_lt Z.dk))
theorem kw_xok {X : Addr → Prop} {env : Env} {s₀ s : Shared} {DA kS : Addr} {m : Str → Option Value} {e1 e : Nat} {kds : List (Int × Int)} {ks : List Value} (Z : KW9 X env s₀ DA kS) (eo : EnvOk X env s₀.heap ρ) (K : KI9 c (xDK X DA kS) env.locals m s₀ DA kS e1 kds ks e s) : Xok (xDK X DA kS) s.heap := by
  refine ⟨⟨fun b hb => .inl (eo.xt.tbs b hb), fun a ha => ?_⟩, fun a ha => ?_⟩
  · rcases ha with q | q | q
    · exact eo.xt.hi a q
    · exact .inr (by rw [q]; exact Z.lD)
    · exact .inr (by rw [q]; exact Nat.le_of_lt (Nat.lt_of_le_of_lt Z.lD Z.dk))
  · rcases ha with q | q | q
    · by_cases hL : a = env.locals
      · obtain ⟨o, _, _, ho, _⟩ := K.F.ns; exact ⟨o, hL ▸ ho⟩
      · obtain ⟨o, ho⟩ := eo.al a q; exact ⟨o, K.keep a o hL ho⟩
    · exact ⟨_, by rw [q]; exact K.dA⟩
    · exact ⟨_, by rw [q]; exact K.kS⟩
theorem kw_rd {X : Addr → Prop} {env : Env} {s₀ s : Shared} {DA kS : Addr} {m : Str → Option Value} {e1 e : Nat} {kds : List (Int × Int)} {ks : List Value} (Z : KW9 X env s₀ DA kS) (eo : EnvOk X env s₀.heap ρ) (K : KI9 c (xDK X DA kS) env.locals m s₀ DA kS e1 kds ks e s) {v : Value} {d : D} (r : Rd X s₀.heap v d) : Rd (xDK X DA kS) s.heap v d := by
  refine (r.more (X' := xDK X DA kS) fun a ha => ?_).mono fun b o hx q => K.keep b o (fun z => hx (.inl (z ▸ eo.locX))) q
  rcases ha with q | q | q
  · exact .inl q
  · exact .inr (by rw [q]; exact (kw_none Z).1)
  · exact .inr (by rw [q]; exact (kw_none Z).2)
/-- kS takes one more, all else stands -/
theorem kw_G {X : Addr → Prop} {env : Env} {s₀ : Shared} {DA kS : Addr} (KG : Known c.G) (Z : KW9 X env s₀ DA kS) (eo : EnvOk X env s₀.heap ρ) {h h' : Heap} (hG : c.G h) (hk : ∀ b o, b ≠ env.locals → b ≠ kS → h.get? b = some o → h'.get? b = some o) (ht : ¬ tb kS) : c.G h' :=
  KG.apart (fun a => a = env.locals ∨ a = kS) _ _ (fun a ha => .inr (by
    rcases ha with q | q
    · rw [q]; exact Z.lL
    · rw [q]; exact Nat.le_of_lt (Nat.lt_of_le_of_lt Z.lD Z.dk))) hG (.all (fun b hb z => by
    rcases z with q | q
    · exact eo.ntb (q ▸ hb)
    · exact ht (q ▸ hb)) fun b o hb q => hk b o (fun z => hb (.inl z)) (fun z => hb (.inr z)) q)
theorem keys_go (W : Wld c) {n : Nat} (hl : LimN n c) {X : Addr → Prop} {env : Env} {m : Str → Option Value} {s₀ : Shared} {DA kS : Addr} {e1 : Nat} {f : Value} {fd : FuncData} (hK : NegFn fd) (eo : EnvOk X env s₀.heap ρ) (hG₀ : c.G s₀.heap) (rf : Rd X s₀.heap f (.fn fd)) (Z : KW9 X env s₀ DA kS)
    {Fin : List Value → Nat → Shared → Prop} {all : List (Int × Int)} (hF : ∀ ks e s, KI9 c (xDK X DA kS) env.locals m s₀ DA kS e1 (all.map negP) ks e s → Fin ks e s) :
    ∀ (rest : List (Int × Int)) (vs : List Value) (done : List (Int × Int)) (ks : List Value) (e : Nat) (s : Shared), all = done ++ rest → RdAll X s₀.heap vs (rest.map prD) → KI9 c (xDK X DA kS) env.locals m s₀ DA kS e1 (done.map negP) ks e s →
      KatKeys c.prog c.w c.A h00 env.locals m kS f Fin vs ks e s
  | [], vs, done, ks, e, s, ha, rv, K => by
    rw [rv.nilInv]
    rw [List.append_nil] at ha
    subst ha
    exact KatKeys.nil (hF ks e s K)
  | p :: rest, vs, done, ks, e, s, ha, rv, K => by
    obtain ⟨v, us, rfl, r1, r2⟩ := RdAll.consInv (d := prD p) (ds := rest.map prD) rv
    have xo := kw_xok Z eo K
    refine KatKeys.cons (wp_up (hK c n W hl p.1 p.2 _ s f v K.G xo (kw_rd Z eo K rf) (kw_rd Z eo K r1)) fun k s' h => ?_)
    obtain ⟨g, rk⟩ := h
    have ev := every_of W.KG K.G g
    have hG' := W.KG.keeps _ _ K.G g.kp
    have F' : Fr h00 env.locals s'.heap m := ⟨K.F.ns.at' fun o q => ev _ o q, fun b o q => (by rw [h00_none] at q; cases q), Nat.zero_le _⟩
    have nt : ¬ tb kS := fresh_ntb W.KG hG₀ (kw_none Z).2
    refine KatBack.intro F' (newsB Z.kL (ev _ _ K.kS)) (.head allB_ne) fun h2 c2 F2 N2 => ?_
    have kb := keepB N2
    have kx : ∀ b o, ¬ xDK X DA kS b → s'.heap.get? b = some o → h2.get? b = some o := fun b o hx q => kb b o (fun z => hx (.inl (z ▸ eo.locX))) (fun z => hx (.inr (.inr z))) q
    refine keys_go W hl hK eo hG₀ rf Z hF rest us (done ++ [p]) (ks ++ [k]) c2 { s' with heap := h2 } (by rw [ha]; simp) r2 ⟨F2, kw_G W.KG Z eo hG' kb nt, (N2 _ (.head _)).1, kb _ _ Z.dL (Nat.ne_of_lt Z.dk) (ev _ _ K.dA), fun b o hb q => kb b o hb (fun z => ?_) (ev _ _ (K.keep b o hb q)), ?_, g.os.trans K.os, K.gens.trans g.bare⟩
    · rw [z, (kw_none Z).2] at q; cases q
    · rw [List.map_append, List.map_append]
      exact (((K.rk.mono fun b o _ q => ev b o q).append (.one rk)).mono kx)
end
end Mine
namespace Mine
open PySem PySem.Spec PySem.Calls PyProof.Rows PySem.W
section
variable {c : Cx} {sc : Scope} {ρ ρ' : Str → Option D}
/-- sorted(pairs, key = the first up, the second down) -/
theorem sorted_neg (W : Wld c) {n : Nat} (hl : LimN (n + 1) c) {X : Addr → Prop} {env : Env} {s : Shared} {v f : Value} {fd : FuncData} {ps : List (Int × Int)} (hG : c.G s.heap) (eo : EnvOk X env s.heap ρ) (r : Rd X s.heap v (.list (ps.map prD))) (rf : Rd X s.heap f (.fn fd)) (hK : NegFn fd) (hp : Apart9 (ps.map negP)) (h2 : 2 ≤ ps.length) (h64 : ps.length < 64)
    (hbig : ∃ b o, b ≠ env.locals ∧ @LE.le Nat _ low b ∧ s.heap.get? b = some o) :
    wpAny (model c.prog c.w) c.A (call (.builtin "sorted") [v] [("key", f)]) (fun u s' => Gw (Own env) s s' ∧ c.G s'.heap ∧ EnvOk X env s'.heap ρ ∧ ∃ S : List (Int × Int), S.Perm ps ∧ S.Pairwise (fun a b => keyP (negP a) < keyP (negP b)) ∧ Rd X s'.heap u (.list (S.map prD))) noE s := by
  obtain ⟨l, its, nn, rfl, hxl, e1, ra⟩ := r.listInv
  obtain ⟨m, hn, hm⟩ := eo.loc
  have hlen : its.toList.length = ps.length := by have := ra.1; rwa [List.length_map] at this
  have hlen2 : (ps.map negP).length = ps.length := List.length_map ..
  have hf : ∃ q, f = .ref q := by cases rf; exact ⟨_, rfl⟩
  obtain ⟨q, rfl⟩ := hf
  have lL : low ≤ env.locals := (eo.xt.hi _ eo.locX).resolve_left eo.ntb
  obtain ⟨bb, bo, bL, bl, be⟩ := hbig
  refine kat_sortedK (b := false) (L := env.locals) (vs := its.toList) (news := allN s.heap env.locals) (fr_all hn) news_all ⟨_, e1, rfl, nn, by simp⟩ (by omega) (by omega) (ksk_s1 _ _) (fun x => ksk_l1 _ _) (fun x => ksk_t1 _ _) fun DA kS e2 h' F N hDk hD => ?_
  have nk := N _ (.head _)
  have nd := N _ (.tail _ (.head _))
  have Z : KW9 X env s DA kS := ⟨fun a o ha e => hD _ (allN_mem ha e), hDk, nd.2.1, nk.2.1, Nat.le_of_lt (Nat.lt_of_le_of_lt bl (hD _ (allN_mem bL be))), lL⟩
  have keep : ∀ b o, b ≠ env.locals → s.heap.get? b = some o → h'.get? b = some o := all_keep (more := [_, _]) N
  have gg : Gw (Own env) s { s with heap := h', toks := s.toks } := gw_locs eo keep
  refine keys_go (c := { c with A := c.A.in1.in1 }) (n := n) (W.at' _) ⟨hl.hand, by have := hl.depth; show c.A.depth + 20 + n < _; omega, by have := hl.units; show c.A.units + 1 + 1 + 1000 + 10 * n < _; omega⟩ hK eo hG rf Z (all := ps) (fun ks e s1 K => ?_) ps its.toList [] [] 0 { s with heap := h' } rfl ra
    ⟨F, apart_own W.KG eo hG gg, nk.1, nd.1, keep, .nil, rfl, .refl _⟩
  refine kind_pairs K.rk (by omega) ?_
  have T := tells_pairs (prog := c.prog) (w := c.w) (A := c.A.in1.in1) K.rk hp.win hp.dis
  rw [hlen, katRev_f, katRev_f]
  rw [hlen2] at T
  refine sort_ok T (by omega) fun p ha hu => ?_
  rw [katRev_f]
  refine KatFin.intro K.F (newsB Z.kL K.kS) (.head allB_ne) fun h2' c2 F2 N2 => ?_
  have k2 := keepB N2
  refine KasFin.intro F2 (newsB Z.dL (k2 _ _ Z.dL (Nat.ne_of_lt Z.dk) K.dA)) (.head allB_ne) fun h3 c3 F3 N3 => ?_
  have k3 := keepB N3
  have keep3 : ∀ b o, b ≠ env.locals → s.heap.get? b = some o → h3.get? b = some o := fun b o hb e => k3 b o hb (fun z => by rw [z, (kw_none Z).1] at e; cases e) (k2 b o hb (fun z => by rw [z, (kw_none Z).2] at e; cases e) (K.keep b o hb e))
  have kr3 : ∀ b o, ¬ X b → s.heap.get? b = some o → h3.get? b = some o := fun b o hx q => keep3 b o (fun z => hx (z ▸ eo.locX)) q
  have nX : ¬ X DA := fun z => by
    obtain ⟨o, ho⟩ := eo.al DA z
    rw [(kw_none Z).1] at ho; cases ho
  have g : Gw (Own env) s { s1 with heap := h3 } := ⟨.all (fun b hb z => (own_X eo z).2 hb) fun b o hb q => keep3 b o (fun z => hb (.inl z)) q, K.os, K.gens⟩
  refine ⟨g, apart_own W.KG eo hG g, eo.but F3.ns hm keep3, outP ps p, outP_perm ha, outP_up (ks := ps.map negP) negP rfl ha hu, ?_⟩
  refine RdAll.list nX (N3 _ (.head _)).1 ((ra.pickD _ fun i hi => ?_).mono kr3)
  have := ha.list.mem_iff.mp hi
  simpa using this
end
end Mine
section
set_option maxRecDepth 100000
namespace Mine
open PySem PySem.Spec PySem.Calls PyProof.Rows PySem.W
section
variable {c : Cx} {sc : Scope} {ρ ρ' : Str → Option D}
def rowQ : Str := "_law_row.<locals>.<lambda>"
theorem lpR_ne : (((lpR true).line : Int) == (lpR false).line && ((lpR true).col : Int) == (lpR false).col) = false := by decide +kernel
theorem tab_some (KG : Known c.G) {h : Heap} (hG : c.G h) {P : Addr} (hP : tb P) : ∃ o, h.get? P = some o := by
  obtain ⟨ps, q⟩ := KG.table _ hG P hP
  exact ⟨_, q⟩
theorem TabSt.gw0 {X : Addr → Prop} {s s' : Shared} {P : Addr} {pos : Pos} {q : Str} (hP : tb P) (T : TabSt X s.heap P pos q false) (g : Gw noX s s') : TabSt X s'.heap P pos q false := by
  obtain ⟨ps, q1, q2, q3⟩ := T
  exact ⟨ps, g.kp.tabs _ _ hP q1, q2, q3⟩
/-- one call of _law_row within the law -/
theorem row_call (W : Wld c) (TF : TabFree c.G) {n : Nat} (hl : LimN (n + 3) c) {left : Bool} {ps : List (Int × Int)} (hz : ps.length < 1000) {X : Addr → Prop} {env : Env} {s : Shared} {e : Expr} {fpos kp pos : Pos} {kk : Nat} (hs : env.scope = scL) (hG : c.G s.heap) (eo : EnvOk X env s.heap ρ) (he : Ev c scL ρ e (.list (ps.map prD))) (T : TabSt X s.heap 153 (lpR left) rowQ false) {Q : Value → Shared → Prop}
    (h : ∀ v s', Gp 153 noX s s' → c.G s'.heap → EnvOk X env s'.heap ρ → Rd X s'.heap v (.list ((rowF left ps).map prD)) → (∀ pos', TabSt X s.heap 153 pos' rowQ false → (((lpR left).line : Int) == pos'.line && ((lpR left).col : Int) == pos'.col) = false → TabSt X s'.heap 153 pos' rowQ false) → Q v s')
    (hst : ∀ env, starEach [e, .Constant (.bool left) kk kp] env = (false, eval e env) :: starEach [.Constant (.bool left) kk kp] env := by intro _; rfl) (hpl : ∀ env, (backTo pos (starEach [.Constant (.bool left) kk kp] env)).any (·.1) = false := by intro _; rfl) :
    wpAny (model c.prog c.w) c.A (eval (.Call (.Name "_law_row" fpos) [e, .Constant (.bool left) kk kp] [] pos) env) Q noE s := by
  have KG := W.KG
  refine call_name KG W.KI hs hG eo rfl W.row.g (.k _ W.row.kp) (ds := [.list (ps.map prD), .bool left]) (.cons KG he (.cons KG .boolC .nil) hst) (fun vs s₁ hG₁ g₁ eo₁ r => ?_) hst hpl (by decide)
  obtain ⟨v, us, rfl, r1, r2⟩ := r.consInv
  obtain ⟨u, us', rfl, r3, r4⟩ := r2.consInv
  rw [r4.nilInv, r3.boolInv]
  refine wp_up (call_row W TF hl hz hG₁ eo₁.xok r1 (T.gw0 (.inl rfl) g₁)) fun v' s₂ h₂ => ?_
  obtain ⟨g₂, hG₂, rv, T₂⟩ := h₂
  exact h v' s₂ ((Gp.of KG hG g₁).trans g₂) hG₂ (eo₁.tab (.inl rfl) g₂ (tab_some KG hG₂ (.inl rfl))) rv fun pos' a b => T₂ pos' (a.gw0 (.inl rfl) g₁) b
theorem ex_ordered (W : Wld c) (TF : TabFree c.G) {n : Nat} (hl : LimN (n + 3) c) {p0 p1 : List (Int × Int)} (l0 : p0.length < 1000) (l1 : p1.length < 1000) {X : Addr → Prop} {env : Env} {s : Shared} (hs : env.scope = scL) (hG : c.G s.heap) (eo : EnvOk X env s.heap ρ) (hlaid : ρ "laid" = some (.list [.list (p0.map prD), .list (p1.map prD)]))
    (T0 : TabSt X s.heap 153 (lpR true) rowQ false) (T1 : TabSt X s.heap 153 (lpR false) rowQ false) {Q : Flow → Shared → Prop}
    (h : ∀ s', Gp 153 (Own env) s s' → c.G s'.heap → EnvOk X env s'.heap (upd ρ "ordered" (.list [.list ((rowF true p0).map prD), .list ((rowF false p1).map prD)])) → Q .next s') :
    wpAny (model c.prog c.w) c.A (exec (stL 10) env) Q noE s := by
  have KG := W.KG
  have la : ∀ {i : Int} {k : Nat} {p1' p : Pos} {l : List (Int × Int)} {pn : Pos}, 0 ≤ i → i < 2 → ([.list (p0.map prD), .list (p1.map prD)] : List D)[i.toNat]? = some (.list (l.map prD)) → Ev c scL ρ (.Subscript (.Name "laid" pn) (.Constant (.int i) k p1') p) (.list (l.map prD)) := fun a b d => Ev.itemL KG (.name hlaid) .intC a (by omega) d
  refine wpAny_Assign_Name (wpAny_List (wpAny_items_cons (row_call W TF hl (left := true) l0 hs hG eo (la (by decide) (by decide) rfl) T0 fun v s₁ g₁ hG₁ eo₁ r₁ T₁ => ?_) rfl)) rfl
  refine wpAny_items_cons (row_call W TF hl (left := false) l1 hs hG₁ eo₁ (la (by decide) (by decide) rfl) (T₁ _ T1 lpR_ne) fun u s₂ g₂ hG₂ eo₂ r₂ T₂ => ?_) rfl
  refine wpAny_items_nil ?_
  refine ⟨by show 2 ≤ sizeLine; rw [PySem.sizeLine_eq]; omega, ?_⟩
  have kp : ∀ b o, s₂.heap.get? b = some o → (s₂.heap.push { cls := .type "list", data := .seq #[v, u] }).get? b = some o := fun b o q => Heap.get?_push_of_some _ q
  have g₃ : Gw noX s₂ { s₂ with heap := s₂.heap.push { cls := .type "list", data := .seq #[v, u] } } := .push
  have hG₃ := KG.keeps _ _ hG₂ g₃.kp
  have eo₃ := eo₂.gw KG g₃ hG₂
  have rl : Rd X (s₂.heap.push { cls := .type "list", data := .seq #[v, u] }) (.ref s₂.heap.objs.size) (.list [.list ((rowF true p0).map prD), .list ((rowF false p1).map prD)]) :=
    RdAll.list (vs := [v, u]) eo₂.xok.fresh (Heap.get?_push_size _ rfl) (.cons ((r₁.gp (.inl rfl) eo.xt g₂.none).mono fun b o _ q => kp b o q) (.one (r₂.mono fun b o _ q => kp b o q)))
  have hlc : env.kindOf "ordered" = some .local := by unfold Env.kindOf; rw [hs]; rfl
  refine store_ok (s := { s₂ with heap := s₂.heap.push { cls := .type "list", data := .seq #[v, u] } }) eo₃ rl (.inl hlc) (by decide) fun s' e' g => ?_
  have g' : Gw (Own env) { s₂ with heap := s₂.heap.push { cls := .type "list", data := .seq #[v, u] } } s' := g.wide fun a ha => by
    rcases ha with rfl | ⟨c, q, rfl⟩
    · exact .inl rfl
    · exact .inr ⟨_, mem_of_lookup q, rfl⟩
  have hG' := apart_own KG eo₃ hG₃ g'
  exact h s' (((g₁.trans g₂).trans (Gp.of KG hG₂ g₃)).none.trans (Gp.of KG hG₃ g')) hG' e'
end
end Mine
end
section
set_option maxRecDepth 100000
namespace Mine
open PySem PySem.Spec PySem.Calls PyProof.Rows PySem.W
def lamKw1 : Stmt → Expr
  | .If (.Compare _ _ [.List [.Call _ _ [kw] _, _] _] _) _ _ _ => kw.value
  | _ => default
def lam11 : Expr := lamKw1 (stL 11)
section
variable {c : Cx} {sc : Scope} {ρ ρ' : Str → Option D}
theorem neg_body (KG : Known c.G) (k t : Int) : Ev c (lamScope lam11) (updAll (fun _ => none) ["pair"] [.tup [.int k, .int t]]) (lamBody lam11) (.tup [.int k, .int (-t)]) :=
  Ev.tuple KG (.cons KG (Ev.itemT (ds := [.int k, .int t]) KG (.name rfl) .intC (by decide) (by decide) rfl) (.cons KG (Ev.neg (Ev.itemT (ds := [.int k, .int t]) KG (.name rfl) .intC (by decide) (by decide) rfl)) .nil)) (szl _ (Nat.le_of_ble_eq_true rfl))
theorem neg_fn (q : Str) (pm cdv ct : Value) : NegFn (kla_fn "<lambda>" q (lamArgs lam11) (lamBody lam11) (lamScope lam11) [] pm cdv ct) := fun c n W hl k t X s v u hG xo r ru =>
  callLam W hl hG xo r (binds := [("pair", u)]) (ds := [.tup [.int k, .int t]]) rfl (.one ru) (by decide) (locs_of rfl) (fun env => neg_body (c := c.dp env) W.KG k t) rfl rfl rfl
theorem cmpN_prs (l : List (Int × Int)) : CmpN 2 (.list (l.map prD)) := CmpN.list fun d hd => by
  obtain ⟨p, _, rfl⟩ := List.mem_map.mp hd
  exact CmpN.tup fun d hd => by
    simp only [List.mem_cons, List.not_mem_nil, or_false] at hd
    rcases hd with rfl | rfl <;> exact CmpN.int _ _
theorem cmpN_two (a b : List (Int × Int)) : CmpN 3 (.list [.list (a.map prD), .list (b.map prD)]) := CmpN.list fun d hd => by
  simp only [List.mem_cons, List.not_mem_nil, or_false] at hd
  rcases hd with rfl | rfl <;> exact cmpN_prs _
theorem gp_own {X : Addr → Prop} {env : Env} {s s' : Shared} {v : Value} {d : D} {P : Addr} (hP : tb P) (eo : EnvOk X env s.heap ρ) (g : Gp P (Own env) s s') (r : Rd X s.heap v d) : Rd X s'.heap v d := r.gp hP eo.xt (g.wide fun a ha => (own_X eo ha).1)
/-- all that is not X's stands -/
structure Fx (X : Addr → Prop) (s s' : Shared) : Prop where
  keep : ∀ b o, ¬ X b → s.heap.get? b = some o → s'.heap.get? b = some o
  os : s'.os = s.os
  bare : AllBare s.gens → AllBare s'.gens
theorem Fx.trans {X : Addr → Prop} {s₁ s₂ s₃ : Shared} (a : Fx X s₁ s₂) (b : Fx X s₂ s₃) : Fx X s₁ s₃ := ⟨fun c o h e => b.keep c o h (a.keep c o h e), b.os.trans a.os, fun x => b.bare (a.bare x)⟩
theorem Fx.gw {X Y : Addr → Prop} {s s' : Shared} (xt : XT X) (hY : ∀ a, Y a → X a) (g : Gw Y s s') : Fx X s s' := ⟨fun b o h e => g.kp.keep b o (fun z => h (hY b z)) (fun z => h (xt.tbs b z)) e, g.os, g.bare.1⟩
theorem Fx.gp {X Y : Addr → Prop} {s s' : Shared} {P : Addr} (xt : XT X) (hP : tb P) (hY : ∀ a, Y a → X a) (g : Gp P Y s s') : Fx X s s' := ⟨fun b o h e => g.keep b o (fun z => h (hY b z)) (fun z => h (xt.tbs b (z ▸ hP))) e, g.os, g.bare⟩
theorem ex_check11 (W : Wld c) (TF : TabFree c.G) {n : Nat} (hl : LimN (n + 1) c) {p0 p1 : List (Int × Int)} {X : Addr → Prop} {env : Env} {s : Shared} (hs : env.scope = scL) (hc : env.code = .ref 167) (hG : c.G s.heap) (eo : EnvOk X env s.heap ρ) (hlaid : ρ "laid" = some (.list [.list (p0.map prD), .list (p1.map prD)])) (hord : ρ "ordered" = some (.list [.list ((rowF true p0).map prD), .list ((rowF false p1).map prD)]))
    (T : TabSt X s.heap 165 (lamPos lam11) (env.qual ++ "<lambda>") false) (a0 : Apart9 (p0.map negP)) (a1 : Apart9 p1) (l0 : 2 ≤ p0.length ∧ p0.length < 64) (l1 : 2 ≤ p1.length ∧ p1.length < 64)
    (hS0 : ∀ S : List (Int × Int), S.Perm p0 → S.Pairwise (fun a b => keyP (negP a) < keyP (negP b)) → S = rowF true p0) (hS1 : ∀ S : List (Int × Int), S.Perm p1 → S.Pairwise (fun a b => keyP a < keyP b) → S = rowF false p1)
    (hbig : ∃ b, b ≠ env.locals ∧ @LE.le Nat _ low b ∧ ¬ tb b ∧ ∃ o, s.heap.get? b = some o) {Q : Flow → Shared → Prop}
    (h : ∀ s', Fx X s s' → c.G s'.heap → EnvOk X env s'.heap ρ → Q .next s') :
    wpAny (model c.prog c.w) c.A (exec (stL 11) env) Q noE s := by
  have KG := W.KG
  have la : ∀ {i : Int} {k : Nat} {p1' p : Pos} {l : List (Int × Int)} {pn : Pos}, 0 ≤ i → i < 2 → ([.list (p0.map prD), .list (p1.map prD)] : List D)[i.toNat]? = some (.list (l.map prD)) → Ev c scL ρ (.Subscript (.Name "laid" pn) (.Constant (.int i) k p1') p) (.list (l.map prD)) := fun a b d => Ev.itemL KG (.name hlaid) .intC a (by omega) d
  have hk : ∀ f : Str, scL.names.lookup f = some .globalImplicit → env.kindOf f = some .globalImplicit := fun f hf => by unfold Env.kindOf; rw [hs]; exact hf
  refine wpAny_If (wpAny_isTrue_Compare1 (wp_up (Ev.name (c := c) (sc := scL) hord X env s hs hG eo) fun va s₁ h₁ => ?_) (by with_unfolding_all rfl))
  obtain ⟨g₁, ra⟩ := h₁
  have hG₁ := KG.keeps _ _ hG g₁.kp
  have eo₁ := eo.gw KG g₁ hG
  have T₁ := T.gw0 (.inr rfl) g₁
  refine wpAny_List (wpAny_items_cons (wpAny_Call_ofName (W.sorted.load hG₁ eo₁.kind eo₁.glob eo₁.blt (hk _ rfl) (by decide) ?_)) rfl)
  refine callWith_builtin_kwB (by rfl) (by rfl) (evalArgs_kw2 (by rfl) ?_ rfl)
  refine wpAny_items_cons (wp_up (la (l := p0) (by decide) (by decide) rfl X env s₁ hs hG₁ eo₁) fun v0 s₂ h₂ => wpAny_items_nil ?_) rfl
  obtain ⟨g₂, r0⟩ := h₂
  have hG₂ := KG.keeps _ _ hG₁ g₂.kp
  have eo₂ := eo₁.gw KG g₂ hG₁
  have T₂ := T₁.gw0 (.inr rfl) g₂
  refine wpAny_evalAll_cons (wpAny_bind (lam_new (params := lamArgs lam11) (body := lamBody lam11) (scope := lamScope lam11) (pos := lamPos lam11) W TF (.inr rfl) hG₂ eo₂ hc (W.hdL _ hG₂) rfl (by decide) T₂ fun kf s₃ pm k ct g₃ hG₃ T₃ _ rk => wpAny_bind (wpAny_standAt (wpAny_pure (wpAny_evalAll_nil ?_)))))
  have eo₃ := eo₂.tab (.inr rfl) g₃ (tab_some KG hG₃ (.inr rfl))
  have r0₃ := r0.gp (.inr rfl) eo₂.xt g₃.none
  show wpAny _ _ (call (.builtin "sorted") ([] ++ [v0]) [(("key" : Str), kf)]) _ _ _
  rw [List.nil_append]
  obtain ⟨bb, bL, bl, bt, bo, be⟩ := hbig
  have be₃ : s₃.heap.get? bb = some bo := g₃.keep _ _ (fun z => z) (fun z => bt (z ▸ .inr rfl)) (g₂.kp.keep _ _ (fun z => z) bt (g₁.kp.keep _ _ (fun z => z) bt be))
  refine wp_up (sorted_neg W hl hG₃ eo₃ r0₃ rk (neg_fn _ _ _ _) a0 l0.1 l0.2 ⟨bb, bo, bL, bl, be₃⟩) fun u0 s₄ h₄ => ?_
  obtain ⟨g₄, hG₄, eo₄, S0, q1, q2, ru0⟩ := h₄
  have e0 := hS0 S0 q1 q2
  subst e0
  refine wpAny_items_cons (call_name KG W.KI hs hG₄ eo₄ rfl W.sorted (.b _) (ds := [.list (p1.map prD)]) (.cons KG (la (by decide) (by decide) rfl) .nil) (fun vs s₅ hG₅ g₅ eo₅ r => ?_) (fun _ => rfl) (fun _ => rfl) (by decide)) rfl
  obtain ⟨v1, us, rfl, r1, r2⟩ := r.consInv
  rw [r2.nilInv]
  refine wp_up (sorted_pairs W hG₅ eo₅ r1 a1 l1.1 l1.2) fun u1 s₆ h₆ => wpAny_items_nil ?_
  obtain ⟨g₆, hG₆, eo₆, S1, w1, w2, ru1⟩ := h₆
  have e1 := hS1 S1 w1 w2
  subst e1
  have kp : ∀ b o, s₆.heap.get? b = some o → (s₆.heap.push { cls := .type "list", data := .seq #[u0, u1] }).get? b = some o := fun b o q => Heap.get?_push_of_some _ q
  have g₇ : Gw noX s₆ { s₆ with heap := s₆.heap.push { cls := .type "list", data := .seq #[u0, u1] } } := .push
  have hG₇ := KG.keeps _ _ hG₆ g₇.kp
  have eo₇ := eo₆.gw KG g₇ hG₆
  have gs : Gw (Own env) s₄ s₆ := g₅.none.trans g₆
  refine ⟨by show 2 ≤ sizeLine; rw [PySem.sizeLine_eq]; omega, ?_⟩
  have ru0₆ := ru0.gw eo₄.xt (gs.wide fun a ha => (own_X eo₄ ha).1)
  have rl : Rd X (s₆.heap.push { cls := .type "list", data := .seq #[u0, u1] }) (.ref s₆.heap.objs.size) (.list [.list ((rowF true p0).map prD), .list ((rowF false p1).map prD)]) :=
    RdAll.list (vs := [u0, u1]) eo₆.xok.fresh (Heap.get?_push_size _ rfl) (.cons (ru0₆.mono fun b o _ q => kp b o q) (.one (ru1.mono fun b o _ q => kp b o q)))
  have ra₇ : Rd X (s₆.heap.push { cls := .type "list", data := .seq #[u0, u1] }) va (.list [.list ((rowF true p0).map prD), .list ((rowF false p1).map prD)]) :=
    ((((ra.gw eo₁.xt g₂.none).gp (.inr rfl) eo₂.xt g₃.none).gw eo₃.xt (g₄.wide fun a ha => (own_X eo₃ ha).1)).gw eo₄.xt (gs.wide fun a ha => (own_X eo₄ ha).1)).mono fun b o _ q => kp b o q
  refine wp_up ((CmpOk.neSame (c := c) hl.lim ((cmpN_two (rowF true p0) (rowF false p1)).cmpd (by decide))) X { s₆ with heap := s₆.heap.push { cls := .type "list", data := .seq #[u0, u1] } } va _ hG₇ eo₇.xok ra₇ rl) fun b s₈ h₈ => ?_
  obtain ⟨g₈, rb⟩ := h₈
  rw [rb.boolInv]
  refine wpAny_truthy_bool ?_
  have ow : ∀ a, Own env a → X a := fun a ha => (own_X eo ha).1
  have no : ∀ a, noX a → X a := fun a z => z.elim
  have F : Fx X s s₈ := (((((((Fx.gw eo.xt no g₁).trans (Fx.gw eo.xt no g₂)).trans (Fx.gp eo.xt (.inr rfl) no g₃)).trans (Fx.gw eo.xt ow g₄)).trans (Fx.gw eo.xt no g₅)).trans (Fx.gw eo.xt ow g₆)).trans (Fx.gw eo.xt no g₇)).trans (Fx.gw eo.xt no g₈)
  exact wpAny_execs_nil (h s₈ F (KG.keeps _ _ hG₇ g₈.kp) (eo₇.gw KG g₈ hG₇))
end
end Mine
end
namespace Mine
theorem bis_spec (p : Nat → Bool) (N : Nat) (hm : ∀ i j, i ≤ j → j < N → p i = true → p j = true) : ∀ (k lo hi : Nat), hi - lo ≤ k → lo ≤ hi → hi ≤ N → (∀ i, i < lo → p i = false) → (∀ i, hi ≤ i → i < N → p i = true) →
    (bis p k lo hi ≤ N ∧ (∀ i, i < bis p k lo hi → p i = false) ∧ ∀ i, bis p k lo hi ≤ i → i < N → p i = true)
  | 0, lo, hi, h1, h2, h3, h4, h5 => by
    have : lo = hi := by omega
    subst this
    exact ⟨h3, h4, h5⟩
  | k + 1, lo, hi, h1, h2, h3, h4, h5 => by
    unfold bis
    by_cases h : lo < hi
    · rw [if_pos h]
      by_cases hp : p ((lo + hi) / 2) = true
      · rw [if_pos hp]
        exact bis_spec p N hm k lo ((lo + hi) / 2) (by omega) (by omega) (by omega) h4 (fun i a b => hm _ _ a b hp)
      · rw [if_neg hp]
        refine bis_spec p N hm k ((lo + hi) / 2 + 1) hi (by omega) (by omega) h3 (fun i a => ?_) h5
        cases q : p i with
        | false => rfl
        | true => exact absurd (hm i ((lo + hi) / 2) (by omega) (by omega) q) hp
    · rw [if_neg h]
      exact ⟨by omega, h4, fun i a b => h5 i (by omega) b⟩
theorem bis_all (p : Nat → Bool) (N : Nat) (hm : ∀ i j, i ≤ j → j < N → p i = true → p j = true) : bis p N 0 N ≤ N ∧ (∀ i, i < bis p N 0 N → p i = false) ∧ ∀ i, bis p N 0 N ≤ i → i < N → p i = true :=
  bis_spec p N hm N 0 N (by omega) (by omega) (by omega) (fun i h => absurd h (by omega)) (fun i a b => absurd b (by omega))
/-- a cut tells how many there are below it -/
theorem cut_count {α : Type} (q : α → Bool) (d : α) : ∀ (xs : List α) (r : Nat), r ≤ xs.length → (∀ i, i < r → q (xs.getD i d) = true) → (∀ i, r ≤ i → i < xs.length → q (xs.getD i d) = false) → xs.countP q = r
  | [], r, h, _, _ => by simp at h; simp [h]
  | x :: xs, 0, h, h1, h2 => by
    have h0 := h2 0 (Nat.le_refl _) (by simp)
    rw [List.getD_cons_zero] at h0
    rw [List.countP_cons_of_neg (by rw [h0]; decide)]
    exact cut_count q d xs 0 (by omega) (fun i a => absurd a (by omega)) fun i a b => by have := h2 (i + 1) (by omega) (by rw [List.length_cons]; omega); rwa [List.getD_cons_succ] at this
  | x :: xs, r + 1, h, h1, h2 => by
    have h0 := h1 0 (by omega)
    rw [List.getD_cons_zero] at h0
    rw [List.countP_cons_of_pos h0, cut_count q d xs r (by rw [List.length_cons] at h; omega) (fun i a => by have := h1 (i + 1) (by omega); rwa [List.getD_cons_succ] at this) fun i a b => by have := h2 (i + 1) (by omega) (by rw [List.length_cons]; omega); rwa [List.getD_cons_succ] at this]
theorem sorted_getD {xs : List Int} (h : xs.Pairwise (· ≤ ·)) {i j : Nat} (hij : i ≤ j) (hj : j < xs.length) : xs.getD i 0 ≤ xs.getD j 0 := by
  by_cases q : i = j
  · subst q; exact Int.le_refl _
  · have := List.pairwise_iff_getElem.mp h i j (by omega) hj (by omega)
    have e1 : xs.getD i 0 = xs[i]'(by omega) := by simp [List.getD, List.getElem?_eq_getElem (show i < xs.length by omega)]
    have e2 : xs.getD j 0 = xs[j] := by simp [List.getD, List.getElem?_eq_getElem hj]
    rw [e1, e2]; exact this
theorem br_count {xs : List Int} (h : xs.Pairwise (· ≤ ·)) (x : Int) : brN xs x = xs.countP fun y => decide (y ≤ x) := by
  obtain ⟨h1, h2, h3⟩ := bis_all (fun i => decide (x < xs.getD i 0)) xs.length fun i j a b q => by
    have := sorted_getD h a b
    have := of_decide_eq_true q
    exact decide_eq_true (by omega)
  refine (cut_count _ 0 xs _ h1 (fun i a => ?_) fun i a b => ?_).symm
  · have := of_decide_eq_false (h2 i a)
    exact decide_eq_true (by omega)
  · have := of_decide_eq_true (h3 i a b)
    exact decide_eq_false (by omega)
theorem bl_count {xs : List Int} (h : xs.Pairwise (· ≤ ·)) (x : Int) : blN xs x = xs.countP fun y => decide (y < x) := by
  obtain ⟨h1, h2, h3⟩ := bis_all (fun i => !decide (xs.getD i 0 < x)) xs.length fun i j a b q => by
    have := sorted_getD h a b
    simp only [Bool.not_eq_true', decide_eq_false_iff_not] at q ⊢
    omega
  refine (cut_count _ 0 xs _ h1 (fun i a => ?_) fun i a b => ?_).symm
  · have := h2 i a
    simpa using this
  · have := h3 i a b
    simpa using this
/-- all sums of two -/
def sums (f s : List Int) : List Int := f.flatMap fun p => s.map fun q => p + q
theorem countP_sums (c : Int → Bool) (f s : List Int) : (sums f s).countP c = (f.map fun p => (s.countP fun q => c (p + q))).sum := by
  unfold sums
  rw [List.countP_flatMap]
  congr 1
  apply List.map_congr_left
  intro p _
  show (List.map (fun q => p + q) s).countP c = _
  rw [List.countP_map]; rfl
theorem casts_sum : ∀ l : List Nat, ((l.sum : Nat) : Int) = (l.map fun (n : Nat) => (n : Int)).sum
  | [] => rfl
  | n :: l => by rw [List.sum_cons, List.map_cons, List.sum_cons, Int.natCast_add, casts_sum l]
theorem br_sums {r0 f s : List Int} (h : r0.Pairwise (· ≤ ·)) (hs : s.Pairwise (· ≤ ·)) (hp : r0.Perm (sums f s)) : r0.map (fun m => ((brN r0 m : Nat) : Int)) = r0.map fun m => (f.map fun p => ((brN s (m - p) : Nat) : Int)).sum := by
  apply List.map_congr_left
  intro m _
  rw [br_count h, hp.countP_eq, countP_sums, casts_sum, List.map_map]
  congr 1
  apply List.map_congr_left
  intro p _
  show ((s.countP (fun q => decide (p + q ≤ m)) : Nat) : Int) = _
  rw [br_count hs]
  congr 2
  funext q
  exact decide_eq_decide.mpr (by omega)
theorem bl_sums {r0 f s : List Int} (h : r0.Pairwise (· ≤ ·)) (hs : s.Pairwise (· ≤ ·)) (hp : r0.Perm (sums f s)) : r0.map (fun m => ((blN r0 m : Nat) : Int)) = r0.map fun m => (f.map fun p => ((blN s (m - p) : Nat) : Int)).sum := by
  apply List.map_congr_left
  intro m _
  rw [bl_count h, hp.countP_eq, countP_sums, casts_sum, List.map_map]
  congr 1
  apply List.map_congr_left
  intro p _
  show ((s.countP (fun q => decide (p + q < m)) : Nat) : Int) = _
  rw [bl_count hs]
  congr 2
  funext q
  exact decide_eq_decide.mpr (by omega)
end Mine
namespace Mine
theorem insAt_perm {α : Type} (l : List α) (k : Nat) (x : α) : (insAt l k x).Perm (x :: l) := by
  unfold insAt
  have h1 : (l.take k ++ x :: l.drop k).Perm (x :: (l.take k ++ l.drop k)) := List.perm_middle
  rwa [List.take_append_drop] at h1
theorem insAt_sorted {α : Type} (κ : α → Int) {l : List α} (h : l.Pairwise fun a b => κ a < κ b) (k : Nat) (x : α) (h1 : ∀ a ∈ l.take k, κ a < κ x) (h2 : ∀ a ∈ l.drop k, κ x < κ a) : (insAt l k x).Pairwise fun a b => κ a < κ b := by
  have hl := h
  rw [← List.take_append_drop k l, List.pairwise_append] at hl
  unfold insAt
  rw [List.pairwise_append]
  refine ⟨hl.1, .cons h2 hl.2.1, fun a ha b hb => ?_⟩
  rcases List.mem_cons.mp hb with rfl | hb
  · exact h1 a ha
  · exact hl.2.2 a ha b hb
theorem uniqK {α : Type} (κ : α → Int) : ∀ {a b : List α}, a.Perm b → a.Pairwise (fun x y => κ x < κ y) → b.Pairwise (fun x y => κ x < κ y) → a = b
  | [], _, p, _, _ => p.nil_eq
  | x :: r, b, p, ha, hb => by
    cases b with
    | nil => exact absurd p.length_eq (by simp)
    | cons y t =>
      have hx : x ∈ y :: t := p.mem_iff.mp (.head _)
      have hy : y ∈ x :: r := p.mem_iff.mpr (.head _)
      have e : x = y := by
        rcases List.mem_cons.mp hx with h | h
        · exact h
        · rcases List.mem_cons.mp hy with h' | h'
          · exact h'.symm
          · have a1 := (List.pairwise_cons.mp ha).1 y h'
            have a2 := (List.pairwise_cons.mp hb).1 x h
            omega
      subst e
      rw [uniqK κ (List.Perm.cons_inv p) (List.pairwise_cons.mp ha).2 (List.pairwise_cons.mp hb).2]
theorem getD_mem_take {α : Type} {d : α} {l : List α} {k : Nat} {a : α} (h : a ∈ l.take k) : ∃ i, i < k ∧ i < l.length ∧ l.getD i d = a := by
  obtain ⟨i, hi, e⟩ := List.mem_iff_getElem.mp h
  rw [List.length_take] at hi
  refine ⟨i, by omega, by omega, ?_⟩
  rw [List.getElem_take] at e
  simp [List.getD, List.getElem?_eq_getElem (show i < l.length by omega), e]
theorem getD_mem_drop {α : Type} {d : α} {l : List α} {k : Nat} {a : α} (h : a ∈ l.drop k) : ∃ i, k ≤ i ∧ i < l.length ∧ l.getD i d = a := by
  obtain ⟨i, hi, e⟩ := List.mem_iff_getElem.mp h
  rw [List.length_drop] at hi
  refine ⟨k + i, by omega, by omega, ?_⟩
  rw [List.getElem_drop] at e
  simp [List.getD, List.getElem?_eq_getElem (show k + i < l.length by omega), e]
theorem pw_getD {α : Type} {d : α} {R : α → α → Prop} {l : List α} (h : l.Pairwise R) {i j : Nat} (hij : i < j) (hj : j < l.length) : R (l.getD i d) (l.getD j d) := by
  have := List.pairwise_iff_getElem.mp h i j (by omega) hj hij
  have e1 : l.getD i d = l[i]'(by omega) := by simp [List.getD, List.getElem?_eq_getElem (show i < l.length by omega)]
  have e2 : l.getD j d = l[j] := by simp [List.getD, List.getElem?_eq_getElem hj]
  rw [e1, e2]; exact this
theorem getD_mem {α : Type} {d : α} {l : List α} {i : Nat} (h : i < l.length) : l.getD i d ∈ l := by
  have e1 : l.getD i d = l[i] := by simp [List.getD, List.getElem?_eq_getElem h]
  rw [e1]; exact List.getElem_mem h
/-- one more, behind all that came before it -/
def After (acc : List (Int × Int)) (p : Int × Int) : Prop := (∀ q ∈ acc, 0 ≤ q.2 ∧ q.2 < p.2) ∧ p.2 ≤ 8
theorem left_step {acc : List (Int × Int)} {p : Int × Int} (h : acc.Pairwise fun a b => keyP (negP a) < keyP (negP b)) (ha : After acc p) : (insAt acc (lIx acc p.1) p).Pairwise fun a b => keyP (negP a) < keyP (negP b) := by
  have mono : ∀ i j, i < j → j < acc.length → (acc.getD i (0, 0)).1 ≤ (acc.getD j (0, 0)).1 := fun i j hij hj => by
    have := pw_getD (d := (0, 0)) h hij hj
    have a1 := ha.1 _ (getD_mem (d := (0, 0)) (show i < acc.length by omega))
    have a2 := ha.1 _ (getD_mem (d := (0, 0)) hj)
    have := ha.2
    unfold keyP negP at *
    omega
  obtain ⟨h1, h2, h3⟩ := bis_all (fun i => !decide ((acc.getD i (0, 0)).1 < p.1)) acc.length fun i j a b q => by
    have m : (acc.getD i (0, 0)).1 ≤ (acc.getD j (0, 0)).1 := by
      by_cases z : i = j
      · subst z; exact Int.le_refl _
      · exact mono i j (by omega) b
    simp only [Bool.not_eq_true', decide_eq_false_iff_not] at q ⊢
    omega
  have hp := ha.2
  refine insAt_sorted (fun a => keyP (negP a)) h _ _ (fun a hm => ?_) (fun a hm => ?_)
  · obtain ⟨i, i1, i2, rfl⟩ := getD_mem_take (d := (0, 0)) hm
    have := h2 i i1
    simp only [Bool.not_eq_false', decide_eq_true_eq] at this
    have a1 := ha.1 _ (getD_mem (d := (0, 0)) i2)
    show keyP (negP _) < keyP (negP p)
    unfold keyP negP
    dsimp only
    omega
  · obtain ⟨i, i1, i2, rfl⟩ := getD_mem_drop (d := (0, 0)) hm
    have := h3 i i1 i2
    simp only [Bool.not_eq_true', decide_eq_false_iff_not] at this
    have a1 := ha.1 _ (getD_mem (d := (0, 0)) i2)
    show keyP (negP p) < keyP (negP _)
    unfold keyP negP
    dsimp only
    omega
theorem right_step {acc : List (Int × Int)} {p : Int × Int} (h : acc.Pairwise fun a b => keyP a < keyP b) (ha : After acc p) : (insAt acc (rIx acc p.1) p).Pairwise fun a b => keyP a < keyP b := by
  have mono : ∀ i j, i < j → j < acc.length → (acc.getD i (0, 0)).1 ≤ (acc.getD j (0, 0)).1 := fun i j hij hj => by
    have := pw_getD (d := (0, 0)) h hij hj
    have a1 := ha.1 _ (getD_mem (d := (0, 0)) (show i < acc.length by omega))
    have a2 := ha.1 _ (getD_mem (d := (0, 0)) hj)
    have := ha.2
    unfold keyP at *
    omega
  obtain ⟨h1, h2, h3⟩ := bis_all (fun i => decide (p.1 < (acc.getD i (0, 0)).1)) acc.length fun i j a b q => by
    have m : (acc.getD i (0, 0)).1 ≤ (acc.getD j (0, 0)).1 := by
      by_cases z : i = j
      · subst z; exact Int.le_refl _
      · exact mono i j (by omega) b
    have := of_decide_eq_true q
    exact decide_eq_true (by omega)
  have hp := ha.2
  refine insAt_sorted keyP h _ _ (fun a hm => ?_) (fun a hm => ?_)
  · obtain ⟨i, i1, i2, rfl⟩ := getD_mem_take (d := (0, 0)) hm
    have := of_decide_eq_false (h2 i i1)
    have a1 := ha.1 _ (getD_mem (d := (0, 0)) i2)
    show keyP _ < keyP p
    unfold keyP
    omega
  · obtain ⟨i, i1, i2, rfl⟩ := getD_mem_drop (d := (0, 0)) hm
    have := of_decide_eq_true (h3 i i1 i2)
    have a1 := ha.1 _ (getD_mem (d := (0, 0)) i2)
    show keyP p < keyP _
    unfold keyP
    omega
/-- the seconds go up, from none below 0 to none above 8 -/
def Rising (ps : List (Int × Int)) : Prop := (ps.Pairwise fun a b => a.2 < b.2) ∧ ∀ a ∈ ps, 0 ≤ a.2 ∧ a.2 ≤ 8
theorem row_go (left : Bool) (κ : Int × Int → Int) (step : ∀ {acc : List (Int × Int)} {p : Int × Int}, acc.Pairwise (fun a b => κ a < κ b) → After acc p → (insAt acc (if left then lIx acc p.1 else rIx acc p.1) p).Pairwise fun a b => κ a < κ b) :
    ∀ (rest done acc : List (Int × Int)), Rising (done ++ rest) → acc.Perm done → acc.Pairwise (fun a b => κ a < κ b) → (rest.foldl (fun acc p => insAt acc (if left then lIx acc p.1 else rIx acc p.1) p) acc).Perm (done ++ rest) ∧ (rest.foldl (fun acc p => insAt acc (if left then lIx acc p.1 else rIx acc p.1) p) acc).Pairwise fun a b => κ a < κ b
  | [], done, acc, hr, hp, hs => by rw [List.append_nil]; exact ⟨hp, hs⟩
  | p :: rest, done, acc, hr, hp, hs => by
    rw [List.foldl_cons]
    have hr' : Rising ((done ++ [p]) ++ rest) := by rw [List.append_assoc]; exact hr
    have ha : After acc p := by
      have h1 := hr.1
      rw [List.pairwise_append] at h1
      refine ⟨fun q hq => ⟨(hr.2 q (List.mem_append_left _ (hp.mem_iff.mp hq))).1, h1.2.2 q (hp.mem_iff.mp hq) p (List.mem_cons_self ..)⟩, (hr.2 p (List.mem_append_right _ (List.mem_cons_self ..))).2⟩
    have := row_go left κ step rest (done ++ [p]) (insAt acc (if left then lIx acc p.1 else rIx acc p.1) p) hr' ((insAt_perm _ _ _).trans ((hp.cons p).trans (List.perm_append_singleton p done).symm)) (step hs ha)
    rw [List.append_assoc] at this
    exact this
theorem row_left {ps : List (Int × Int)} (h : Rising ps) : (rowF true ps).Perm ps ∧ (rowF true ps).Pairwise fun a b => keyP (negP a) < keyP (negP b) := row_go true (fun a => keyP (negP a)) (fun h ha => left_step h ha) ps [] [] h (.refl _) .nil
theorem row_right {ps : List (Int × Int)} (h : Rising ps) : (rowF false ps).Perm ps ∧ (rowF false ps).Pairwise fun a b => keyP a < keyP b := row_go false keyP (fun h ha => right_step h ha) ps [] [] h (.refl _) .nil
theorem left_firsts {ps : List (Int × Int)} (h : Rising ps) : ((rowF true ps).map (·.1)).Perm (ps.map (·.1)) ∧ ((rowF true ps).map (·.1)).Pairwise (· ≤ ·) := by
  obtain ⟨h1, h2⟩ := row_left h
  refine ⟨h1.map _, ?_⟩
  rw [List.pairwise_map]
  refine h2.imp_of_mem fun {a b} ha hb hk => ?_
  have a1 := h.2 a (h1.mem_iff.mp ha)
  have b1 := h.2 b (h1.mem_iff.mp hb)
  unfold keyP negP at hk
  dsimp only at hk
  omega
theorem right_firsts {ps : List (Int × Int)} (h : Rising ps) : ((rowF false ps).map (·.1)).Perm (ps.map (·.1)) ∧ ((rowF false ps).map (·.1)).Pairwise (· ≤ ·) := by
  obtain ⟨h1, h2⟩ := row_right h
  refine ⟨h1.map _, ?_⟩
  rw [List.pairwise_map]
  refine h2.imp_of_mem fun {a b} ha hb hk => ?_
  have a1 := h.2 a (h1.mem_iff.mp ha)
  have b1 := h.2 b (h1.mem_iff.mp hb)
  unfold keyP at hk
  omega
end Mine
namespace Mine
def ints9 : List Int := [0, 1, 2, 3, 4, 5, 6, 7, 8]
def spotOf (f sm : List Int) (x : Int) : Int := f.getD (x.fdiv 3).toNat 0 + sm.getD (x.fmod 3).toNat 0
theorem laid_firsts (f sm spots : List Int) : (laidI f sm spots).map (·.1) = spots.map (spotOf f sm) := by
  unfold laidI
  rw [List.map_map]
  apply List.ext_getElem?
  intro i
  rw [List.getElem?_map, List.getElem?_map, List.getElem?_zipIdx]
  cases spots[i]? with
  | none => rfl
  | some a => rfl
theorem laid_len (f sm spots : List Int) : (laidI f sm spots).length = spots.length := by unfold laidI; rw [List.length_map, List.length_zipIdx]
theorem laid_at (f sm spots : List Int) {i : Nat} (h : i < spots.length) : ((laidI f sm spots).getD i (0, 0)).2 = (i : Int) := by
  unfold laidI
  rw [List.getD, List.getElem?_map, List.getElem?_zipIdx, List.getElem?_eq_getElem h]
  show ((0 + i : Nat) : Int) = _
  omega
theorem laid_snd (f sm spots : List Int) {i : Nat} (h : i < (laidI f sm spots).length) : ((laidI f sm spots)[i]).2 = (i : Int) := by
  have := laid_at f sm spots (i := i) (by rw [← laid_len f sm spots]; exact h)
  rw [← this]
  simp [List.getD, List.getElem?_eq_getElem h]
theorem laid_rising (f sm : List Int) {spots : List Int} (h : spots.length = 9) : Rising (laidI f sm spots) := by
  have hl := laid_len f sm spots
  refine ⟨?_, fun a ha => ?_⟩
  · rw [List.pairwise_iff_getElem]
    intro i j hi hj hij
    rw [laid_snd f sm spots hi, laid_snd f sm spots hj]
    omega
  · obtain ⟨i, hi, rfl⟩ := List.mem_iff_getElem.mp ha
    rw [laid_snd f sm spots hi]
    omega
theorem laid_apart (f sm : List Int) {spots : List Int} (h : spots.length = 9) : Apart9 (laidI f sm spots) := by
  have hl := laid_len f sm spots
  refine ⟨fun i j hi hj => ?_, fun i j hi hj hij => ?_⟩
  · rw [laid_at f sm spots (by omega), laid_at f sm spots (by omega)]; omega
  · rw [laid_at f sm spots (by omega), laid_at f sm spots (by omega)]; omega
theorem neg_getD (ps : List (Int × Int)) (i : Nat) : ((ps.map negP).getD i (0, 0)).2 = -(ps.getD i (0, 0)).2 := by
  rw [List.getD, List.getD, List.getElem?_map]
  cases ps[i]? with
  | none => rfl
  | some a => rfl
theorem laid_apart_neg (f sm : List Int) {spots : List Int} (h : spots.length = 9) : Apart9 ((laidI f sm spots).map negP) := by
  have hl := laid_len f sm spots
  refine ⟨fun i j hi hj => ?_, fun i j hi hj hij => ?_⟩
  · rw [List.length_map] at hi hj
    rw [neg_getD, neg_getD, laid_at f sm spots (by omega), laid_at f sm spots (by omega)]; omega
  · rw [List.length_map] at hi hj
    rw [neg_getD, neg_getD, laid_at f sm spots (by omega), laid_at f sm spots (by omega)]; omega
theorem spots_dec : (([1, 2, 4, 5, 7, 8] : List Int).all fun st => ints9.all fun r => ((List.range 9).map fun (t : Nat) => ((t : Int) * st + r).fmod 9).isPerm ints9) = true := by decide +kernel
theorem stepI_mem (c2 : Int) : stepI c2 ∈ ([1, 2, 4, 5, 7, 8] : List Int) := by
  unfold stepI
  have hb := fmod_b c2 (k := 6) (by decide)
  exact getD_mem (show (c2.fmod 6).toNat < 6 by omega)
theorem fmod_add (a b : Int) : (a + b).fmod 9 = (a + b.fmod 9).fmod 9 := by
  rw [Int.fmod_eq_emod_of_nonneg _ (by decide), Int.fmod_eq_emod_of_nonneg _ (by decide), Int.fmod_eq_emod_of_nonneg _ (by decide)]
  omega
theorem spots_perm (c2 c3 : Int) : (spotsI (stepI c2) c3).Perm ints9 := by
  have h := List.all_eq_true.mp spots_dec _ (stepI_mem c2)
  have hb := fmod_b c3 (k := 9) (by decide)
  have hm : c3.fmod 9 ∈ ints9 := by
    unfold ints9
    simp only [List.mem_cons, List.not_mem_nil, or_false]
    omega
  have h2 := List.all_eq_true.mp h _ hm
  have : spotsI (stepI c2) c3 = (List.range 9).map fun (t : Nat) => ((t : Int) * stepI c2 + c3.fmod 9).fmod 9 := by
    unfold spotsI
    apply List.map_congr_left
    intro t _
    exact fmod_add _ _
  rw [this]
  exact List.isPerm_iff.mp h2
theorem spots_len (st c3 : Int) : (spotsI st c3).length = 9 := by unfold spotsI; rw [List.length_map, List.length_range]
theorem sums_nine (a b c x y z : Int) : ints9.map (spotOf [a, b, c] [x, y, z]) = sums [a, b, c] [x, y, z] := rfl
theorem laid_sums (a b c x y z : Int) (c2 c3 : Int) : ((laidI [a, b, c] [x, y, z] (spotsI (stepI c2) c3)).map (·.1)).Perm (sums [a, b, c] [x, y, z]) := by
  rw [laid_firsts, ← sums_nine]
  exact (spots_perm c2 c3).map _
end Mine
namespace Mine
theorem getD_set (l : List Int) (b i : Nat) (v : Int) (hb : b < l.length) : (l.set b v).getD i 0 = if i = b then v else l.getD i 0 := by
  rw [List.getD, List.getD, List.getElem?_set]
  by_cases h : b = i
  · subst h; simp [hb]
  · rw [if_neg h, if_neg (fun z => h z.symm)]
theorem getD_grow (l : List Int) (k i : Nat) : (l ++ List.replicate k 0).getD i 0 = l.getD i 0 := by
  rw [List.getD, List.getD]
  by_cases h : i < l.length
  · rw [List.getElem?_append_left h]
  · rw [List.getElem?_append_right (by omega), List.getElem?_eq_none (show l.length ≤ i by omega), List.getElem?_replicate]
    split <;> rfl
theorem bump_get (cs : List Int) (b i : Nat) : (bump cs b).getD i 0 = cs.getD i 0 + if i = b then 1 else 0 := by
  unfold bump
  by_cases h : cs.length ≤ b
  · simp only [if_pos h]
    rw [getD_set _ _ _ _ (by rw [List.length_append, List.length_replicate]; omega), getD_grow, getD_grow]
    by_cases q : i = b
    · subst q; simp
    · simp [q]
  · simp only [if_neg h]
    rw [getD_set _ _ _ _ (by omega)]
    by_cases q : i = b
    · subst q; simp
    · simp [q]
theorem bump_len (cs : List Int) (b : Nat) : (bump cs b).length = max cs.length (b + 1) := by
  unfold bump
  by_cases h : cs.length ≤ b
  · simp only [if_pos h]
    rw [List.length_set, List.length_append, List.length_replicate]; omega
  · simp only [if_neg h]
    rw [List.length_set]; omega
theorem sum_set : ∀ (l : List Int) (b : Nat), b < l.length → (l.set b (l.getD b 0 + 1)).sum = l.sum + 1
  | x :: l, 0, _ => by
    rw [List.getD_cons_zero, List.set_cons_zero, List.sum_cons, List.sum_cons]; omega
  | x :: l, b + 1, h => by
    rw [List.getD_cons_succ, List.set_cons_succ, List.sum_cons, List.sum_cons, sum_set l b (by rw [List.length_cons] at h; omega)]; omega
theorem sum_zero (k : Nat) : (List.replicate k (0 : Int)).sum = 0 := by
  induction k with
  | zero => rfl
  | succ k ih => rw [List.replicate_succ, List.sum_cons, ih]; rfl
theorem bump_sum (cs : List Int) (b : Nat) : (bump cs b).sum = cs.sum + 1 := by
  unfold bump
  by_cases h : cs.length ≤ b
  · simp only [if_pos h]
    rw [sum_set _ _ (by rw [List.length_append, List.length_replicate]; omega), List.sum_append, sum_zero]; omega
  · simp only [if_neg h]
    rw [sum_set _ _ (by omega)]
theorem from_get : ∀ (runs cs : List Int) (i : Nat), (∀ r ∈ runs, 0 ≤ r) → (countsFrom cs runs).getD i 0 = cs.getD i 0 + ((runs.count (i : Int) : Nat) : Int)
  | [], cs, i, _ => by simp [countsFrom]
  | r :: runs, cs, i, h => by
    show (countsFrom (bump cs r.toNat) runs).getD i 0 = _
    rw [from_get runs _ i fun x hx => h x (List.mem_cons_of_mem _ hx), bump_get, List.count_cons]
    have h0 := h r (List.mem_cons_self ..)
    by_cases q : i = r.toNat
    · have : (r == (i : Int)) = true := by rw [beq_iff_eq]; omega
      rw [if_pos q, if_pos this]; omega
    · have : ¬ (r == (i : Int)) = true := by rw [beq_iff_eq]; omega
      rw [if_neg q, if_neg this]; omega
theorem from_len : ∀ (runs cs : List Int), cs.length ≤ (countsFrom cs runs).length ∧ (∀ r ∈ runs, r.toNat < (countsFrom cs runs).length) ∧ ((countsFrom cs runs).length = cs.length ∨ ∃ r ∈ runs, (countsFrom cs runs).length = r.toNat + 1)
  | [], cs => by
    refine ⟨Nat.le_refl _, ?_, Or.inl rfl⟩
    intro r hr
    cases hr
  | r :: runs, cs => by
    obtain ⟨h1, h2, h3⟩ := from_len runs (bump cs r.toNat)
    have hb := bump_len cs r.toNat
    show cs.length ≤ (countsFrom (bump cs r.toNat) runs).length ∧ (∀ x ∈ r :: runs, x.toNat < (countsFrom (bump cs r.toNat) runs).length) ∧ ((countsFrom (bump cs r.toNat) runs).length = cs.length ∨ ∃ x ∈ r :: runs, (countsFrom (bump cs r.toNat) runs).length = x.toNat + 1)
    refine ⟨by omega, fun x hx => ?_, ?_⟩
    · rcases List.mem_cons.mp hx with rfl | hx
      · omega
      · exact h2 x hx
    · rcases h3 with h3 | ⟨x, hx, h3⟩
      · by_cases q : cs.length ≤ r.toNat
        · exact .inr ⟨r, List.mem_cons_self .., by omega⟩
        · exact .inl (by omega)
      · exact .inr ⟨x, List.mem_cons_of_mem _ hx, h3⟩
theorem from_sum : ∀ (runs cs : List Int), (countsFrom cs runs).sum = cs.sum + runs.length
  | [], cs => by simp [countsFrom]
  | r :: runs, cs => by
    show (countsFrom (bump cs r.toNat) runs).sum = _
    rw [from_sum runs, bump_sum, List.length_cons]; omega
theorem counts_get {runs : List Int} (h : ∀ r ∈ runs, 0 ≤ r) (i : Nat) : (counts runs).getD i 0 = ((runs.count (i : Int) : Nat) : Int) := by
  unfold counts; rw [from_get runs [] i h]; simp
theorem counts_lt {runs : List Int} : ∀ r ∈ runs, r.toNat < (counts runs).length := (from_len runs []).2.1
theorem counts_len {runs : List Int} : (counts runs).length = 0 ∨ ∃ r ∈ runs, (counts runs).length = r.toNat + 1 := (from_len runs []).2.2
theorem counts_sum (runs : List Int) : (counts runs).sum = runs.length := by unfold counts; rw [from_sum]; simp
theorem ext_getD {a b : List Int} (hl : a.length = b.length) (h : ∀ i, i < a.length → a.getD i 0 = b.getD i 0) : a = b := by
  apply List.ext_getElem hl
  intro i h1 h2
  have := h i h1
  simpa [List.getD, List.getElem?_eq_getElem h1, List.getElem?_eq_getElem h2] using this
theorem counts_len_le {xs ys : List Int} (h : xs.Perm ys) : (counts xs).length ≤ (counts ys).length := by
  rcases counts_len (runs := xs) with e | ⟨r, hr, e⟩
  · omega
  · have := counts_lt (runs := ys) r (h.mem_iff.mp hr); omega
theorem counts_perm {xs ys : List Int} (hx : ∀ r ∈ xs, 0 ≤ r) (hy : ∀ r ∈ ys, 0 ≤ r) (h : xs.Perm ys) : counts xs = counts ys := by
  refine ext_getD (Nat.le_antisymm (counts_len_le h) (counts_len_le h.symm)) fun i _ => ?_
  rw [counts_get hx, counts_get hy, h.count_eq]
theorem perm_counts {xs ys : List Int} (hx : ∀ r ∈ xs, 0 ≤ r) (hy : ∀ r ∈ ys, 0 ≤ r) (h : counts xs = counts ys) : xs.Perm ys := by
  rw [List.perm_iff_count]
  intro d
  by_cases hd : 0 ≤ d
  · have h1 := counts_get hx d.toNat
    have h2 := counts_get hy d.toNat
    rw [Int.toNat_of_nonneg hd] at h1 h2
    rw [h] at h1
    omega
  · rw [List.count_eq_zero.mpr fun z => hd (hx _ z), List.count_eq_zero.mpr fun z => hd (hy _ z)]
theorem counts_iff {xs ys : List Int} (hx : ∀ r ∈ xs, 0 ≤ r) (hy : ∀ r ∈ ys, 0 ≤ r) : counts xs = counts ys ↔ xs.Perm ys := ⟨perm_counts hx hy, counts_perm hx hy⟩
theorem counts_sorted {xs ys : List Int} (hx : ∀ r ∈ xs, 0 ≤ r) (hy : ∀ r ∈ ys, 0 ≤ r) (hs : xs.Pairwise (· ≤ ·)) : decide (counts xs = counts ys) = decide (isort ys = xs) := by
  apply decide_eq_decide.mpr
  rw [counts_iff hx hy]
  exact ⟨fun p => (isort_eq p hs).symm, fun e => e ▸ isort_perm ys⟩
end Mine
section
set_option maxRecDepth 100000
namespace Mine
def diffs (R : List Int) : List Int := R.flatMap fun x => R.map fun y => x - y
noncomputable def runsL : List Int → List Int
  | [] => []
  | x :: r => (r.map fun y => y - x) ++ runsL r
theorem count_flat (d : Int) (g : Int → Int) (h : Int → List Int) : ∀ r : List Int, (r.flatMap fun a => g a :: h a).count d = (r.map g).count d + (r.flatMap h).count d
  | [] => rfl
  | a :: r => by
    rw [List.flatMap_cons, List.flatMap_cons, List.map_cons, List.count_append, List.count_append, List.count_cons, List.count_cons, count_flat d g h r]
    omega
theorem diffs_cons (x : Int) (r : List Int) (d : Int) : (diffs (x :: r)).count d = (if (x - x == d) = true then 1 else 0) + (r.map fun y => x - y).count d + (r.map fun y => y - x).count d + (diffs r).count d := by
  unfold diffs
  rw [List.flatMap_cons, List.count_append, List.map_cons, List.count_cons]
  have : (fun a => List.map (fun y => a - y) (x :: r)) = fun a => (a - x) :: r.map fun y => a - y := rfl
  rw [this, count_flat]
  omega
theorem diffs_pos : ∀ {R : List Int}, R.Pairwise (· ≤ ·) → ∀ d : Int, 0 < d → (diffs R).count d = (runsL R).count d
  | [], _, d, _ => rfl
  | x :: r, h, d, hd => by
    obtain ⟨h1, h2⟩ := List.pairwise_cons.mp h
    rw [diffs_cons, diffs_pos h2 d hd, runsL, List.count_append]
    have z : (r.map fun y => x - y).count d = 0 := List.count_eq_zero.mpr fun q => by
      obtain ⟨y, hy, e⟩ := List.mem_map.mp q
      have := h1 y hy
      omega
    have z2 : ¬ (x - x == d) = true := by rw [beq_iff_eq]; omega
    rw [if_neg z2, z]; omega
theorem count_refl (x : Int) : ∀ r : List Int, (r.map fun y => x - y).count 0 = (r.map fun y => y - x).count 0
  | [] => rfl
  | y :: r => by
    rw [List.map_cons, List.map_cons, List.count_cons, List.count_cons, count_refl x r]
    by_cases q : x = y
    · subst q; simp
    · have a : ¬ (x - y == 0) = true := by rw [beq_iff_eq]; omega
      have b : ¬ (y - x == 0) = true := by rw [beq_iff_eq]; omega
      rw [if_neg a, if_neg b]
theorem diffs_zero : ∀ {R : List Int}, (diffs R).count 0 = R.length + 2 * (runsL R).count 0
  | [] => rfl
  | x :: r => by
    rw [diffs_cons, diffs_zero, runsL, List.count_append, count_refl, List.length_cons]
    have : (x - x == 0) = true := by rw [beq_iff_eq]; omega
    rw [if_pos this]; omega
def pairs1 : List (Nat × Nat) := (List.range 9).flatMap fun (l : Nat) => (List.range l).flatMap fun (e : Nat) => [(l, e)]
def pairs2 : List (Nat × Nat) := (List.range 9).flatMap fun (e : Nat) => (List.range (8 - e)).map fun (j : Nat) => (e + 1 + j, e)
theorem pairs_perm : pairs1.Perm pairs2 := List.isPerm_iff.mp (by decide +kernel)
theorem runs_pairs (R : List Int) : runsI R = pairs1.map fun p => R.getD p.1 0 - R.getD p.2 0 := by
  unfold runsI pairs1
  simp only [List.map_flatMap, List.map_cons, List.map_nil]
theorem runs_perm {R : List Int} (h : R.length = 9) : (runsI R).Perm (runsL R) := by
  match R, h with
  | [a, b, c, d, e, f, g, h, i], _ =>
    have : runsL [a, b, c, d, e, f, g, h, i] = pairs2.map fun p => [a, b, c, d, e, f, g, h, i].getD p.1 0 - [a, b, c, d, e, f, g, h, i].getD p.2 0 := rfl
    rw [this, runs_pairs]
    exact pairs_perm.map _
theorem flat_perm {f g : Int → List Int} (h : ∀ a, (f a).Perm (g a)) : ∀ l : List Int, (l.flatMap f).Perm (l.flatMap g)
  | [] => .refl _
  | a :: l => by
    rw [List.flatMap_cons, List.flatMap_cons]
    exact (h a).append (flat_perm h l)
theorem diffs_perm {R R' : List Int} (h : R.Perm R') : (diffs R).Perm (diffs R') := by
  unfold diffs
  exact (h.flatMap_right _).trans (flat_perm (fun a => h.map _) _)
abbrev Q4 : Type := Nat × Nat × Nat × Nat
def quads : List Q4 := [0, 1, 2].flatMap fun i => [0, 1, 2].flatMap fun j => [0, 1, 2].flatMap fun k => [0, 1, 2].flatMap fun l => [(i, j, k, l)]
def qA (f s : List Int) (t : Q4) : Int := f.getD t.1 0 - f.getD t.2.1 0 + s.getD t.2.2.1 0 - s.getD t.2.2.2 0
theorem apart_quads (a b c x y z : Int) : apartI [a, b, c] [x, y, z] = quads.map (qA [a, b, c] [x, y, z]) := rfl
theorem diffs_quads (a b c x y z : Int) : diffs (sums [a, b, c] [x, y, z]) = quads.map fun t => ([a, b, c].getD t.1 0 + [x, y, z].getD t.2.1 0) - ([a, b, c].getD t.2.2.1 0 + [x, y, z].getD t.2.2.2 0) := rfl
def sw1 (t : Q4) : Q4 := (t.1, t.2.2.1, t.2.1, t.2.2.2)
def sw2 (t : Q4) : Q4 := (t.1, t.2.2.1, 2 - t.2.2.2, 2 - t.2.1)
theorem sw1_perm : (quads.map sw1).Perm quads := List.isPerm_iff.mp (by decide +kernel)
theorem sw2_perm : (quads.map sw2).Perm quads := List.isPerm_iff.mp (by decide +kernel)
theorem diffs_apart (a b c x y z : Int) : (diffs (sums [a, b, c] [x, y, z])).Perm (apartI [a, b, c] [x, y, z]) := by
  rw [diffs_quads, apart_quads]
  have : (quads.map fun t => ([a, b, c].getD t.1 0 + [x, y, z].getD t.2.1 0) - ([a, b, c].getD t.2.2.1 0 + [x, y, z].getD t.2.2.2 0)) = (quads.map sw1).map (qA [a, b, c] [x, y, z]) := by
    rw [List.map_map]
    apply List.map_congr_left
    intro t _
    show _ = qA [a, b, c] [x, y, z] (sw1 t)
    unfold qA sw1
    dsimp only
    omega
  rw [this]
  exact sw1_perm.map _
theorem quads_lt : (quads.all fun t => decide (t.2.1 < 3) && decide (t.2.2.2 < 3)) = true := by decide +kernel
theorem diffs_turn (a b c u v : Int) : (diffs (sums [a, b, c] [0, 0 + v, 0 + v + u])).Perm (apartI [a, b, c] [0, 0 + u, 0 + u + v]) := by
  rw [diffs_quads, apart_quads]
  have key : ∀ q, q < 3 → [0, 0 + v, 0 + v + u].getD q 0 = (u + v) - [0, 0 + u, 0 + u + v].getD (2 - q) 0 := fun q hq => by
    match q, hq with
    | 0, _ => show (0 : Int) = u + v - (0 + u + v); omega
    | 1, _ => show 0 + v = u + v - (0 + u); omega
    | 2, _ => show 0 + v + u = u + v - 0; omega
  have : (quads.map fun t => ([a, b, c].getD t.1 0 + [0, 0 + v, 0 + v + u].getD t.2.1 0) - ([a, b, c].getD t.2.2.1 0 + [0, 0 + v, 0 + v + u].getD t.2.2.2 0)) = (quads.map sw2).map (qA [a, b, c] [0, 0 + u, 0 + u + v]) := by
    rw [List.map_map]
    apply List.map_congr_left
    intro t ht
    have hq := List.all_eq_true.mp quads_lt t ht
    simp only [Bool.and_eq_true, decide_eq_true_eq] at hq
    show _ = qA [a, b, c] [0, 0 + u, 0 + u + v] (sw2 t)
    rw [key _ hq.1, key _ hq.2]
    unfold qA sw2
    dsimp only
    omega
  rw [this]
  exact sw2_perm.map _
end Mine
end
section
set_option maxRecDepth 100000
namespace Mine
def three (a b : Int) : List Int := [0, 0 + a, 0 + a + b]
theorem sums_len (a b u v : Int) : (sums (three a b) (three u v)).length = 9 := rfl
theorem three_b {a b : Int} (ha : 1 ≤ a) (hb : 1 ≤ b) : ∀ x ∈ three a b, 0 ≤ x ∧ x ≤ a + b := fun x hx => by
  unfold three at hx
  simp only [List.mem_cons, List.not_mem_nil, or_false] at hx
  omega
theorem three_sorted {a b : Int} (ha : 1 ≤ a) (hb : 1 ≤ b) : (three a b).Pairwise (· ≤ ·) := by
  unfold three
  refine .cons (fun x hx => ?_) (.cons (fun x hx => ?_) (.cons (fun x hx => nomatch hx) .nil))
  · simp only [List.mem_cons, List.not_mem_nil, or_false] at hx; omega
  · simp only [List.mem_cons, List.not_mem_nil, or_false] at hx; omega
theorem sums_b {a b u v : Int} (ha : 1 ≤ a) (hb : 1 ≤ b) (hu : 1 ≤ u) (hv : 1 ≤ v) : ∀ x ∈ sums (three a b) (three u v), 0 ≤ x ∧ x ≤ a + b + u + v := fun x hx => by
  unfold sums at hx
  obtain ⟨p, hp, hx⟩ := List.mem_flatMap.mp hx
  obtain ⟨q, hq, rfl⟩ := List.mem_map.mp hx
  have := three_b ha hb p hp
  have := three_b hu hv q hq
  omega
theorem sums_ends (a b u v : Int) : 0 ∈ sums (three a b) (three u v) ∧ a + b + u + v ∈ sums (three a b) (three u v) := by
  unfold sums
  refine ⟨List.mem_flatMap.mpr ⟨0, by simp [three], List.mem_map.mpr ⟨0, by simp [three], rfl⟩⟩, List.mem_flatMap.mpr ⟨0 + a + b, by simp [three], List.mem_map.mpr ⟨0 + u + v, by simp [three], by omega⟩⟩⟩
theorem pairs_ok : (pairs1.all fun p => decide (p.2 < p.1) && decide (p.1 < 9)) = true := by decide +kernel
theorem pairs_last : (8, 0) ∈ pairs1 := by decide +kernel
/-- a row of such sums -/
structure RowOk (a b u v : Int) (R : List Int) : Prop where
  perm : R.Perm (sums (three a b) (three u v))
  up : R.Pairwise (· ≤ ·)
section
variable {a b u v : Int} {R R' : List Int}
theorem RowOk.len (h : RowOk a b u v R) : R.length = 9 := by rw [h.perm.length_eq]; rfl
theorem RowOk.bd (h : RowOk a b u v R) (ha : 1 ≤ a) (hb : 1 ≤ b) (hu : 1 ≤ u) (hv : 1 ≤ v) : ∀ x ∈ R, 0 ≤ x ∧ x ≤ a + b + u + v := fun x hx => sums_b ha hb hu hv x (h.perm.mem_iff.mp hx)
theorem RowOk.at' (h : RowOk a b u v R) (ha : 1 ≤ a) (hb : 1 ≤ b) (hu : 1 ≤ u) (hv : 1 ≤ v) {i : Nat} (hi : i < 9) : 0 ≤ R.getD i 0 ∧ R.getD i 0 ≤ a + b + u + v := h.bd ha hb hu hv _ (getD_mem (by rw [h.len]; exact hi))
theorem RowOk.runs (h : RowOk a b u v R) (ha : 1 ≤ a) (hb : 1 ≤ b) (hu : 1 ≤ u) (hv : 1 ≤ v) : ∀ x ∈ runsI R, 0 ≤ x ∧ x ≤ a + b + u + v := fun x hx => by
  rw [runs_pairs] at hx
  obtain ⟨p, hp, rfl⟩ := List.mem_map.mp hx
  have := List.all_eq_true.mp pairs_ok p hp
  simp only [Bool.and_eq_true, decide_eq_true_eq] at this
  have h1 := h.at' ha hb hu hv (i := p.1) this.2
  have h2 := h.at' ha hb hu hv (i := p.2) (by omega)
  have h3 := sorted_getD h.up (i := p.2) (j := p.1) (by omega) (by rw [h.len]; exact this.2)
  omega
theorem RowOk.first (h : RowOk a b u v R) (ha : 1 ≤ a) (hb : 1 ≤ b) (hu : 1 ≤ u) (hv : 1 ≤ v) : R.getD 0 0 = 0 := by
  obtain ⟨i, hi, e⟩ := List.mem_iff_getElem.mp (h.perm.mem_iff.mpr (sums_ends a b u v).1)
  have e' : R.getD i 0 = 0 := by simp [List.getD, List.getElem?_eq_getElem hi, e]
  have h1 := sorted_getD h.up (i := 0) (j := i) (by omega) hi
  have h2 := h.at' ha hb hu hv (i := 0) (by omega)
  omega
theorem RowOk.last (h : RowOk a b u v R) (ha : 1 ≤ a) (hb : 1 ≤ b) (hu : 1 ≤ u) (hv : 1 ≤ v) : R.getD 8 0 = a + b + u + v := by
  obtain ⟨i, hi, e⟩ := List.mem_iff_getElem.mp (h.perm.mem_iff.mpr (sums_ends a b u v).2)
  have e' : R.getD i 0 = a + b + u + v := by simp [List.getD, List.getElem?_eq_getElem hi, e]
  have hl := h.len
  have h1 := sorted_getD h.up (i := i) (j := 8) (by omega) (by omega)
  have h2 := h.at' ha hb hu hv (i := 8) (by omega)
  omega
theorem RowOk.most (h : RowOk a b u v R) (ha : 1 ≤ a) (hb : 1 ≤ b) (hu : 1 ≤ u) (hv : 1 ≤ v) : a + b + u + v ∈ runsI R := by
  rw [runs_pairs]
  refine List.mem_map.mpr ⟨(8, 0), pairs_last, ?_⟩
  show R.getD 8 0 - R.getD 0 0 = _
  rw [h.first ha hb hu hv, h.last ha hb hu hv]; omega
/-- how often each run is there -/
theorem RowOk.count (h : RowOk a b u v R) : (∀ d : Int, 0 < d → (runsI R).count d = (apartI (three a b) (three u v)).count d) ∧ (apartI (three a b) (three u v)).count 0 = 9 + 2 * (runsI R).count 0 := by
  have hp : (diffs R).Perm (apartI (three a b) (three u v)) := (diffs_perm h.perm).trans (diffs_apart 0 (0 + a) (0 + a + b) 0 (0 + u) (0 + u + v))
  have hr := runs_perm h.len
  refine ⟨fun d hd => ?_, ?_⟩
  · rw [hr.count_eq, ← diffs_pos h.up d hd, hp.count_eq]
  · rw [hr.count_eq, ← hp.count_eq, diffs_zero, h.len]
theorem due_len (ap : List Int) (m : Int) : (dueI ap m).length = 1 + m.toNat := by unfold dueI; rw [List.length_append, List.length_map, List.length_range]; rfl
theorem due_zero (ap : List Int) (m : Int) : (dueI ap m).getD 0 0 = (((ap.count 0 : Nat) : Int) - 9).fdiv 2 := rfl
theorem due_succ (ap : List Int) (m : Int) {i : Nat} (h : i < m.toNat) : (dueI ap m).getD (i + 1) 0 = ((ap.count (1 + (i : Int)) : Nat) : Int) := by
  have : (dueI ap m).getD (i + 1) 0 = ((List.range m.toNat).map fun (i : Nat) => ((ap.count (1 + (i : Int)) : Nat) : Int)).getD i 0 := rfl
  rw [this, List.getD, List.getElem?_map, List.getElem?_range h]; rfl
theorem RowOk.due (h : RowOk a b u v R) (ha : 1 ≤ a) (hb : 1 ≤ b) (hu : 1 ≤ u) (hv : 1 ≤ v) : counts (runsI R) = dueI (apartI (three a b) (three u v)) ((three a b).getD 2 0 + (three u v).getD 2 0) := by
  have em : (three a b).getD 2 0 + (three u v).getD 2 0 = a + b + u + v := by show (0 + a + b) + (0 + u + v) = _; omega
  have hb0 := h.runs ha hb hu hv
  have hlen : (counts (runsI R)).length = 1 + (a + b + u + v).toNat := by
    have h1 := counts_lt _ (h.most ha hb hu hv)
    rcases counts_len (runs := runsI R) with e | ⟨r, hr, e⟩
    · omega
    · have := hb0 r hr; omega
  rw [em]
  refine ext_getD (by rw [hlen, due_len]) fun i hi => ?_
  rw [counts_get fun r hr => (hb0 r hr).1]
  obtain ⟨c1, c2⟩ := h.count
  generalize apartI (three a b) (three u v) = ap at *
  cases i with
  | zero =>
    rw [due_zero, c2, Int.fdiv_eq_ediv_of_nonneg _ (by decide)]
    show ((((runsI R).count 0 : Nat)) : Int) = _
    omega
  | succ i =>
    have e : ((i + 1 : Nat) : Int) = 1 + (i : Int) := by omega
    rw [due_succ _ _ (by omega), ← c1 (1 + (i : Int)) (by omega), e]
theorem runs_alike (h : RowOk a b u v R) (h' : RowOk a b v u R') (ha : 1 ≤ a) (hb : 1 ≤ b) (hu : 1 ≤ u) (hv : 1 ≤ v) : counts (runsI R) = counts (runsI R') := by
  refine counts_perm (fun r hr => (h.runs ha hb hu hv r hr).1) (fun r hr => (h'.runs ha hb hv hu r hr).1) ?_
  rw [List.perm_iff_count]
  have hp : (diffs R').Perm (apartI (three a b) (three u v)) := (diffs_perm h'.perm).trans (diffs_turn 0 (0 + a) (0 + a + b) u v)
  have hr' := runs_perm h'.len
  obtain ⟨c1, c2⟩ := h.count
  intro d
  rcases Int.lt_trichotomy d 0 with hd | hd | hd
  · rw [List.count_eq_zero.mpr fun z => absurd (h.runs ha hb hu hv _ z).1 (by omega), List.count_eq_zero.mpr fun z => absurd (h'.runs ha hb hv hu _ z).1 (by omega)]
  · subst hd
    have : (apartI (three a b) (three u v)).count 0 = 9 + 2 * (runsI R').count 0 := by rw [hr'.count_eq, ← hp.count_eq, diffs_zero, h'.len]
    omega
  · rw [c1 d hd, hr'.count_eq, ← diffs_pos h'.up d hd, hp.count_eq]
end
end Mine
end
section
set_option maxRecDepth 100000
namespace Mine
noncomputable def chk (a b u v : Int) : Bool :=
  (decide (isort (isort (sums (three a b) (three v u))) = isort (sums (three a b) (three u v))) || decide (isort (turnedI (isort (sums (three a b) (three v u)))) = isort (sums (three a b) (three u v)))) == ((a == b) || (u == v))
def four : List Int := [1, 2, 3, 4]
theorem chk1 : (four.all fun b => four.all fun u => four.all fun v => chk 1 b u v) = true := by decide +kernel
theorem chk2 : (four.all fun b => four.all fun u => four.all fun v => chk 2 b u v) = true := by decide +kernel
theorem chk3 : (four.all fun b => four.all fun u => four.all fun v => chk 3 b u v) = true := by decide +kernel
theorem chk4 : (four.all fun b => four.all fun u => four.all fun v => chk 4 b u v) = true := by decide +kernel
theorem four_mem {a : Int} (h : 1 ≤ a ∧ a ≤ 4) : a ∈ four := by
  unfold four
  simp only [List.mem_cons, List.not_mem_nil, or_false]
  omega
theorem chk_all {a b u v : Int} (ha : 1 ≤ a ∧ a ≤ 4) (hb : 1 ≤ b ∧ b ≤ 4) (hu : 1 ≤ u ∧ u ≤ 4) (hv : 1 ≤ v ∧ v ≤ 4) : chk a b u v = true := by
  have go : ∀ a : Int, (four.all fun b => four.all fun u => four.all fun v => chk a b u v) = true → chk a b u v = true := fun a h =>
    List.all_eq_true.mp (List.all_eq_true.mp (List.all_eq_true.mp h b (four_mem hb)) u (four_mem hu)) v (four_mem hv)
  have : a = 1 ∨ a = 2 ∨ a = 3 ∨ a = 4 := by omega
  rcases this with rfl | rfl | rfl | rfl
  · exact go _ chk1
  · exact go _ chk2
  · exact go _ chk3
  · exact go _ chk4
theorem turned_b {a b u v : Int} {R : List Int} (h : RowOk a b u v R) (ha : 1 ≤ a) (hb : 1 ≤ b) (hu : 1 ≤ u) (hv : 1 ≤ v) : ∀ x ∈ turnedI R, 0 ≤ x ∧ x ≤ a + b + u + v := fun x hx => by
  unfold turnedI at hx
  obtain ⟨m, hm, rfl⟩ := List.mem_map.mp hx
  have := h.bd ha hb hu hv m hm
  rw [h.last ha hb hu hv]
  omega
theorem alike_law {a b u v : Int} {R R' : List Int} (h : RowOk a b u v R) (h' : RowOk a b v u R') (ha : 1 ≤ a ∧ a ≤ 4) (hb : 1 ≤ b ∧ b ≤ 4) (hu : 1 ≤ u ∧ u ≤ 4) (hv : 1 ≤ v ∧ v ≤ 4) :
    ((decide (counts R = counts R') && decide ((0 : Int) = 0)) || (decide (counts R = counts (turnedI R')) && decide ((0 : Int) = 0))) = ((a == b) || (u == v)) := by
  have n1 : ∀ r ∈ R, 0 ≤ r := fun r hr => (h.bd ha.1 hb.1 hu.1 hv.1 r hr).1
  have n2 : ∀ r ∈ R', 0 ≤ r := fun r hr => (h'.bd ha.1 hb.1 hv.1 hu.1 r hr).1
  have n3 : ∀ r ∈ turnedI R', 0 ≤ r := fun r hr => (turned_b h' ha.1 hb.1 hv.1 hu.1 r hr).1
  have z : decide ((0 : Int) = 0) = true := rfl
  rw [counts_sorted n1 n2 h.up, counts_sorted n1 n3 h.up, z, Bool.and_true, Bool.and_true]
  have e1 := isort_eq h.perm h.up
  have e2 := isort_eq h'.perm h'.up
  rw [e1, e2]
  exact beq_iff_eq.mp (chk_all ha hb hu hv)
theorem moved_b {R : List Int} {c2 c3 M : Int} (h : ∀ x ∈ R, 0 ≤ x ∧ x ≤ M) : ∀ x ∈ movedI R c2 c3, 0 ≤ x ∧ x ≤ M + 1 := fun x hx => by
  unfold movedI at hx
  obtain ⟨p, hp, rfl⟩ := List.mem_map.mp hx
  have hm : p.1 ∈ R := by
    obtain ⟨a, i⟩ := p
    exact List.fst_mem_of_mem_zipIdx hp
  have := h _ hm
  split
  · split <;> omega
  · split <;> omega
theorem moved_len (R : List Int) (c2 c3 : Int) : (movedI R c2 c3).length = R.length := by unfold movedI; rw [List.length_map, List.length_zipIdx]
/- the level -/
noncomputable def Wl (t : Int) : Int → List Int → Int
  | _, [] => 0
  | k, c :: cs => k.fdiv t * c + Wl t (k + 1) cs
theorem level_W (t : Int) : ∀ (cs : List Int) (k : Nat), ((cs.zipIdx k).map fun p => ((p.2 : Int).fdiv t + 1) * p.1).sum = Wl t k cs + cs.sum
  | [], k => rfl
  | c :: cs, k => by
    rw [List.zipIdx_cons, List.map_cons, List.sum_cons, level_W t cs (k + 1), Wl, List.sum_cons]
    show ((k : Int).fdiv t + 1) * c + (Wl t (((k + 1 : Nat)) : Int) cs + cs.sum) = (k : Int).fdiv t * c + Wl t ((k : Int) + 1) cs + (c + cs.sum)
    rw [Int.add_mul, Int.one_mul, Int.natCast_add]
    show (k : Int).fdiv t * c + c + (Wl t ((k : Int) + 1) cs + cs.sum) = _
    omega
theorem W_snoc (t : Int) : ∀ (cs : List Int) (k : Int) (c : Int), Wl t k (cs ++ [c]) = Wl t k cs + (k + cs.length).fdiv t * c
  | [], k, c => by
    show k.fdiv t * c + 0 = 0 + (k + 0).fdiv t * c
    rw [Int.add_zero k]; omega
  | x :: cs, k, c => by
    show k.fdiv t * x + Wl t (k + 1) (cs ++ [c]) = k.fdiv t * x + Wl t (k + 1) cs + _
    rw [W_snoc t cs (k + 1) c]
    have : k + 1 + (cs.length : Int) = k + ((x :: cs).length : Int) := by rw [List.length_cons]; omega
    rw [this]; omega
theorem W_small (t : Int) (ht : 0 < t) : ∀ (cs : List Int) (k : Int), 0 ≤ k → k + cs.length ≤ t → Wl t k cs = 0
  | [], k, _, _ => rfl
  | c :: cs, k, h0, h => by
    rw [List.length_cons] at h
    show k.fdiv t * c + Wl t (k + 1) cs = 0
    have e : k.fdiv t = 0 := by
      rw [Int.fdiv_eq_ediv_of_nonneg _ (by omega)]
      exact Int.ediv_eq_zero_of_lt h0 (by omega)
    rw [W_small t ht cs (k + 1) (by omega) (by omega), e]; omega
theorem W_lvl {t : Int} (ht : 0 < t) (cs : List Int) : ∀ j : Nat, t + j ≤ cs.length → Wl t 0 (cs.take (t + j).toNat) = lvl cs t j
  | 0, h => by
    show _ = 0
    exact W_small t ht _ 0 (by omega) (by rw [List.length_take]; omega)
  | j + 1, h => by
    have e : (t + ((j + 1 : Nat) : Int)).toNat = (t + j).toNat + 1 := by omega
    have hl : (t + j).toNat < cs.length := by omega
    rw [e, List.take_succ_eq_append_getElem hl, W_snoc, W_lvl ht cs j (by omega), lvl]
    have e2 : (0 : Int) + ((cs.take (t + j).toNat).length : Int) = t + j := by rw [List.length_take]; omega
    have e3 : cs.getD (t + j).toNat 0 = cs[(t + j).toNat] := by simp [List.getD, List.getElem?_eq_getElem hl]
    rw [e2, e3]
theorem level_law {cs : List Int} {b t nt : Int} (ht : 0 < t) (hn : cs.sum = nt) : b + t * (lvl cs t (cs.length - t).toNat + nt) = b + t * levelI cs t := by
  have h1 : levelI cs t = Wl t 0 cs + cs.sum := level_W t cs 0
  have h2 : Wl t 0 cs = lvl cs t (cs.length - t).toNat := by
    by_cases h : (cs.length : Int) ≤ t
    · have e : ((cs.length : Int) - t).toNat = 0 := by omega
      rw [e, W_small t ht cs 0 (by omega) (by omega)]; rfl
    · rw [← W_lvl ht cs _ (by omega)]
      congr 1
      rw [List.take_of_length_le (by omega)]
  rw [h1, h2, hn]
end Mine
end
section
set_option maxRecDepth 100000
namespace Mine
open PySem PySem.Spec PySem.Calls PyProof.Rows PySem.W
section
variable {c : Cx} {c0 c1 c2 c3 : Int}
def rhoA (c0 c1 c2 c3 : Int) : Str → Option D := af [("cells", lD [c0, c1, c2, c3]), ("pairs", .list [pD (pairA c0) (pairB c0), pD (pairA c1) (pairB c1)]), ("first", lD (fI c0)), ("second", lD (fI c1)), ("turned", lD (bI c1)),
  ("laid", .list [.list ((laidI (fI c0) (fI c1) (spotsI (stepI c2) c3)).map prD), .list ((laidI (fI c0) (bI c1) (spotsI (stepI c2) c3)).map prD)])]
theorem partA (W : Wld c) (hl : LimN 8 c) : Exs c scL (af [("cells", lD [c0, c1, c2, c3])]) [stL 1, stL 2, stL 3, stL 4, stL 5, stL 6, stL 7, stL 8, stL 9] (.next (rhoA c0 c1 c2 c3)) := by
  have KG := W.KG
  have h2 : LimN (0 + 2) c := hl.less (Nat.le_of_ble_eq_true rfl)
  have h1 : LimN (0 + 1) c := hl.less (Nat.le_of_ble_eq_true rfl)
  refine Exs.cons KG (ex_pairs W hl rfl) ?_
  refine Exs.cons KG (ex_back W hl rfl) ?_
  refine Exs.cons KG (ex_given W h1 rfl rfl) ?_
  refine Exs.cons KG (ex_told W h2 (k := c1) rfl) ?_
  refine Exs.cons KG (ex_check1 W h2 rfl rfl rfl rfl) ?_
  refine Exs.cons KG (ex_three W hl (m := c1) rfl) ?_
  refine Exs.cons KG (ex_step W hl rfl) ?_
  refine Exs.cons KG (ex_spots W hl rfl rfl) ?_
  refine Exs.cons KG (ex_laid W hl rfl rfl rfl rfl rfl rfl rfl spots_b (by rw [spots_len]; omega)) ?_
  exact Exs.sub (sub_af ⟨rfl, rfl, rfl, rfl, rfl, rfl, trivial⟩)
def rhoB (a b u v c0 c1 c2 c3 : Int) (o1 o2 : List (Int × Int)) : Str → Option D := af [("cells", lD [c0, c1, c2, c3]), ("pairs", .list [pD a b, pD u v]), ("first", lD (three a b)), ("second", lD (three u v)), ("turned", lD (three v u)),
  ("ordered", .list [.list (o1.map prD), .list (o2.map prD)])]
theorem partB (W : Wld c) (hl : LimN 8 c) {a b u v : Int} {o1 o2 : List (Int × Int)} (ha : 1 ≤ a ∧ a ≤ 4) (hb : 1 ≤ b ∧ b ≤ 4) (hu : 1 ≤ u ∧ u ≤ 4) (hv : 1 ≤ v ∧ v ≤ 4) (h0 : RowOk a b u v (o1.map (·.1))) (h1 : RowOk a b v u (o2.map (·.1))) :
    Exs c scL (rhoB a b u v c0 c1 c2 c3 o1 o2) [stL 12, stL 13, stL 14, stL 15, stL 16, stL 17, stL 18, stL 19, stL 20, stL 21, stL 22, stL 23, stL 24, stL 25, stL 26] (.ret (.bool true)) := by
  have KG := W.KG
  have l3 : LimN (0 + 3) c := hl.less (Nat.le_of_ble_eq_true rfl)
  have l1 : LimN (0 + 1) c := hl.less (Nat.le_of_ble_eq_true rfl)
  have e0 : o1.length = 9 := by have := h0.len; rwa [List.length_map] at this
  have e1 : o2.length = 9 := by have := h1.len; rwa [List.length_map] at this
  have n0 := h0.len
  have n1 := h1.len
  have bd0 := h0.bd ha.1 hb.1 hu.1 hv.1
  have bd1 := h1.bd ha.1 hb.1 hv.1 hu.1
  have rb0 := h0.runs ha.1 hb.1 hu.1 hv.1
  have rb1 := h1.runs ha.1 hb.1 hv.1 hu.1
  have tb1 := turned_b h1 ha.1 hb.1 hv.1 hu.1
  have br := br_sums h0.up (three_sorted hu.1 hv.1) h0.perm
  have bl := bl_sums h1.up (three_sorted hv.1 hu.1) h1.perm
  have due := h0.due ha.1 hb.1 hu.1 hv.1
  have alike := runs_alike h0 h1 ha.1 hb.1 hu.1 hv.1
  have al := alike_law h0 h1 ha hb hu hv
  have em : (three a b).getD 2 0 + (three u v).getD 2 0 = a + b + u + v := by show (0 + a + b) + (0 + u + v) = _; omega
  have up0 := h0.up
  refine Exs.cons KG (ex_rows W hl (o1 := o1) (o2 := o2) rfl (by omega) (by omega)) ?_
  generalize hr0 : o1.map (·.1) = r0 at *
  generalize hr1 : o2.map (·.1) = r1 at *
  have f5 := fmod_b c2 (k := 5) (by decide)
  have f9 := fmod_b c3 (k := 9) (by decide)
  have mb := moved_b (c2 := c2) (c3 := c3) bd0
  have ml := moved_len r0 c2 c3
  refine Exs.cons KG (ex_check3 W l1 rfl rfl rfl (by omega) (Nat.le_of_ble_eq_true rfl) (Nat.le_of_ble_eq_true rfl) br) ?_
  refine Exs.cons KG (ex_check4 W l1 rfl rfl rfl (by omega) (Nat.le_of_ble_eq_true rfl) (Nat.le_of_ble_eq_true rfl) bl) ?_
  refine Exs.cons KG (ex_apart W hl rfl rfl rfl rfl) ?_
  refine Exs.cons KG (ex_due W hl (ap := apartI (three a b) (three u v)) (f := three a b) (s := three u v) rfl rfl rfl rfl rfl (by rw [em]; omega) (by rw [em]; omega)) ?_
  rw [← due]
  refine Exs.cons KG (ex_behind W hl rfl) ?_
  refine Exs.cons KG (ex_size W hl rfl) ?_
  refine Exs.cons KG (ex_leads W l3 (r0 := r0) (r1 := r1) rfl rfl (by omega) n0 n1 (fun x hx => by have := rb0 x hx; omega) (fun x hx => by have := rb1 x hx; omega)) ?_
  have dl : (counts (runsI r0)).length ≤ 100 := by
    rcases counts_len (runs := runsI r0) with e | ⟨r, hr, e⟩
    · omega
    · have := rb0 r hr; omega
  refine Exs.cons KG (ex_check20 W l1 (cs := counts (runsI r0)) (cs' := counts (runsI r1)) (due := counts (runsI r0)) (b := c2.fmod 5) rfl rfl rfl rfl dl rfl alike) ?_
  refine Exs.cons KG (ex_check21 W l1 (cs := counts (runsI r0)) (due := counts (runsI r0)) (b := c2.fmod 5) (t := 1 + c3.fmod 9) rfl rfl rfl rfl dl dl (by omega) (by omega) (level_law (by omega) (by rw [counts_sum, runs_length]; rfl))) ?_
  refine Exs.cons KG (ex_shape W l3 (r0 := r0) (r1 := r1) rfl n0 (fun x hx => by have := bd0 x hx; omega)) ?_
  refine Exs.cons KG (ex_moved W hl (r0 := r0) (r1 := r1) rfl rfl n0) ?_
  refine Exs.cons KG (ex_check24 W l3 (r0 := r0) (r1 := r1) (mv := movedI r0 c2 c3) (b := c2.fmod 5) rfl rfl rfl rfl n0 (by omega) (fun x hx => by have := bd0 x hx; omega) (fun x hx => by have := mb x hx; omega) (by omega) ?_) ?_
  · exact counts_sorted (fun r hr => (bd0 r hr).1) (fun r hr => (mb r hr).1) up0
  refine Exs.cons KG (ex_alike W l3 (cs := counts r0) (r0 := r0) (r1 := r1) rfl rfl n1 (fun x hx => by have := bd1 x hx; omega) (fun x hx => by have := tb1 x hx; omega)) ?_
  exact Exs.retC (ex_ret W hl (a := a) (b := b) (u := u) (v := v) rfl rfl al)
end
end Mine
end
section
set_option maxRecDepth 100000
namespace Mine
open PySem PySem.Spec PySem.Calls PyProof.Rows PySem.W
theorem execs_app (env : Env) (post : List Stmt) : ∀ pre : List Stmt, execs (pre ++ post) env = (execs pre env >>= fun f => match f with | .next => execs post env | f => pure f)
  | [] => by
    show execs post env = _
    rw [show execs [] env = pure .next from rfl, pure_bind]
  | s :: pre => by
    show execs (s :: (pre ++ post)) env = _
    rw [arm_execs_cons, arm_execs_cons, bind_assoc]
    congr 1
    funext f
    cases f with
    | next => exact execs_app env post pre
    | _ => simp only [pure_bind]
theorem wp_app {M : Model} {A : Around} {E : Value → Shared → Prop} {env : Env} {pre post : List Stmt} {s : Shared} {Q : Flow → Shared → Prop} (h : wpAny M A (execs pre env) (fun f s' => f = .next ∧ wpAny M A (execs post env) Q E s') E s) : wpAny M A (execs (pre ++ post) env) Q E s := by
  rw [execs_app]
  refine wpAny_bind (wpAny_mono h (fun f s' hf => ?_) fun _ _ x => x)
  obtain ⟨rfl, hf⟩ := hf
  exact hf
section
variable {c : Cx}
theorem body_eq : bodyOf (stAt 17) = (stL 0 :: [stL 1, stL 2, stL 3, stL 4, stL 5, stL 6, stL 7, stL 8, stL 9]) ++ (stL 10 :: stL 11 :: [stL 12, stL 13, stL 14, stL 15, stL 16, stL 17, stL 18, stL 19, stL 20, stL 21, stL 22, stL 23, stL 24, stL 25, stL 26]) := rfl
theorem fI_three (k : Int) : fI k = three (pairA k) (pairB k) := rfl
theorem bI_three (k : Int) : bI k = three (pairB k) (pairA k) := rfl
theorem law_body (W : Wld c) (TF : TabFree c.G) (hl : LimN 8 c) {ns : List Int} (hz : ns.length ≤ 63) {X : Addr → Prop} {env : Env} {s : Shared} (hs : env.scope = scL) (hc : env.code = .ref 167) (hn : ∀ x, OwnN env x) (hG : c.G s.heap) (eo : EnvOk X env s.heap (af [("script", .sl ns)]))
    (t1 : s.heap.get? 153 = some (tabO #[])) (t2 : s.heap.get? 165 = some (tabO #[])) : wpAny (model c.prog c.w) c.A (execs (bodyOf (stAt 17)) env) (fun f s' => f = .ret (.bool true) ∧ Fx X s s' ∧ c.G s'.heap) noE s := by
  have KG := W.KG
  rw [body_eq]
  have ow : ∀ a, Own env a → X a := fun a ha => (own_X eo ha).1
  have l3 : LimN (0 + 3) c := hl.less (Nat.le_of_ble_eq_true rfl)
  have l1 : LimN (0 + 1) c := hl.less (Nat.le_of_ble_eq_true rfl)
  have pA : Exs c scL (af [("script", .sl ns)]) (stL 0 :: [stL 1, stL 2, stL 3, stL 4, stL 5, stL 6, stL 7, stL 8, stL 9]) (.next (rhoA (cellI ns 0 9) (cellI ns 1 18) (cellI ns 2 2) (cellI ns 3 4))) :=
    Exs.cons KG (ex_cells W hl hz rfl) (Exs.weak (partA W hl) (sub_af ⟨rfl, trivial⟩))
  generalize cellI ns 0 9 = c0 at pA
  generalize cellI ns 1 18 = c1 at pA
  generalize cellI ns 2 2 = c2 at pA
  generalize cellI ns 3 4 = c3 at pA
  refine wp_app (wp_up (pA X env s hs hn hG eo) fun f s₁ h₁ => ?_)
  obtain ⟨g₁, rfl, eo₁⟩ := h₁
  refine ⟨rfl, ?_⟩
  have hG₁ := apart_own KG eo hG g₁
  have t1₁ : s₁.heap.get? 153 = some (tabO #[]) := g₁.kp.tabs _ _ (.inl rfl) t1
  have t2₁ : s₁.heap.get? 165 = some (tabO #[]) := g₁.kp.tabs _ _ (.inr rfl) t2
  have T : ∀ pos, TabSt X s₁.heap 153 pos rowQ false := fun pos => ⟨#[], t1₁, trivial, rfl⟩
  have sl := spots_len (stepI c2) c3
  have r0 := laid_rising (fI c0) (fI c1) sl
  have r1 := laid_rising (fI c0) (bI c1) sl
  have ln0 : (laidI (fI c0) (fI c1) (spotsI (stepI c2) c3)).length = 9 := by rw [laid_len, sl]
  have ln1 : (laidI (fI c0) (bI c1) (spotsI (stepI c2) c3)).length = 9 := by rw [laid_len, sl]
  refine wpAny_execs_cons (ex_ordered W TF l3 (p0 := laidI (fI c0) (fI c1) (spotsI (stepI c2) c3)) (p1 := laidI (fI c0) (bI c1) (spotsI (stepI c2) c3)) (by omega) (by omega) hs hG₁ eo₁ rfl (T _) (T _) fun s₂ g₂ hG₂ eo₂ => ?_)
  have ntO : ∀ a, Own env a → ¬ tb a := fun a ha => (own_X eo ha).2
  have t2₂ : s₂.heap.get? 165 = some (tabO #[]) := g₂.keep _ _ (fun z => ntO _ z (.inr rfl)) (by decide) t2₁
  have hbig : ∃ b, b ≠ env.locals ∧ @LE.le Nat _ low b ∧ ¬ tb b ∧ ∃ o, s₂.heap.get? b = some o := by
    obtain ⟨_, cc, v, hcc, hv, _⟩ := eo₂.cel "first" (lD (fI c0)) rfl (by unfold Env.kindOf; rw [hs]; decide)
    have hlt := hn "first" cc hcc
    have lL : low ≤ env.locals := (eo.xt.hi _ eo.locX).resolve_left eo.ntb
    obtain ⟨o, ho, _⟩ := hv
    exact ⟨cc, Nat.ne_of_gt hlt, Nat.le_of_lt (Nat.lt_of_le_of_lt lL hlt), (eo.cells _ (mem_of_lookup hcc)).2.2.1, o, ho⟩
  refine wpAny_execs_cons (ex_check11 W TF l1 (p0 := laidI (fI c0) (fI c1) (spotsI (stepI c2) c3)) (p1 := laidI (fI c0) (bI c1) (spotsI (stepI c2) c3)) hs hc hG₂ eo₂ rfl rfl ⟨#[], t2₂, trivial, rfl⟩ (laid_apart_neg _ _ sl) (laid_apart _ _ sl) (by omega) (by omega) (fun S h1 h2 => ?_) (fun S h1 h2 => ?_) hbig fun s₃ F₃ hG₃ eo₃ => ?_)
  · obtain ⟨q1, q2⟩ := row_left r0
    exact uniqK (fun a => keyP (negP a)) (h1.trans q1.symm) h2 q2
  · obtain ⟨q1, q2⟩ := row_right r1
    exact uniqK keyP (h1.trans q1.symm) h2 q2
  obtain ⟨x1, x2⟩ := left_firsts r0
  obtain ⟨y1, y2⟩ := right_firsts r1
  have R0 : RowOk (pairA c0) (pairB c0) (pairA c1) (pairB c1) ((rowF true (laidI (fI c0) (fI c1) (spotsI (stepI c2) c3))).map (·.1)) := ⟨x1.trans (laid_sums _ _ _ _ _ _ c2 c3), x2⟩
  have R1 : RowOk (pairA c0) (pairB c0) (pairB c1) (pairA c1) ((rowF false (laidI (fI c0) (bI c1) (spotsI (stepI c2) c3))).map (·.1)) := ⟨y1.trans (laid_sums _ _ _ _ _ _ c2 c3), y2⟩
  have pB := partB (c := c) (c0 := c0) (c1 := c1) (c2 := c2) (c3 := c3) W hl (pairA_b c0) (pairB_b c0) (pairA_b c1) (pairB_b c1) R0 R1
  refine wp_up ((Exs.weak pB (sub_af ⟨rfl, rfl, rfl, rfl, rfl, rfl, trivial⟩)) X env s₃ hs hn hG₃ eo₃) fun f s₄ h₄ => ?_
  obtain ⟨g₄, v, rfl, rv⟩ := h₄
  rw [rv.boolInv]
  exact ⟨rfl, (((Fx.gw eo.xt ow g₁).trans (Fx.gp eo.xt (.inl rfl) ow g₂)).trans F₃).trans (Fx.gw eo.xt ow g₄), apart_own KG eo₃ hG₃ g₄⟩
end
end Mine
end
section
set_option maxRecDepth 100000
namespace Mine
open PySem PySem.W PyProof.Rows
noncomputable def viewQ : Program := { PySem.Challenge.pw_rs0185_01 with main := { PySem.Challenge.pw_rs0185_01.main with body := [0, 2, 9, 10, 12, 13, 14, 15, 16, 17].filterMap fun i => PySem.Challenge.pw_rs0185_01.main.body[i]? } }
def looseQ : List PySem.Str := ["Whitespace", "insort_right", "bisect_right", "insort_left", "bisect_left"]
section
set_option hygiene false
local macro_rules | `(tactic| o_head $H:term) => `(tactic| (
  refine holds_open (q := viewQ) (loose := looseQ) (Xt := fun s => xlAt viewQ [] s && recOk (RowW.records (OpenRow.toRowW PySem.Challenge.rw_rs0185_01.row)) s) (XP := XL viewQ []) (Yf := Hook.obs $H) (Ya := Hook.val $H) (YP := Hook.says $H) (N := 1986) ?hl (Hook.of $H) (Hook.keeps $H) (fun s e => xl_of s (Bool.and_eq_true_iff.mp e).1) XL.keeps (by rfl) (by rfl) (by rfl) (fun s e => recFacts_of (Bool.and_eq_true_iff.mp e).2) (by rfl) (by first | assumption | decide +kernel) (by decide +kernel) ⟨rfl, rfl, rfl, rfl, rfl, by decide +kernel⟩ ?hw ?hc
  case hl => exact LeftO.of_split "special-get-raises" (fun w => by kernel_rfl)))
set_option maxHeartbeats 8000000 in
open_top hd for PySem.Challenge.rw_rs0185_01
end
end Mine
end
section
set_option maxRecDepth 100000
namespace Mine
open PySem PySem.Spec PySem.Calls PyProof.Rows PySem.W
def keys39 : List Addr := [2, 3, 15, 17, 18, 20, 21, 32, 34, 35, 37, 38, 39, 41, 42, 44, 45, 46, 48, 49, 51, 52, 53, 55, 56, 58, 59, 60,
          62, 63, 65, 66, 67, 69, 70, 72, 73, 74, 76, 77, 79, 80, 81, 82, 83, 84, 85, 88, 89, 90, 92, 93, 95, 96, 97,
          98, 99, 101, 102, 104, 105, 106, 107, 108, 110, 111, 113, 114, 115, 116, 117, 119, 120, 122, 123, 124, 126,
          127, 129, 130, 131, 133, 134, 136, 137, 138, 140, 141, 143, 144, 145, 147, 148, 150, 151, 152, 154, 155, 157,
          158, 159, 162, 163, 164, 167, 168]
theorem keys_eq (P : Params) : (hd.heap_39 P).map (·.1) = keys39 := rfl
theorem keys_ok : keys39.all (fun a => decide (@LT.lt Nat _ a 169) && (!Nat.beq a 153) && !Nat.beq a 165) = true := by decide +kernel
theorem key_ok {P : Params} {a : Addr} {o : Obj} (h : (hd.heap_39 P).lookup a = some o) : @LT.lt Nat _ a low ∧ ¬ tb a := by
  have hm : a ∈ keys39 := by rw [← keys_eq P]; exact List.mem_map.mpr ⟨(a, o), mem_of_lookupK h, rfl⟩
  have := List.all_eq_true.mp keys_ok a hm
  simp only [Bool.and_eq_true, decide_eq_true_eq, Bool.not_eq_true'] at this
  refine ⟨this.1.1, fun t => ?_⟩
  rcases t with rfl | rfl
  · exact absurd this.1.2 (by decide)
  · exact absurd this.2 (by decide)
structure G9 (P : Params) (mg mb : Str → Option Value) (h : Heap) : Prop where
  K : (hd.heap_39 P).In h
  tabs : ∀ b, tb b → ∃ ps, h.get? b = some (tabO ps)
  g : h.Ns mainGlobals mg
  b : h.Ns builtinsNs mb
  lim : h.NoLimit
  bm : ∃ o, h.get? 4 = some o ∧ o.cls = .type "module" ∧ o.dict = some builtinsNs ∧ o.data = .plain
theorem low_main : @LT.lt Nat _ mainGlobals low ∧ ¬ tb mainGlobals := ⟨by decide, by unfold tb; decide⟩
theorem low_blt : @LT.lt Nat _ builtinsNs low ∧ ¬ tb builtinsNs := ⟨by decide, by unfold tb; decide⟩
theorem low_stat : @LT.lt Nat _ cStatics low ∧ ¬ tb cStatics := ⟨by decide, by unfold tb; decide⟩
theorem low_four : @LT.lt Nat _ 4 low ∧ ¬ tb 4 := ⟨by decide, by unfold tb; decide⟩
theorem g9_of {P : Params} {mg mb : Str → Option Value} {h h' : Heap} (G : G9 P mg mb h) (k : ∀ b o, @LT.lt Nat _ b low → ¬ tb b → h.get? b = some o → h'.get? b = some o) (t : ∀ b, tb b → ∃ ps, h'.get? b = some (tabO ps)) : G9 P mg mb h' :=
  ⟨fun a o e => k a o (key_ok e).1 (key_ok e).2 (G.K a o e), t, G.g.at' fun o q => k _ o low_main.1 low_main.2 q, G.b.at' fun o q => k _ o low_blt.1 low_blt.2 q, G.lim.at fun o q => k _ o low_stat.1 low_stat.2 q, by
    obtain ⟨o, e, r⟩ := G.bm
    exact ⟨o, k _ o low_four.1 low_four.2 e, r⟩⟩
theorem known9 (P : Params) (mg mb : Str → Option Value) : Known (G9 P mg mb) where
  keeps := fun h h' G k => g9_of G (fun b o _ ht q => k.keep b o (fun z => z) ht q) fun b hb => by
    obtain ⟨ps, q⟩ := G.tabs b hb
    exact ⟨ps, k.tabs b ps hb q⟩
  table := fun h G b hb => G.tabs b hb
  apart := fun X h h' hX G k => g9_of G (fun b o hl ht q => k.keep b o (fun z => by
    rcases hX b z with w | w
    · exact ht w
    · exact absurd hl (Nat.not_lt.mpr w)) ht q) fun b hb => by
    obtain ⟨ps, q⟩ := G.tabs b hb
    exact ⟨ps, k.tabs b ps hb q⟩
  big := fun h G => by
    have e : (hd.heap_39 P).lookup 168 = some ((hd.heap_39 P).lookup 168).get! := rfl
    have := Heap.lt_size (G.K _ _ e)
    exact this
theorem free9 (P : Params) (mg mb : Str → Option Value) : TabFree (G9 P mg mb) := fun h h' Pt ps G hP k e =>
  g9_of G (fun b o _ ht q => k b o (fun z => ht (z ▸ hP)) q) fun b hb => by
    by_cases z : b = Pt
    · exact ⟨ps, z ▸ e⟩
    · obtain ⟨ps', q⟩ := G.tabs b hb
      exact ⟨ps', k b _ z q⟩
end Mine
end
section
set_option maxRecDepth 100000
namespace Mine
open PySem PySem.Spec PySem.Calls PyProof.Rows PySem.W
noncomputable def c9 (prog : Program) (w : World) (A : Around) (mg mb : Str → Option Value) : Cx := ⟨prog, w, A, G9 w.params mg mb, hd.heap_39 w.params⟩
section
variable {prog : Program} {w : World} {A : Around} {mg mb : Str → Option Value}
theorem fnAt_of {a : Addr} {name qual : Str} {params : Arguments} {body : List Stmt} {scope : Scope} {dV kV cdv : Value}
    (e : ∃ fo doc pm an ct, (hd.heap_39 w.params).lookup a = some fo ∧ fo.data = .func (fnX name qual params body scope [] dV kV doc pm an cdv ct)) (ec : codeIn (hd.heap_39 w.params) cdv qual = true) : FnAt (c9 prog w A mg mb) a name qual params body scope dV kV cdv :=
  ⟨fun h G => by
    obtain ⟨fo, doc, pm, an, ct, e1, e2⟩ := e
    exact ⟨G.lim, fo, doc, pm, an, ct, G.K _ _ e1, e2, codeRec_of G.K ec⟩⟩
theorem glob_of {x : Str} {v : Value} (e : nsIn (hd.heap_39 w.params) mainGlobals x = some (some v)) : GlobIs (c9 prog w A mg mb) x v := fun h G => .inl ⟨mg, G.g, mg_of G.K G.g e⟩
theorem glob_b (hb : ∀ x : Str, x ≠ "__name__" → mb x = bootBuiltins x) {x : Str} {v : Value} (e : nsIn (hd.heap_39 w.params) mainGlobals x = some none) (hv : bootBuiltins x = some v) (hn : x ≠ "__name__") : GlobIs (c9 prog w A mg mb) x v := fun h G => .inr ⟨mg, mb, G.g, mg_none_of G.K G.g e, G.b, (hb x hn).trans hv⟩
theorem ki9 : KIn (c9 prog w A mg mb) := fun h G => G.K
theorem ws9 : Ws (c9 prog w A mg mb) where
  g := glob_of rfl
  kp := rfl
  mkI := rfl
  init := rfl
  initT := rfl
  sa := rfl
  over := rfl
  dict := rfl
  raw := rfl
  n := rfl
  nt := rfl
  norm := rfl
  simple := rfl
  pg := fun _ => rfl
  rd := rfl
  S := ⟨_, rfl⟩
  T := ⟨_, rfl⟩
  eqF := rfl
  eqT := rfl
  eqK := rfl
  ilF := rfl
  ilT := rfl
  ilK := rfl
  fI := fnAt_of ⟨_, _, _, _, _, rfl, rfl⟩ rfl
  fL := fnAt_of ⟨_, _, _, _, _, rfl, rfl⟩ rfl
  fE := fnAt_of ⟨_, _, _, _, _, rfl, rfl⟩ rfl
end
end Mine
end
section
set_option maxRecDepth 100000
namespace Mine
open PySem PySem.Spec PySem.Calls PyProof.Rows PySem.W
section
variable {prog : Program} {w : World} {A : Around} {mg mb : Str → Option Value}
theorem fnw_of {nm : Str} {a : Addr} {k : Nat} {dV kV cdv : Value} (e1 : nsIn (hd.heap_39 w.params) mainGlobals nm = some (some (.ref a))) (e2 : keepIn (hd.heap_39 w.params) (.ref a) = true)
    (e : ∃ fo doc pm an ct, (hd.heap_39 w.params).lookup a = some fo ∧ fo.data = .func (fnX nm nm (argsOf (stAt k)) (bodyOf (stAt k)) (scopeOf (stAt k)) [] dV kV doc pm an cdv ct)) (ec : codeIn (hd.heap_39 w.params) cdv nm = true) : Fnw (c9 prog w A mg mb) nm a k dV kV cdv :=
  ⟨glob_of e1, e2, fnAt_of e ec⟩
theorem binds9 {s : Shared} {nm : Str} {a : Addr} {k : Nat} {dV kV cdv : Value} {args : Args} {binds : List (Str × Value)} (hG : G9 w.params mg mb s.heap) (e : ∀ doc pm an ct S, peek (hd.heap_39 w.params) S (bindArgs (fnX nm nm (argsOf (stAt k)) (bodyOf (stAt k)) (scopeOf (stAt k)) [] dV kV doc pm an cdv ct) args) = some binds) (fd : FuncData) (h : ∃ doc pm an ct, fd = fnX nm nm (argsOf (stAt k)) (bodyOf (stAt k)) (scopeOf (stAt k)) [] dV kV doc pm an cdv ct) : BindsTo s fd args binds := by
  obtain ⟨doc, pm, an, ct, rfl⟩ := h
  exact kp_binds hG.K fun S => e doc pm an ct S
theorem pair9 : Fnw (c9 prog w A mg mb) "_law_pair" 137 12 .none .none (.ref 136) := fnw_of rfl rfl ⟨_, _, _, _, _, rfl, rfl⟩ rfl
theorem given9 : Fnw (c9 prog w A mg mb) "_law_given" 144 13 .none .none (.ref 143) := fnw_of rfl rfl ⟨_, _, _, _, _, rfl, rfl⟩ rfl
theorem marks9 : Fnw (c9 prog w A mg mb) "_law_marks" 151 14 .none .none (.ref 150) := fnw_of rfl rfl ⟨_, _, _, _, _, rfl, rfl⟩ rfl
theorem row9 : Fnw (c9 prog w A mg mb) "_law_row" 158 15 .none .none (.ref 157) := fnw_of rfl rfl ⟨_, _, _, _, _, rfl, rfl⟩ rfl
theorem lead9 : Fnw (c9 prog w A mg mb) "_law_lead" 163 16 .none .none (.ref 162) := fnw_of rfl rfl ⟨_, _, _, _, _, rfl, rfl⟩ rfl
theorem gi9 : Fnw (c9 prog w A mg mb) "_grouping_intervals" 130 10 .none .none (.ref 129) := fnw_of rfl rfl ⟨_, _, _, _, _, rfl, rfl⟩ rfl
theorem hdR9 : ∀ h, (c9 prog w A mg mb).G h → CodeHd h 157 153 := fun h G => codeHd_of_K G.K rfl
theorem hdL9 : ∀ h, (c9 prog w A mg mb).G h → CodeHd h 167 165 := fun h G => codeHd_of_K G.K rfl
theorem cmax9 : ∃ t, GlobIs (c9 prog w A mg mb) "CHAR_MAX" (.int 127 t) := ⟨_, glob_of rfl⟩
theorem irT : ∃ t, ∀ (s : Shared) (fd : FuncData) (v x : Value), (c9 prog w A mg mb).G s.heap → (∃ doc pm an ct, fd = fnX "insort_right" "insort_right" (argsOf (stAt 4)) (bodyOf (stAt 4)) (scopeOf (stAt 4)) [] (.ref 88) (.ref 89) doc pm an (.ref 95) ct) → BindsTo s fd ⟨[v, x], []⟩ [("a", v), ("x", x), ("lo", .int 0 t), ("hi", .none), ("key", .none)] :=
  ⟨_, fun s fd v x hG h => binds9 (a := 96) hG (fun _ _ _ _ S => rfl) fd h⟩
variable (hb : ∀ x : Str, x ≠ "__name__" → mb x = bootBuiltins x)
include hb
theorem sum9 : GlobIs (c9 prog w A mg mb) "sum" (.builtin "sum") := glob_b hb rfl (by boot_fast) (by decide)
theorem len9 : GlobIs (c9 prog w A mg mb) "len" (.builtin "len") := glob_b hb rfl (by boot_fast) (by decide)
theorem max9 : GlobIs (c9 prog w A mg mb) "max" (.builtin "max") := glob_b hb rfl (by boot_fast) (by decide)
theorem sorted9 : GlobIs (c9 prog w A mg mb) "sorted" (.builtin "sorted") := glob_b hb rfl (by boot_fast) (by decide)
theorem range9 : GlobIs (c9 prog w A mg mb) "range" (.type "range") := glob_b hb rfl (by boot_fast) (by decide)
theorem enum9 : GlobIs (c9 prog w A mg mb) "enumerate" (.type "enumerate") := glob_b hb rfl (by boot_fast) (by decide)
theorem zip9 : GlobIs (c9 prog w A mg mb) "zip" (.type "zip") := glob_b hb rfl (by boot_fast) (by decide)
theorem tuple9 : GlobIs (c9 prog w A mg mb) "tuple" (.type "tuple") := glob_b hb rfl (by boot_fast) (by decide)
theorem list9 : GlobIs (c9 prog w A mg mb) "list" (.type "list") := glob_b hb rfl (by boot_fast) (by decide)
end
end Mine
end
section
set_option maxRecDepth 100000
namespace Mine
open PySem PySem.Spec PySem.Calls PyProof.Rows PySem.W
theorem cell_names (L : Nat) : (cellsFrom L scL.names []).map (·.1) = (["size", "behind", "apart", "rows", "spots", "step", "turned", "second", "first", "cells", "script"] : List Str) := rfl
theorem cell_nodup (L : Nat) : ((cellsFrom L scL.names []).map (·.1)).Nodup := by rw [cell_names]; decide
theorem cell_lookup {L : Nat} {p : Str × Addr} (h : p ∈ cellsFrom L scL.names []) : (cellsFrom L scL.names []).lookup p.1 = some p.2 := lookup_of_mem (cell_nodup L) h
section
variable {c : Cx}
/-- the law's frame, entered -/
theorem law_frame (KG : Known c.G) {X : Addr → Prop} {a : Addr} {fd : FuncData} {s s₁ : Shared} {v : Value} {ns : List Int} (hsc : fd.scope = scL) (hgl : fd.globals = mainGlobals) (hbl : fd.builtins = builtinsNs) (hG : c.G s.heap)
    (hX : X = fun b => tb b ∨ b = s.heap.objs.size ∨ ∃ p ∈ cellsFrom (s.heap.objs.size + 1) scL.names [], b = p.2)
    (hv : Rd (fun b => tb b) s.heap v (.sl ns))
    (I : InCallC s (callEnvC fd s.heap.objs.size a).locals (bindL (callEnvC fd s.heap.objs.size a).kindOf [("script", v)] fun _ => none) (callEnvC fd s.heap.objs.size a).cells (bindC (callEnvC fd s.heap.objs.size a).kindOf [("script", v)] fun _ => none) s₁) :
    EnvOk X (callEnvC fd s.heap.objs.size a) s₁.heap (af [("script", .sl ns)]) ∧ (∀ x, OwnN (callEnvC fd s.heap.objs.size a) x) := by
  have keep := I.toInCall.keep
  have big : @LE.le Nat _ low s.heap.objs.size := KG.big _ hG
  have ec : (callEnvC fd s.heap.objs.size a).cells = cellsFrom (s.heap.objs.size + 1) scL.names [] := by unfold callEnvC; rw [hsc]; rfl
  have es : (callEnvC fd s.heap.objs.size a).scope = scL := by unfold callEnvC; exact hsc
  have eL : (callEnvC fd s.heap.objs.size a).locals = s.heap.objs.size := rfl
  have hk : ∀ x, (callEnvC fd s.heap.objs.size a).kindOf x = scL.names.lookup x := fun x => by unfold Env.kindOf; rw [es]
  have hks : (callEnvC fd s.heap.objs.size a).kindOf "script" = some .cell := by rw [hk]; rfl
  have hab := I.above
  have hce := I.cell
  rw [ec] at hce hab
  have nt0 : ¬ tb s.heap.objs.size := fresh_ntb KG hG (size_none _ (Nat.le_refl _))
  have ntc : ∀ p ∈ cellsFrom (s.heap.objs.size + 1) scL.names [], ¬ tb p.2 := fun p hp => fresh_ntb KG hG (size_none _ (Nat.le_of_lt (hab p.1 p.2 hp)))
  have xt : XT X := by
    rw [hX]
    refine ⟨fun b hb => .inl hb, fun b hb => ?_⟩
    rcases hb with q | q | ⟨p, hp, q⟩
    · exact .inl q
    · exact .inr (by rw [q]; exact big)
    · exact .inr (by rw [q]; exact Nat.le_of_lt (Nat.lt_of_le_of_lt big (hab p.1 p.2 hp)))
  have newX : ∀ b, X b → tb b ∨ s.heap.get? b = none := fun b hb => by
    rw [hX] at hb
    rcases hb with q | q | ⟨p, hp, q⟩
    · exact .inl q
    · exact .inr (by rw [q]; exact size_none _ (Nat.le_refl _))
    · exact .inr (by rw [q]; exact size_none _ (Nat.le_of_lt (hab p.1 p.2 hp)))
  have hv₁ : Rd X s₁.heap v (.sl ns) := (hv.more newX).mono fun b o _ q => keep b o q
  have hcm : bindC (callEnvC fd s.heap.objs.size a).kindOf [("script", v)] (fun _ => none) "script" = some v := by
    unfold bindC bindC
    rw [if_neg (by rw [hks]; decide)]
    rfl
  refine ⟨⟨by rw [es]; rfl, by unfold callEnvC; exact hgl, by unfold callEnvC; exact hbl, xt, fun b hb => ?_, nt0, by rw [hX]; exact .inr (.inl rfl), ⟨_, I.toInCall.ns, fun x d hx hkl => ?_⟩, fun x d hx hkl => ?_, fun p hp => ?_, I.apart, fun x d hx => ?_, fun x hx => ?_⟩, fun x cc hcc => ?_⟩
  · rw [hX] at hb
    rcases hb with q | q | ⟨p, hp, q⟩
    · obtain ⟨ps, e⟩ := KG.table _ hG b q
      exact ⟨_, keep _ _ e⟩
    · obtain ⟨o, _, _, ho, _⟩ := I.toInCall.ns
      exact ⟨o, by rw [q]; exact ho⟩
    · obtain ⟨o, ho, _⟩ := hce p.1 p.2 (cell_lookup hp)
      exact ⟨o, by rw [q]; exact ho⟩
  · exfalso
    unfold af at hx
    have : x = "script" := by
      by_cases q : x = "script"
      · exact q
      · rw [List.lookup_cons, beq_eq_false_iff_ne.mpr q] at hx; cases hx
    subst this
    rw [hks] at hkl; cases hkl
  · have : x = "script" := by
      by_cases q : x = "script"
      · exact q
      · unfold af at hx; rw [List.lookup_cons, beq_eq_false_iff_ne.mpr q] at hx; cases hx
    subst this
    have hd : D.sl ns = d := Option.some.inj hx
    subst hd
    refine ⟨.inl hks, ?_⟩
    obtain ⟨cc, hcc⟩ := cellsFrom_has (names := scL.names) (n := s.heap.objs.size + 1) (x := "script") (by decide)
    have hl := cell_lookup hcc
    refine ⟨cc, v, by rw [ec]; exact hl, ?_, hv₁⟩
    have := hce "script" cc hl
    rwa [hcm] at this
  · rw [ec] at hp
    refine ⟨by rw [hX]; exact .inr (.inr ⟨p, hp, rfl⟩), fun z => ?_, ntc p hp, _, hce p.1 p.2 (cell_lookup hp)⟩
    have := hab p.1 p.2 hp
    rw [z] at this
    exact absurd this (Nat.lt_irrefl _)
  · have : x = "script" := by
      by_cases q : x = "script"
      · exact q
      · unfold af at hx; rw [List.lookup_cons, beq_eq_false_iff_ne.mpr q] at hx; cases hx
    subst this; decide
  · rw [hk] at hx
    obtain ⟨cc, hcc⟩ := cellsFrom_has (names := scL.names) (n := s.heap.objs.size + 1) (x := x) (PySem.mem_of_lookup hx)
    rw [ec, cell_lookup hcc]; rfl
  · rw [ec] at hcc
    exact hab x cc (PySem.mem_of_lookup hcc)
end
end Mine
end
section
set_option maxRecDepth 100000
namespace Mine
open PySem PySem.Spec PySem.Calls PyProof.Rows PySem.W
section
variable {prog : Program} {w : World} {A : Around} {mg mb : Str → Option Value}
theorem bis9 {nm : Str} {a : Addr} {k : Nat} {dV kV cdv : Value} {t : Tok} (F : Fnw (c9 prog w A mg mb) nm a k dV kV cdv)
    (e1 : ∀ v x doc pm an ct S, peek (hd.heap_39 w.params) S (bindArgs (fnX nm nm (argsOf (stAt k)) (bodyOf (stAt k)) (scopeOf (stAt k)) [] dV kV doc pm an cdv ct) ⟨[v, x], []⟩) = some [(("a" : Str), v), ("x", x), ("lo", .int 0 t), ("hi", .none), ("key", .none)])
    (e2 : ∀ v x f doc pm an ct S, peek (hd.heap_39 w.params) S (bindArgs (fnX nm nm (argsOf (stAt k)) (bodyOf (stAt k)) (scopeOf (stAt k)) [] dV kV doc pm an cdv ct) ⟨[v, x], [("key", f)]⟩) = some [(("a" : Str), v), ("x", x), ("lo", .int 0 t), ("hi", .none), ("key", f)])
    (e3 : ∀ v x l h f doc pm an ct S, peek (hd.heap_39 w.params) S (bindArgs (fnX nm nm (argsOf (stAt k)) (bodyOf (stAt k)) (scopeOf (stAt k)) [] dV kV doc pm an cdv ct) ⟨[v, x, l, h], [("key", f)]⟩) = some [(("a" : Str), v), ("x", x), ("lo", l), ("hi", h), ("key", f)]) : Bis (c9 prog w A mg mb) nm a k dV kV cdv where
  toFnw := F
  two := ⟨t, fun s fd v x hG h => binds9 (a := a) hG (fun doc pm an ct S => e1 v x doc pm an ct S) fd h⟩
  key2 := ⟨t, fun s fd v x f hG h => binds9 (a := a) hG (fun doc pm an ct S => e2 v x f doc pm an ct S) fd h⟩
  key4 := fun s fd v x l hh f hG h => binds9 (a := a) hG (fun doc pm an ct S => e3 v x l hh f doc pm an ct S) fd h
theorem ir9 : Bis (c9 prog w A mg mb) "insort_right" 96 4 (.ref 88) (.ref 89) (.ref 95) := bis9 (fnw_of rfl rfl ⟨_, _, _, _, _, rfl, rfl⟩ rfl) (fun _ _ _ _ _ _ _ => rfl) (fun _ _ _ _ _ _ _ _ => rfl) (fun _ _ _ _ _ _ _ _ _ _ => rfl)
theorem br9 : Bis (c9 prog w A mg mb) "bisect_right" 105 5 (.ref 97) (.ref 98) (.ref 104) := bis9 (fnw_of rfl rfl ⟨_, _, _, _, _, rfl, rfl⟩ rfl) (fun _ _ _ _ _ _ _ => rfl) (fun _ _ _ _ _ _ _ _ => rfl) (fun _ _ _ _ _ _ _ _ _ _ => rfl)
theorem il9 : Bis (c9 prog w A mg mb) "insort_left" 114 6 (.ref 106) (.ref 107) (.ref 113) := bis9 (fnw_of rfl rfl ⟨_, _, _, _, _, rfl, rfl⟩ rfl) (fun _ _ _ _ _ _ _ => rfl) (fun _ _ _ _ _ _ _ _ => rfl) (fun _ _ _ _ _ _ _ _ _ _ => rfl)
theorem bl9 : Bis (c9 prog w A mg mb) "bisect_left" 123 7 (.ref 115) (.ref 116) (.ref 122) := bis9 (fnw_of rfl rfl ⟨_, _, _, _, _, rfl, rfl⟩ rfl) (fun _ _ _ _ _ _ _ => rfl) (fun _ _ _ _ _ _ _ _ => rfl) (fun _ _ _ _ _ _ _ _ _ _ => rfl)
theorem mg9 : ∀ h, (c9 prog w A mg mb).G h → ∃ mg, h.Ns mainGlobals mg ∧ ∀ P, tb P → h.BuiltinsAt mg P := fun h G => by
  obtain ⟨o, e1, e2, e3, e4⟩ := G.bm
  exact ⟨mg, G.g, fun P hP => ⟨4, o, mg_of G.K G.g rfl, by decide, by decide, by rcases hP with rfl | rfl <;> decide, e1, e2, e3, e4⟩⟩
theorem wld9 (hb : ∀ x : Str, x ≠ "__name__" → mb x = bootBuiltins x) : Wld (c9 prog w A mg mb) where
  ws := ws9
  hdR := hdR9
  hdL := hdL9
  mg := mg9
  lim := fun h G => G.lim
  KG := known9 _ _ _
  KI := ki9
  pair := pair9
  given := given9
  marks := marks9
  row := row9
  lead := lead9
  gi := gi9
  ir := ir9
  br := br9
  il := il9
  bl := bl9
  sum := sum9 hb
  len := len9 hb
  max := max9 hb
  sorted := sorted9 hb
  range := range9 hb
  enum := enum9 hb
  zip := zip9 hb
  tuple := tuple9 hb
  list := list9 hb
  cmax := cmax9
end
end Mine
end
section
set_option maxRecDepth 100000
namespace Mine
open PySem PySem.Spec PySem.Calls PyProof.Rows PySem.W
section
variable {prog : Program} {w : World} {mg mb : Str → Option Value}
theorem lim9 (env : Env) : LimN 8 (c9 prog w (callerA.deeper env) mg mb) := ⟨rfl, by show callerA.depth + 1 + 20 + 8 < recursionLimit; decide, by show callerA.units + 3 + 1000 + 10 * 8 < cLine; decide⟩
theorem law_at : FnAt (c9 prog w callerA mg mb) 168 "law" "law" (argsOf (stAt 17)) (bodyOf (stAt 17)) scL .none .none (.ref 167) := fnAt_of ⟨_, _, _, _, _, rfl, rfl⟩ rfl
theorem law_call (hb : ∀ x : Str, x ≠ "__name__" → mb x = bootBuiltins x) {s : Shared} (G : G9 w.params mg mb s.heap) (t1 : s.heap.get? 153 = some (tabO #[])) (t2 : s.heap.get? 165 = some (tabO #[])) {l : Addr} {vs : List Value} {ns : List Int} (hl : s.heap.IsList l vs.toArray) (hI : IntsAre vs ns) (hz : ns.length ≤ 63) :
    wpAny (model prog w) callerA (call (.ref 168) [.ref l]) (fun r s' => r = .bool true ∧ (∀ b o, ¬ tb b → s.heap.get? b = some o → s'.heap.get? b = some o) ∧ G9 w.params mg mb s'.heap ∧ s'.os = s.os ∧ (AllBare s.gens → AllBare s'.gens)) noE s := by
  obtain ⟨hlim, fo, doc, pm, an, ct, ho, hd', hcd⟩ := (law_at (prog := prog) (w := w) (mg := mg) (mb := mb)).get _ G
  have KG := known9 w.params mg mb
  refine wpAny_call (codeAny_call_cells (o := fo) (body := bodyOf (stAt 17)) (vals := [.ref l]) (binds := [("script", .ref l)]) (by decide) ho hd' hlim hcd rfl rfl rfl (fun x hx => ?_) (fun s₁ I => ?_) rfl rfl rfl)
  · rw [List.mem_singleton.mp hx]
    exact .inr ⟨rfl, rfl⟩
  · obtain ⟨o, e1, e2, n, e3⟩ := hl
    have ntl : ¬ tb l := fun t => by
      obtain ⟨ps, q⟩ := G.tabs l t
      rw [q] at e1; cases e1; cases e2
    have hv : Rd (fun b => tb b) s.heap (.ref l) (.sl ns) := .sl ntl e1 e2 e3 (by simpa using hI)
    obtain ⟨eo, hn⟩ := law_frame (c := c9 prog w callerA mg mb) KG rfl rfl rfl G rfl hv I
    have keep := I.toInCall.keep
    have G₁ : G9 w.params mg mb s₁.heap := KG.keeps _ _ G (.every keep)
    refine wp_up (law_body (c := c9 prog w (callerA.deeper _) mg mb) (wld9 hb) (free9 _ _ _) (lim9 _) hz rfl rfl hn G₁ eo (keep _ _ t1) (keep _ _ t2)) fun f s' h => ?_
    obtain ⟨rfl, F, G'⟩ := h
    obtain ⟨h₁, tk, es⟩ := I.toInCall.same
    refine ⟨rfl, fun b ob ht q => F.keep b ob (fun z => ?_) (keep _ _ q), G', by rw [F.os, es], fun x => F.bare (by rw [es]; exact x)⟩
    rcases z with z | z | ⟨p, hp, z⟩
    · exact ht z
    · rw [z] at q
      exact absurd (Heap.lt_size q) (Nat.lt_irrefl _)
    · rw [z] at q
      have := I.above p.1 p.2 hp
      exact absurd (Heap.lt_size q) (Nat.not_lt.mpr (Nat.le_of_lt this))
theorem old_of {P : Params} {h h' : Heap} (G : G9 P mg mb h) (G' : G9 P mg mb h') (t1 : h.get? 153 = some (tabO #[])) (t2 : h.get? 165 = some (tabO #[])) (keep : ∀ b o, ¬ tb b → h.get? b = some o → h'.get? b = some o) : OldK h h' := by
  have ict : ∀ b, tb b → isCodeTable h b := fun b hb => by
    rcases hb with rfl | rfl
    · obtain ⟨o, vs, _, _, _, _, _, _, _, e1, e2, e3, e4, _⟩ := (codeHd_of_K G.K rfl : CodeHd h 157 153)
      exact ⟨157, o, vs, e1, e2, e3, e4⟩
    · obtain ⟨o, vs, _, _, _, _, _, _, _, e1, e2, e3, e4, _⟩ := (codeHd_of_K G.K rfl : CodeHd h 167 165)
      exact ⟨167, o, vs, e1, e2, e3, e4⟩
  have tz : ∀ b, tb b → h.get? b = some (tabO #[]) := fun b hb => by
    rcases hb with rfl | rfl
    · exact t1
    · exact t2
  refine ⟨fun b o e => ?_, fun b o e => ?_⟩
  · by_cases ht : tb b
    · obtain ⟨ps, q⟩ := G'.tabs b ht
      rw [tz b ht] at e
      cases e
      refine .inr (.inl ⟨ict b ht, rfl, #[], ps, rfl, ?_⟩)
      rw [q]
      simp [tabO]
    · exact .inl (keep b o ht e)
  · by_cases ht : tb b
    · obtain ⟨ps, q⟩ := G'.tabs b ht
      exact ⟨_, q⟩
    · exact ⟨o, keep b o ht e⟩
end
end Mine
end
section
set_option maxRecDepth 100000
open PySem PySem.Spec PySem.Calls PyProof.Rows PySem.W Mine in
set_option maxHeartbeats 8000000 in
theorem PySem.Challenge.cw_rs0185_01_holds : PySem.Challenge.rw_rs0185_01.Holds := by
  refine hd ?_
  intro w s₀ s₁ mg mb G Y fa o pm cd doc dV kV ho hdat hcd hD hmg hg args vals as hpre hlay hrd hwl hlo
  have KX := km_in_of Y
  have TB := km_tabs_of Y
  have T := G.T
  obtain ⟨bm, ob, B⟩ := bmod_of_top T
  have hfa : fa = 168 := by
    have h1 : mg "law" = some (.ref 168) := mg_of KX T.g rfl
    have h2 : mg "law" = some (.ref fa) := hmg
    rw [h1] at h2
    exact (Value.ref.inj (Option.some.inj h2)).symm
  have hbm : bm = 4 := by
    have h1 : mg "__builtins__" = some (.ref 4) := mg_of KX T.g rfl
    have h2 := B.name
    rw [h1] at h2
    exact (Value.ref.inj (Option.some.inj h2)).symm
  have t1 : s₁.heap.get? 153 = some (tabO #[]) := TB 153 (.head _)
  have t2 : s₁.heap.get? 165 = some (tabO #[]) := TB 165 (.tail _ (.head _))
  have G9' : G9 w.params mg mb s₁.heap := ⟨KX, fun b hb => by
    rcases hb with rfl | rfl
    · exact ⟨_, t1⟩
    · exact ⟨_, t2⟩, T.g, T.b, T.nolimit, ob, by rw [← hbm]; exact B.obj, B.cls, B.dict, B.data⟩
  have hb := T.builtins
  subst hfa
  clear hdat hD hmg ho hcd B
  wrow_args hpre hlay hrd hwl hlo
  rename_i hL _ _ _ hI _ hlen _
  refine wpAny_mono (law_call hb G9' t1 t2 hL hI (by omega)) (fun r s' h => ?_) fun _ _ x => x.elim
  obtain ⟨rfl, keep, G2, hos, hbare⟩ := h
  refine ⟨.inl ⟨.bool true, .bool true, [], rfl, fun cls => ?_, .bool true, ?_, fun _ => ⟨.nil, fun a ha => nomatch ha⟩⟩, ?_, hos, hbare (by rw [hg]; exact .empty)⟩
  · rfl
  · wrow_post
  · exact old_of G9' G2 t1 t2 keep
end
