import PyProof.Rows.All
import Wide.All
import OpenK.AllK
import Wide.FinOn
import KE.KNestM
import KE.KSuper
import PySem.Challenge.RW_qw0034_01
section
open PySem PySem.W PyProof.Rows
set_option Elab.async false
namespace Mine
-- the objects that the top leaves, written out by the kit's own tactic (Mine.hd.heap_1): of k_head only the part that writes them out is let work here; nothing leans on hd itself; the head is proved below, by hand (left, said, .., head)
section
local macro_rules | `(tactic| o_head $_) => `(tactic| exact False.elim ‹False›)
set_option maxRecDepth 100000 in
set_option maxHeartbeats 0 in
theorem hd (h : False) : PySem.Challenge.rw_qw0034_01.row.Holds := by
  k_head
end
/- the five ways of the arguments that find themselves, each once -/
def auS (a : Array Lean.Syntax) : Lean.Syntax := .node .none `Lean.Parser.Tactic.tacticSeq #[.node .none `Lean.Parser.Tactic.tacticSeq1Indented #[.node .none `null a]]
def auC : Lean.Syntax := .node .none `Lean.Parser.Tactic.optConfig #[.node .none `null #[]]
def auQ : Lean.Syntax := .node .none `Lean.Parser.Tactic.tacticRfl #[.atom .none "rfl"]
def auR : Lean.Syntax := auS #[auQ]
def auD : Lean.Syntax := auS #[.node .none `Lean.Parser.Tactic.decide #[.atom .none "decide", auC]]
def auI : Lean.Syntax := auS #[.node .none `Lean.Parser.Tactic.intro #[.atom .none "intro", .node .none `null #[.node .none `Lean.Parser.Term.hole #[.atom .none "_"]]], .atom .none ";", auQ]
def auU : Lean.Syntax := auS #[.node .none `Lean.Parser.Tactic.withUnfoldingAll #[.atom .none "with_unfolding_all", auR]]
def auE (f : String) (n : Lean.Name) : Lean.Syntax := .ident .none f.toRawSubstring n []
def auG (s : Lean.Syntax) : Lean.Syntax := .node .none `group #[.atom .none "|", auS #[s]]
def auL : Lean.Syntax := auS #[.node .none `Lean.Parser.Tactic.first #[.atom .none "first", .node .none `null #[
  auG (.node .none `Lean.Parser.Tactic.exact #[.atom .none "exact", .node .none `Lean.Parser.Term.app #[auE "Nat.le_of_ble_eq_true" `Nat.le_of_ble_eq_true, .node .none `null #[auE "rfl" `rfl]]]),
  auG (.node .none `Lean.Parser.Tactic.lia #[.atom .none "lia", auC])]]]
end Mine
end

section
open PySem PySem.W PySem.Calls PyProof.Rows
set_option Elab.async false
set_option tactic.hygienic false
set_option linter.unusedVariables false
namespace Mine

noncomputable abbrev pg : Program := PySem.Challenge.pw_qw0034_01
noncomputable abbrev Kf (w : World) : Frag := Mine.hd.heap_1 w.params
noncomputable abbrev tb : Addr := 169
noncomputable abbrev n0 : Nat := 239
theorem nS {α : Type} {P : Prop} {o : Option α} {a : α} (h1 : o = none) (h2 : o = some a) : P := by rw [h1] at h2; cases h2
theorem sE {α : Type} {o : Option α} {a b : α} (h1 : o = some a) (h2 : o = some b) : a = b := Option.some.inj (h1.symm.trans h2)
theorem nSg {P : Prop} {h : Heap} {b C : Addr} {a : Obj} (q : b = C) (h1 : h.get? C = none) (h2 : h.get? b = some a) : P := nS h1 (q ▸ h2)
theorem sEg {h : Heap} {b C : Addr} {a a' : Obj} (q : b = C) (h1 : h.get? C = some a) (h2 : h.get? b = some a') : a = a' := sE h1 (q ▸ h2)
theorem nD {P : Prop} {d : Data} {us vs : Array Value} {n : Nat} (h1 : d = .fields us) (h2 : d = .seq vs n) : P := by rw [h1] at h2; cases h2
theorem mem2 {α : Type} {b x y : α} (h : b ∈ [x, y]) : b = x ∨ b = y := by simpa using h
theorem mem3 {α : Type} {b x y z : α} (h : b ∈ [x, y, z]) : b = x ∨ b = y ∨ b = z := by simpa using h
theorem memc {α : Type} {b x : α} {l : List α} (h : b ∈ x :: l) : x = b ∨ b ∈ l := (List.mem_cons.mp h).imp Eq.symm id
theorem mem2f {α : Type} {b x y : α} (h : b ∈ [x, y]) : x = b ∨ y = b := (mem2 h).imp Eq.symm Eq.symm
theorem mem3f {α : Type} {b x y z : α} (h : b ∈ [x, y, z]) : x = b ∨ y = b ∨ z = b := (mem3 h).imp Eq.symm (Or.imp Eq.symm Eq.symm)
theorem nmem2 {α : Type} {b x y : α} (h : b ∉ [x, y]) : ¬ b = x ∧ ¬ b = y := by simpa using h

-- plain data; `own k`: the k-th object that may still change; `val v`: this very value
inductive D where
  | none | bool (b : Bool) | int (i : Int) | str (x : Str)
  | lst (xs : List D) | tup (xs : List D) | acc (xs : List D) | own (k : Nat) | val (v : Value)

noncomputable def accNs (t : Tok) : Str → Option Value := fun x => if x = "_initial_size" then some (.int 0 t) else Option.none

-- an object's own dict, of one name at most
noncomputable def SmallDict (od : Obj) : Prop := od.cls = .type "dict" ∧ ∃ es m, od.data = .dict es m ∧ es.size ≤ 1
-- the object at a is an accumulator with these items
noncomputable def AccAt (h : Heap) (ad : List Addr) (a : Addr) (vs : Array Value) : Prop :=
  ∃ n o dA od t, h.get? a = some o ∧ o.cls = .ref 207 ∧ o.dict = some dA ∧ o.data = .seq vs n ∧ h.get? dA = some od ∧ SmallDict od ∧ dA ∉ ad ∧ h.Ns dA (accNs t)

mutual
inductive Rd (h : Heap) (ad : List Addr) : Value → D → Prop
  | none : Rd h ad .none .none
  | bool (b) : Rd h ad (.bool b) (.bool b)
  | int (i t) : Rd h ad (.int i t) (.int i)
  | str (x t) : Rd h ad (.str x t) (.str x)
  | lst {a o vs n xs} : h.get? a = some o → o.cls = .type "list" → o.dict = Option.none → o.data = .seq vs n → a ∉ ad → RdAll h ad vs.toList xs → Rd h ad (.ref a) (.lst xs)
  | tup {a o vs n xs} : h.get? a = some o → o.cls = .type "tuple" → o.dict = Option.none → o.data = .seq vs n → a ∉ ad → RdAll h ad vs.toList xs → Rd h ad (.ref a) (.tup xs)
  | acc {a vs xs} : AccAt h ad a vs → a ∉ ad → RdAll h ad vs.toList xs → Rd h ad (.ref a) (.acc xs)
  | own {k a} : ad[k]? = some a → Rd h ad (.ref a) (.own k)
  | val (v) : Rd h ad v (.val v)
inductive RdAll (h : Heap) (ad : List Addr) : List Value → List D → Prop
  | nil : RdAll h ad [] []
  | cons {v vs d ds} : Rd h ad v d → RdAll h ad vs ds → RdAll h ad (v :: vs) (d :: ds)
end

-- an object that may still change
inductive Ob where
  | lst (xs : List D)
  | acc (xs : List D)

inductive RdOb (h : Heap) (ad : List Addr) : Addr → Ob → Prop
  | lst {a o vs n xs} : h.get? a = some o → o.cls = .type "list" → o.dict = Option.none → o.data = .seq vs n → RdAll h ad vs.toList xs → RdOb h ad a (.lst xs)
  | acc {a vs xs} : AccAt h ad a vs → RdAll h ad vs.toList xs → RdOb h ad a (.acc xs)

-- same but, of a frame, for what hangs at it
noncomputable def Sm (o o' : Obj) : Prop := o'.cls = o.cls ∧ o'.dict = o.dict ∧ o'.data = o.data
theorem Sm.small {o o' : Obj} (m : Sm o o') (x : SmallDict o) : SmallDict o' := ⟨m.1.trans x.1, let ⟨es, k, e, z⟩ := x.2; ⟨es, k, m.2.2.trans e, z⟩⟩
theorem Sm.refl (o : Obj) : Sm o o := ⟨rfl, rfl, rfl⟩
theorem Sm.trans {o o' o'' : Obj} (x : Sm o o') (y : Sm o' o'') : Sm o o'' := ⟨y.1.trans x.1, y.2.1.trans x.2.1, y.2.2.trans x.2.2⟩

-- a step: what is not in ex stays (a frame of fr: its data)
theorem ns_sm {h h' : Heap} {a : Addr} {m : Str → Option Value} (hn : h.Ns a m) (k : ∀ o, h.get? a = some o → ∃ o', h'.get? a = some o' ∧ Sm o o') : h'.Ns a m := by
  obtain ⟨o, es, ep, ho, hd, r⟩ := hn
  obtain ⟨o', ho', m⟩ := k o ho
  exact ⟨o', es, ep, ho', m.2.2.trans hd, r⟩
-- what may be carried from one heap to the next: everything outside ex keeps its shape; the owned list may grow by new objects
structure Car (h h' : Heap) (ad ad' : List Addr) (ex : List Addr) : Prop where
  keep : ∀ b o, b ∉ ex → h.get? b = some o → ∃ o', h'.get? b = some o' ∧ Sm o o'
  sub : ∀ b ∈ ex, b ∈ ad ∨ ((∀ o, h.get? b = some o → ∀ vs n, o.data ≠ .seq vs n) ∧ ∀ t, ¬ h.Ns b (accNs t))
  pre : ∀ (k : Nat) (a : Addr), ad[k]? = some a → ad'[k]? = some a
  new : ∀ b ∈ ad', b ∈ ad ∨ h.get? b = Option.none

theorem Car.notin {h h' : Heap} {ad ad' ex : List Addr} (c : Car h h' ad ad' ex) {a : Addr} {o : Obj} (e : h.get? a = some o) (ha : a ∉ ad) : a ∉ ad' := fun hm => by
  rcases c.new a hm with h1 | h1
  · exact ha h1
  · (first | exact nS h1 e | exact nS e h1 | exact nD h1 e | exact nD e h1 | cases sE h1 e | (rw [h1] at e; cases e))
theorem Car.at {h h' : Heap} {ad ad' ex : List Addr} (c : Car h h' ad ad' ex) {a : Addr} {o : Obj} {vs : Array Value} {n : Nat} (e : h.get? a = some o) (ha : a ∉ ad) (hd : o.data = .seq vs n) : ∃ o', h'.get? a = some o' ∧ Sm o o' := by
  refine c.keep a o (fun hm => ?_) e
  rcases c.sub a hm with h1 | h1
  · exact ha h1
  · exact h1.1 o e vs n hd
theorem Car.atD {h h' : Heap} {ad ad' ex : List Addr} (c : Car h h' ad ad' ex) {a : Addr} {o : Obj} {t : Tok} (e : h.get? a = some o) (ha : a ∉ ad) (hd : h.Ns a (accNs t)) : ∃ o', h'.get? a = some o' ∧ Sm o o' := by
  refine c.keep a o (fun hm => ?_) e
  rcases c.sub a hm with h1 | h1
  · exact ha h1
  · exact h1.2 t hd

theorem AccAt.car {h h' : Heap} {ad ad' ex : List Addr} (c : Car h h' ad ad' ex) {a : Addr} {vs : Array Value} (x : AccAt h ad a vs) (ha : a ∉ ad) : AccAt h' ad' a vs := by
  obtain ⟨n, o, dA, od, t, h1, h2, h3, h4, h5, h6, h7, h8⟩ := x
  obtain ⟨o', e1, m1⟩ := c.at h1 ha h4
  obtain ⟨od', e2, m2⟩ := c.atD h5 h7 h8
  refine ⟨n, o', dA, od', t, e1, m1.1.trans h2, m1.2.1.trans h3, m1.2.2.trans h4, e2, m2.small h6, c.notin h5 h7, ns_sm h8 fun o q => ?_⟩
  (first | exact nS h5 q | exact nS q h5 | exact nD h5 q | exact nD q h5 | cases sE h5 q | (rw [h5] at q; cases q)); exact ⟨od', e2, m2⟩

theorem Rd.toV {h : Heap} {ad : List Addr} {v u : Value} (r : Rd h ad v (.val u)) : u = v := by cases r; rfl
theorem Rd.toS {h : Heap} {ad : List Addr} {v : Value} {x : Str} (r : Rd h ad v (.str x)) : ∃ t, v = .str x t := by cases r; exact ⟨_, rfl⟩
theorem Rd.toI {h : Heap} {ad : List Addr} {v : Value} {x : Int} (r : Rd h ad v (.int x)) : ∃ t, v = .int x t := by cases r; exact ⟨_, rfl⟩
theorem Rd.toB {h : Heap} {ad : List Addr} {v : Value} {x : Bool} (r : Rd h ad v (.bool x)) : v = .bool x := by cases r; rfl
theorem RdAll.ind {h : Heap} {ad : List Addr} {P : List Value → List D → Prop} (nil : P [] []) (cons : ∀ {v : Value} {vs : List Value} {d : D} {ds : List D}, Rd h ad v d → RdAll h ad vs ds → P vs ds → P (v :: vs) (d :: ds)) {vs : List Value} {ds : List D} (r : RdAll h ad vs ds) : P vs ds :=
  RdAll.rec (motive_1 := fun _ _ _ => True) (motive_2 := fun vs ds _ => P vs ds) trivial (fun _ => trivial) (fun _ _ => trivial) (fun _ _ => trivial) (fun _ _ _ _ _ _ _ => trivial) (fun _ _ _ _ _ _ _ => trivial) (fun _ _ _ _ => trivial) (fun _ => trivial) (fun _ => trivial) nil (fun h1 h2 _ ih => cons h1 h2 ih) r
theorem Rd.car {h h' : Heap} {ad ad' ex : List Addr} (c : Car h h' ad ad' ex) {v : Value} {d : D} (r : Rd h ad v d) : Rd h' ad' v d :=
  Rd.rec (motive_1 := fun v d _ => Rd h' ad' v d) (motive_2 := fun vs ds _ => RdAll h' ad' vs ds) .none (fun b => .bool b) (fun i t => .int i t) (fun x t => .str x t)
    (fun h1 h2 h3 h4 h5 _ ih => by obtain ⟨_, e, m⟩ := c.at h1 h5 h4; exact .lst e (m.1.trans h2) (m.2.1.trans h3) (m.2.2.trans h4) (c.notin h1 h5) ih)
    (fun h1 h2 h3 h4 h5 _ ih => by obtain ⟨_, e, m⟩ := c.at h1 h5 h4; exact .tup e (m.1.trans h2) (m.2.1.trans h3) (m.2.2.trans h4) (c.notin h1 h5) ih)
    (fun h1 h2 _ ih => .acc (h1.car c h2) (by obtain ⟨_, _, _, _, _, e, _⟩ := h1; exact c.notin e h2) ih)
    (fun h1 => .own (c.pre _ _ h1)) (fun v => .val v) .nil (fun _ _ a b => .cons a b) r
theorem RdAll.car {h h' : Heap} {ad ad' ex : List Addr} (c : Car h h' ad ad' ex) {vs : List Value} {ds : List D} (r : RdAll h ad vs ds) : RdAll h' ad' vs ds := RdAll.ind .nil (fun h1 _ ih => .cons (h1.car c) ih) r
theorem RdAll.length {h : Heap} {ad : List Addr} {vs : List Value} {ds : List D} (r : RdAll h ad vs ds) : vs.length = ds.length := RdAll.ind (P := fun vs ds => vs.length = ds.length) rfl (fun _ _ ih => congrArg Nat.succ ih) r
theorem RdAll.get {h : Heap} {ad : List Addr} {vs : List Value} {ds : List D} (r : RdAll h ad vs ds) : ∀ (i : Nat) (v : Value), vs[i]? = some v → ∃ d, ds[i]? = some d ∧ Rd h ad v d :=
  RdAll.ind (P := fun vs ds => ∀ (i : Nat) (v : Value), vs[i]? = some v → ∃ d, ds[i]? = some d ∧ Rd h ad v d) (fun i v e => by simp at e)
    (fun h1 _ ih i v e => Nat.casesOn (motive := fun i => (_ :: _ : List Value)[i]? = some v → ∃ d, (_ :: _ : List D)[i]? = some d ∧ Rd h ad v d) i (fun e => ⟨_, rfl, Option.some.inj e ▸ h1⟩) (fun i e => ih i v e) e) r
theorem RdAll.get' {h : Heap} {ad : List Addr} {vs : List Value} {ds : List D} (r : RdAll h ad vs ds) : ∀ (i : Nat) (d : D), ds[i]? = some d → ∃ v, vs[i]? = some v ∧ Rd h ad v d :=
  RdAll.ind (P := fun vs ds => ∀ (i : Nat) (d : D), ds[i]? = some d → ∃ v, vs[i]? = some v ∧ Rd h ad v d) (fun i v e => by simp at e)
    (fun h1 _ ih i d e => Nat.casesOn (motive := fun i => (_ :: _ : List D)[i]? = some d → ∃ v, (_ :: _ : List Value)[i]? = some v ∧ Rd h ad v d) i (fun e => ⟨_, rfl, Option.some.inj e ▸ h1⟩) (fun i e => ih i d e) e) r
theorem RdAll.append {h : Heap} {ad : List Addr} {vs : List Value} {ds : List D} {vs' : List Value} {ds' : List D} (x : RdAll h ad vs ds) (y : RdAll h ad vs' ds') : RdAll h ad (vs ++ vs') (ds ++ ds') :=
  RdAll.ind (P := fun vs ds => RdAll h ad (vs ++ vs') (ds ++ ds')) y (fun h1 _ ih => .cons h1 ih) x
theorem len1 {P : List Value → Prop} (h : ∀ a, P [a]) : ∀ vals : List Value, vals.length = 1 → P vals := fun vals q => by obtain ⟨a, rfl⟩ := List.length_eq_one_iff.mp q; exact h a
theorem len2 {P : List Value → Prop} (h : ∀ a b, P [a, b]) : ∀ vals : List Value, vals.length = 2 → P vals
  | a :: vals, q => len1 (P := fun l => P (a :: l)) (h a) vals (Nat.succ.inj q)
theorem len3 {P : List Value → Prop} (h : ∀ a b c, P [a, b, c]) : ∀ vals : List Value, vals.length = 3 → P vals
  | a :: vals, q => len2 (P := fun l => P (a :: l)) (h a) vals (Nat.succ.inj q)
theorem len5 {P : List Value → Prop} (h : ∀ a b c d e, P [a, b, c, d, e]) : ∀ vals : List Value, vals.length = 5 → P vals
  | a :: b :: vals, q => len3 (P := fun l => P (a :: b :: l)) (h a b) vals (Nat.succ.inj (Nat.succ.inj q))
theorem RdAll.of_get {h : Heap} {ad : List Addr} : ∀ {vs : List Value} {ds : List D}, vs.length = ds.length → (∀ (i : Nat) (v : Value) (d : D), vs[i]? = some v → ds[i]? = some d → Rd h ad v d) → RdAll h ad vs ds
  | [], [], _, _ => .nil
  | v :: vs, d :: ds, e, f => .cons (f 0 v d (by simp) (by simp)) (RdAll.of_get (by simpa using e) fun i v' d' e1 e2 => f (i + 1) v' d' (by simpa using e1) (by simpa using e2))
  | [], _ :: _, e, _ => by simp at e
  | _ :: _, [], e, _ => by simp at e

end Mine
end

section
open PySem PySem.W PySem.Calls PyProof.Rows
set_option Elab.async false
set_option tactic.hygienic false
set_option linter.unusedVariables false
namespace Mine

-- what the module's top has left, and the script
structure Bs (w : World) (hb : Heap) : Prop where
  k : (Kf w).In hb
  b : ∃ mb, hb.Ns builtinsNs mb ∧ ∀ x : Str, x ≠ "__name__" → mb x = bootBuiltins x
  lim : hb.NoLimit
  tbl : hb.get? tb = some { cls := .none, data := .fields #[] }
  bm : ∃ mg a ob, hb.Ns mainGlobals mg ∧ mg "__builtins__" = some (.ref a) ∧ a ≠ builtinsNs ∧ a ≠ tb ∧ hb.get? a = some ob ∧ ob.cls = .type "module" ∧ ob.dict = some builtinsNs ∧ ob.data = .plain

noncomputable def TabOk (h : Heap) : Prop := ∃ ps, h.IsCode 173 tb ps ∧ h.TableAt 173 tb ps

structure Inv (w : World) (hb : Heap) (s : Shared) : Prop where
  bs : Bs w hb
  keep : ∀ b o, b ≠ tb → hb.get? b = some o → s.heap.get? b = some o
  tab : TabOk s.heap
  bare : AllBare s.gens

noncomputable def FrOk (hb h : Heap) (l : List Env) : Prop := ∀ env ∈ l, env.scope.kind ≠ .module ∧ ∃ L o, env.frame = some L ∧ hb.get? L = none ∧ h.get? L = some o ∧ (∀ vs, o.data ≠ .fields vs) ∧ ∀ vs n, o.data ≠ .seq vs n
structure Rm (hb : Heap) (n : Nat) (A : Around) (h : Heap) : Prop where
  handled : A.handled = none
  depth : A.depth + n ≤ 900
  units : A.units + 20 * n ≤ 9000
  frames : ∃ outer, A.frames = some outer ∧ FrOk hb h outer

noncomputable def Sees (env : Env) (h : Heap) (x : Str) (v : Value) : Prop :=
  (env.kindOf x = some .local ∧ ∃ m, h.Ns env.locals m ∧ m x = some v) ∨
  ((env.kindOf x = some .cell ∨ (env.kindOf x = some .free ∧ (x == ("__classdict__" : Str)) = false)) ∧ ∃ c, env.cells.lookup x = some c ∧ h.IsCell c (some v))

structure Own (hb : Heap) (σ : List Ob) (ad : List Addr) (h : Heap) : Prop where
  len : ad.length = σ.length
  nd : ad.Nodup
  new : ∀ a ∈ ad, hb.get? a = none
  at' : ∀ (k : Nat) (a : Addr) (o : Ob), ad[k]? = some a → σ[k]? = some o → RdOb h ad a o

structure St (hb : Heap) (env : Env) (ls : List (Str × D)) (σ : List Ob) (ad : List Addr) (h : Heap) : Prop where
  nm : ∀ x d, ls.lookup x = some d → ∃ v, Sees env h x v ∧ Rd h ad v d
  ns : ∃ m, h.Ns env.locals m
  loc : hb.get? env.locals = none
  locad : env.locals ∉ ad
  cel : ∀ n c, (n, c) ∈ env.cells → c ∉ ad ∧ c ≠ env.locals ∧ c ≠ tb ∧ ∃ v, h.IsCell c v
  kind : env.scope.kind = .function
  glo : env.globals = mainGlobals
  bui : env.builtins = builtinsNs
  own : Own hb σ ad h

structure Cx (w : World) (hb : Heap) (n : Nat) (A : Around) (env : Env) (ls : List (Str × D)) (σ : List Ob) (ad : List Addr) (s : Shared) : Prop where
  rm : Rm hb n A s.heap
  inv : Inv w hb s
  st : St hb env ls σ ad s.heap


-- all is kept, but for the table of codes
structure Kh (h h' : Heap) : Prop where
  get : ∀ b o, h.get? b = some o → (b = tb → ∀ vs, o.data ≠ .fields vs) → h'.get? b = some o
  tab : TabOk h → TabOk h'
structure Keeps (s s' : Shared) : Prop where
  heap : Kh s.heap s'.heap
  bare : AllBare s.gens → AllBare s'.gens
  os : s'.os = s.os

theorem tabKeeps {h h' : Heap} (k : ∀ b o, b = tb ∨ b = 173 → h.get? b = some o → h'.get? b = some o) (x : TabOk h) : TabOk h' := by
  obtain ⟨ps, a, b⟩ := x
  have kt : ∀ o, h.get? tb = some o → h'.get? tb = some o := fun o e => k tb o (.inl rfl) e
  have kc : ∀ o, h.get? 173 = some o → h'.get? 173 = some o := fun o e => k 173 o (.inr rfl) e
  refine ⟨ps, ?_, ?_⟩
  · obtain ⟨o, vs, file, tf, flags, tg, inF, text, tt, op, ho, hd, h11, h2, h7, h9, h10, hop, hpd, htr, hne⟩ := a
    exact ⟨o, vs, file, tf, flags, tg, inF, text, tt, op, kc _ ho, hd, h11, h2, h7, h9, h10, kt _ hop, hpd, htr, hne⟩
  · obtain ⟨⟨o, vs, a1, r⟩, t⟩ := b
    exact ⟨⟨o, vs, kc _ a1, r⟩, kt _ t⟩
theorem Kh.of {h h' : Heap} (k : ∀ b o, h.get? b = some o → h'.get? b = some o) : Kh h h' := ⟨fun b o e _ => k b o e, tabKeeps fun b o _ e => k b o e⟩
theorem Kh.refl (h : Heap) : Kh h h := .of fun _ _ e => e
theorem Kh.trans {h h' h'' : Heap} (x : Kh h h') (y : Kh h' h'') : Kh h h'' := ⟨fun b o e q => y.get b o (x.get b o e q) q, fun t => y.tab (x.tab t)⟩
theorem Kh.other {h h' : Heap} (k : Kh h h') {b : Addr} {o : Obj} (e : h.get? b = some o) (hb : b ≠ tb) : h'.get? b = some o := k.get b o e fun q => absurd q hb

theorem Kh.seq {h h' : Heap} (k : Kh h h') {b : Addr} {o : Obj} {vs : Array Value} {n : Nat} (e : h.get? b = some o) (hd : o.data = .seq vs n) : h'.get? b = some o := k.get b o e fun _ us q => by (first | exact nS hd q | exact nS q hd | exact nD hd q | exact nD q hd | cases sE hd q | (rw [hd] at q; cases q))
theorem Kh.ns {h h' : Heap} (k : Kh h h') {a : Addr} {m : Str → Option Value} (hn : h.Ns a m) : h'.Ns a m := by
  obtain ⟨o, es, ep, ho, hd, r⟩ := hn
  exact ⟨o, es, ep, k.get a o ho (fun _ us q => by (first | exact nS hd q | exact nS q hd | exact nD hd q | exact nD q hd | cases sE hd q | (rw [hd] at q; cases q))), hd, r⟩
theorem Kh.cell {h h' : Heap} (k : Kh h h') {a : Addr} {v : Option Value} (hn : h.IsCell a v) : h'.IsCell a v := by
  obtain ⟨o, ho, hd⟩ := hn
  exact ⟨o, k.get a o ho (fun _ us q => by (first | exact nS hd q | exact nS q hd | exact nD hd q | exact nD q hd | cases sE hd q | (rw [hd] at q; cases q))), hd⟩

theorem Car.of_keeps {h h' : Heap} {ad : List Addr} (k : Kh h h') : ∃ ex, Car h h' ad ad ex := by
  by_cases hf : ∃ o vs, h.get? tb = some o ∧ o.data = .fields vs
  · obtain ⟨o, vs, e, hd⟩ := hf
    refine ⟨[tb], fun b o' hb' e' => ⟨o', k.other e' (by simpa using hb'), .refl o'⟩, fun b hm => .inr ?_, fun _ _ e => e, fun _ e => .inl e⟩
    replace hm := (List.mem_singleton.mp hm).symm; subst hm
    refine ⟨fun o' e' vs' n q => ?_, fun t q => ?_⟩
    · (first | exact nS e e' | exact nS e' e | exact nD e e' | exact nD e' e | cases sE e e' | (rw [e] at e'; cases e')); (first | exact nS hd q | exact nS q hd | exact nD hd q | exact nD q hd | cases sE hd q | (rw [hd] at q; cases q))
    · obtain ⟨o', _, _, e', hd', _⟩ := q; (first | exact nS e e' | exact nS e' e | exact nD e e' | exact nD e' e | cases sE e e' | (rw [e] at e'; cases e')); (first | exact nS hd hd' | exact nS hd' hd | exact nD hd hd' | exact nD hd' hd | cases sE hd hd' | (rw [hd] at hd'; cases hd'))
  · exact ⟨[], fun b o _ e => ⟨o, k.get b o e fun q vs q' => hf ⟨o, vs, q ▸ e, q'⟩, .refl o⟩, fun b hb => by simp at hb, fun _ _ e => e, fun _ e => .inl e⟩

theorem Sees.keeps {env : Env} {h h' : Heap} {x : Str} {v : Value} (k : Kh h h') (z : Sees env h x v) : Sees env h' x v := by
  rcases z with ⟨a, m, b, c⟩ | ⟨a, c, b, d⟩
  · exact .inl ⟨a, m, k.ns b, c⟩
  · exact .inr ⟨a, c, b, k.cell d⟩

theorem AccAt.keeps {h h' : Heap} {ad : List Addr} (k : Kh h h') {a : Addr} {vs : Array Value} (x : AccAt h ad a vs) : AccAt h' ad a vs := by
  obtain ⟨n, o, dA, od, t, h1, h2, h3, h4, h5, h6, h7, h8⟩ := x
  have h8' := k.ns h8
  obtain ⟨o', _, _, e', hd', _⟩ := h8
  (first | exact nS h5 e' | exact nS e' h5 | exact nD h5 e' | exact nD e' h5 | cases sE h5 e' | (rw [h5] at e'; cases e'))
  exact ⟨n, o, dA, od, t, k.seq h1 h4, h2, h3, h4, k.get _ _ h5 (fun _ us q => by (first | exact nS hd' q | exact nS q hd' | exact nD hd' q | exact nD q hd' | cases sE hd' q | (rw [hd'] at q; cases q))), h6, h7, h8'⟩
theorem Rd.keeps {h h' : Heap} {ad : List Addr} (k : Kh h h') {v : Value} {d : D} (x : Rd h ad v d) : Rd h' ad v d := let ⟨_, c⟩ := Car.of_keeps k; x.car c
theorem RdAll.keeps {h h' : Heap} {ad : List Addr} (k : Kh h h') {v : List Value} {d : List D} (x : RdAll h ad v d) : RdAll h' ad v d := let ⟨_, c⟩ := Car.of_keeps k; x.car c
theorem RdOb.keeps {h h' : Heap} {ad : List Addr} (k : Kh h h') {a : Addr} {o : Ob} (x : RdOb h ad a o) : RdOb h' ad a o := by
  cases x with
  | lst h1 h2 h3 h4 h5 => exact .lst (k.seq h1 h4) h2 h3 h4 (h5.keeps k)
  | acc h1 h2 => exact .acc (h1.keeps k) (h2.keeps k)
theorem Own.keeps {hb : Heap} {σ : List Ob} {ad : List Addr} {h h' : Heap} (k : Kh h h') (x : Own hb σ ad h) : Own hb σ ad h' :=
  ⟨x.len, x.nd, x.new, fun i a o e1 e2 => (x.at' i a o e1 e2).keeps k⟩
theorem St.keeps {hb : Heap} {env : Env} {ls : List (Str × D)} {σ : List Ob} {ad : List Addr} {h h' : Heap} (k : Kh h h') (x : St hb env ls σ ad h) : St hb env ls σ ad h' where
  nm := fun y d e => let ⟨v, a, b⟩ := x.nm y d e; ⟨v, a.keeps k, b.keeps k⟩
  ns := let ⟨m, a⟩ := x.ns; ⟨m, k.ns a⟩
  loc := x.loc
  locad := x.locad
  cel := fun n c e => let ⟨a, b, d, v, z⟩ := x.cel n c e; ⟨a, b, d, v, k.cell z⟩
  kind := x.kind
  glo := x.glo
  bui := x.bui
  own := x.own.keeps k
theorem FrOk.keeps {hb h h' : Heap} {l : List Env} (k : Kh h h') (x : FrOk hb h l) : FrOk hb h' l := fun env he =>
  let ⟨a, L, o, b, c, d, e⟩ := x env he; ⟨a, L, o, b, c, k.get _ _ d fun _ => e.1, e⟩
theorem Rm.keeps {hb : Heap} {n : Nat} {A : Around} {h h' : Heap} (k : Kh h h') (x : Rm hb n A h) : Rm hb n A h' :=
  ⟨x.handled, x.depth, x.units, let ⟨l, a, b⟩ := x.frames; ⟨l, a, b.keeps k⟩⟩
theorem Inv.keeps {w : World} {hb : Heap} {s s' : Shared} (k : Keeps s s') (x : Inv w hb s) : Inv w hb s' :=
  ⟨x.bs, fun b o hb e => k.heap.other (x.keep b o hb e) hb, k.heap.tab x.tab, k.bare x.bare⟩
theorem Cx.keeps {w : World} {hb : Heap} {n : Nat} {A : Around} {env : Env} {ls : List (Str × D)} {σ : List Ob} {ad : List Addr} {s s' : Shared} (k : Keeps s s') (x : Cx w hb n A env ls σ ad s) : Cx w hb n A env ls σ ad s' :=
  ⟨x.rm.keeps k.heap, x.inv.keeps k, x.st.keeps k.heap⟩

theorem kRefl (s : Shared) : Keeps s s := ⟨.refl _, id, rfl⟩
theorem kTrans {s s' s'' : Shared} (x : Keeps s s') (y : Keeps s' s'') : Keeps s s'' := ⟨x.heap.trans y.heap, fun t => y.bare (x.bare t), y.os.trans x.os⟩
theorem kToks (s : Shared) (t : Nat) : Keeps s { s with toks := t } := ⟨.refl _, id, rfl⟩
theorem kHeap {s s' : Shared} (x : Keeps s s') : Kh s.heap s'.heap := x.heap
theorem kOf {s : Shared} {h' : Heap} {tk : Nat} (k : ∀ b o, s.heap.get? b = some o → h'.get? b = some o) : Keeps s { s with heap := h', toks := tk } := ⟨.of k, id, rfl⟩
theorem kOfh {s : Shared} {h' : Heap} (k : ∀ b o, s.heap.get? b = some o → h'.get? b = some o) : Keeps s { s with heap := h' } := ⟨.of k, id, rfl⟩
theorem kPush (s : Shared) (o : Obj) : Keeps s { s with heap := s.heap.push o } := kOfh fun _ _ e => Heap.get?_push_of_some o e
theorem kOfL {s s' : Shared} (x : PySem.Keeps s s') : Keeps s s' := by
  obtain ⟨h', tk, rfl, k⟩ := x
  exact kOf k
-- an address that the base does not have
theorem Kh.new {w : World} {hb h h' : Heap} (k : Kh h h') (bs : Bs w hb) {b : Addr} {o : Obj} (e : h.get? b = some o) (hn : hb.get? b = none) : h'.get? b = some o :=
  k.other e fun q => by subst q; (first | exact nS bs.tbl hn | exact nS hn bs.tbl | exact nD bs.tbl hn | exact nD hn bs.tbl | cases sE bs.tbl hn | (rw [bs.tbl] at hn; cases hn))
theorem Kh.fresh {h h' : Heap} (k : Kh h h') {a : Addr} (t : TabOk h) (e : h'.get? a = none) : h.get? a = none := by
  cases q : h.get? a with
  | none => rfl
  | some o =>
    by_cases ht : a = tb
    · subst ht
      obtain ⟨_, _, _, t'⟩ := k.tab t
      (first | exact nS e t' | exact nS t' e | exact nD e t' | exact nD t' e | cases sE e t' | (rw [e] at t'; cases t'))
    · (first | exact nS (k.other q ht) e | exact nS e (k.other q ht) | exact nD (k.other q ht) e | exact nD e (k.other q ht) | cases sE (k.other q ht) e | (rw [k.other q ht] at e; cases e))

-- e gives d, and nothing that stood is changed
noncomputable def Ev (w : World) (hb : Heap) (n : Nat) (env : Env) (ls : List (Str × D)) (σ : List Ob) (e : PySem.Expr) (d : D) : Prop :=
  ∀ (A : Around) (s : Shared) (ad : List Addr), Cx w hb n A env ls σ ad s →
    wpAny (model pg w) A (eval e env) (fun v s' => Keeps s s' ∧ Rd s'.heap ad v d) (fun _ _ => False) s
-- as a test e is b
noncomputable def Tr (w : World) (hb : Heap) (n : Nat) (env : Env) (ls : List (Str × D)) (σ : List Ob) (e : PySem.Expr) (b : Bool) : Prop :=
  ∀ (A : Around) (s : Shared) (ad : List Addr), Cx w hb n A env ls σ ad s →
    wpAny (model pg w) A (isTrue e env (eval e env)) (fun c s' => Keeps s s' ∧ c = b) (fun _ _ => False) s

section
variable {w : World} {hb : Heap} {n : Nat} {A : Around} {env : Env} {ls : List (Str × D)} {σ : List Ob} {ad : List Addr} {s : Shared} {E : Value → Shared → Prop}

theorem Ev.use {e : PySem.Expr} {d : D} {Q : Value → Shared → Prop} (he : Ev w hb n env ls σ e d) (c : Cx w hb n A env ls σ ad s)
    (h : ∀ v s', Keeps s s' → Cx w hb n A env ls σ ad s' → Rd s'.heap ad v d → Q v s') : wpAny (model pg w) A (eval e env) Q E s :=
  wpAny_mono (he A s ad c) (fun v s' q => h v s' q.1 (c.keeps q.1) q.2) fun _ _ f => f.elim
theorem Tr.use {e : PySem.Expr} {b : Bool} {Q : Bool → Shared → Prop} (he : Tr w hb n env ls σ e b) (c : Cx w hb n A env ls σ ad s)
    (h : ∀ s', Keeps s s' → Cx w hb n A env ls σ ad s' → Q b s') : wpAny (model pg w) A (isTrue e env (eval e env)) Q E s :=
  wpAny_mono (he A s ad c) (fun v s' q => q.2 ▸ h s' q.1 (c.keeps q.1)) fun _ _ f => f.elim

theorem Cx.ns {c : Cx w hb n A env ls σ ad s} : (Kf w).In s.heap := fun a o e => c.inv.keep a o (fun h => by
  subst h
  have : (Kf w).lookup tb = none := rfl
  (first | exact nS this e | exact nS e this | exact nD this e | exact nD e this | cases sE this e | (rw [this] at e; cases e))) (c.inv.bs.k a o e)

end
end Mine
end

section
open PySem PySem.W PySem.Calls PyProof.Rows
set_option Elab.async false
set_option tactic.hygienic false
set_option linter.unusedVariables false
namespace Mine
section
variable {w : World} {hb : Heap} {n : Nat} {A : Around} {env : Env} {ls : List (Str × D)} {σ : List Ob} {ad : List Addr} {s : Shared} {E : Value → Shared → Prop}

/-! names and constants -/
theorem Ev.name {x : Str} {d : D} {pos : Pos} (h : ls.lookup x = some d) (hd : autoParam ((x == ("__debug__" : Str)) = false) Mine.auD) : Ev w hb n env ls σ (.Name x pos) d := fun A s ad c => by
  obtain ⟨v, z, r⟩ := c.st.nm x d h
  refine wpAny_Name ?_ hd
  rcases z with ⟨a, m, b, e⟩ | ⟨a, cl, b, e⟩
  · exact wpAny_loadName_local c.st.kind a b e ⟨kRefl s, r⟩
  · rcases a with a | ⟨a, a'⟩
    · exact wpAny_loadName_cell c.st.kind a b e ⟨kRefl s, r⟩
    · exact wpAny_loadName_free c.st.kind a b e ⟨kRefl s, r⟩ a'
theorem Cx.kin (c : Cx w hb n A env ls σ ad s) : (Kf w).In s.heap := fun a o e => c.inv.keep a o (fun h => by
  subst h
  have : (Kf w).lookup tb = none := rfl
  (first | exact nS this e | exact nS e this | exact nD this e | exact nD e this | cases sE this e | (rw [this] at e; cases e))) (c.inv.bs.k a o e)
theorem Inv.kin (i : Inv w hb s) : (Kf w).In s.heap := fun a o e => i.keep a o (fun h => by
  subst h
  have : (Kf w).lookup tb = none := rfl
  (first | exact nS this e | exact nS e this | exact nD this e | exact nD e this | cases sE this e | (rw [this] at e; cases e))) (i.bs.k a o e)
theorem Inv.lim (i : Inv w hb s) : s.heap.NoLimit := by
  obtain ⟨mc, ⟨o, es, ep, ho, r⟩, q⟩ := i.bs.lim
  exact ⟨mc, ⟨o, es, ep, i.keep _ _ (by decide) ho, r⟩, q⟩
theorem Inv.blt (i : Inv w hb s) : ∃ mb, s.heap.Ns builtinsNs mb ∧ ∀ x : Str, x ≠ "__name__" → mb x = bootBuiltins x := by
  obtain ⟨mb, ⟨o, es, ep, ho, r⟩, q⟩ := i.bs.b
  exact ⟨mb, ⟨o, es, ep, i.keep _ _ (by decide) ho, r⟩, q⟩
theorem glob_ns {h : Heap} (X : (Kf w).In h) : ∃ mg, h.Ns mainGlobals mg := by
  have e : ∃ o, (Kf w).lookup mainGlobals = some o ∧ ∃ es ep, o.data = .dict es ep ∧ StrKeys es := ⟨_, rfl, _, _, rfl, by
    intro e he
    rw [← Array.mem_toList_iff] at he
    (first | replace he := mem2 he | replace he := mem3 he | simp only [List.mem_cons, List.not_mem_nil, or_false] at he)
    rcases he with h | h | h | h | h | h | h | h | h | h | h | h | h | h | h | h | h | h | h | h | h | h | h | h | h | h | h <;> (subst h; exact ⟨_, _, rfl⟩)⟩
  obtain ⟨o, e, es, ep, hd, hk⟩ := e
  exact ⟨_, o, es, ep, X _ _ e, hd, hk, fun _ => rfl⟩
theorem Ev.glob {x : Str} {v : Value} {pos : Pos} (hx : env.kindOf x = some .globalImplicit) (e : nsIn (Kf w) mainGlobals x = some (some v)) (hd : autoParam ((x == ("__debug__" : Str)) = false) Mine.auD) :
    Ev w hb n env ls σ (.Name x pos) (.val v) := fun A s ad c => by
  obtain ⟨mg, hg⟩ := glob_ns c.kin
  exact Name_function_global c.st.kind hx (loadGlobal_global (c.st.glo ▸ hg) (mg_of c.kin hg e) ⟨kRefl s, .val v⟩) hd
theorem Ev.blt {x : Str} {v : Value} {pos : Pos} (hx : env.kindOf x = some .globalImplicit) (e : nsIn (Kf w) mainGlobals x = some none) (hv : bootBuiltins x = some v) (hn : autoParam (x ≠ "__name__") Mine.auD) (hd : autoParam ((x == ("__debug__" : Str)) = false) Mine.auD) :
    Ev w hb n env ls σ (.Name x pos) (.val v) := fun A s ad c => by
  obtain ⟨mg, hg⟩ := glob_ns c.kin
  obtain ⟨mb, hm, hq⟩ := c.inv.blt
  exact Name_function_global c.st.kind hx (loadGlobal_builtin (c.st.glo ▸ hg) (mg_none_of c.kin hg e) (c.st.bui ▸ hm) ((hq x hn).trans hv) ⟨kRefl s, .val v⟩) hd
theorem Ev.int {i : Int} {k : Nat} {pos : Pos} : Ev w hb n env ls σ (.Constant (.int i) k pos) (.int i) := fun A s ad c => wpAny_Constant_int ⟨kToks s _, .int _ _⟩
theorem Ev.str {x : Str} {k : Nat} {pos : Pos} : Ev w hb n env ls σ (.Constant (.str x) k pos) (.str x) := fun A s ad c => Constant_str ⟨kToks s _, .str _ _⟩
theorem Ev.none {k : Nat} {pos : Pos} : Ev w hb n env ls σ (.Constant .none k pos) .none := fun A s ad c => wpAny_Constant_none ⟨kRefl s, .none⟩
/-! several -/
noncomputable def EvS (w : World) (hb : Heap) (n : Nat) (env : Env) (ls : List (Str × D)) (σ : List Ob) (es : List PySem.Expr) (ds : List D) : Prop :=
  ∀ (A : Around) (s : Shared) (ad : List Addr) (pos : Pos), Cx w hb n A env ls σ ad s →
    wpAny (model pg w) A (spliced (backTo pos (starEach es env))) (fun vs s' => Keeps s s' ∧ RdAll s'.heap ad vs ds) (fun _ _ => False) s
theorem EvS.use {es : List PySem.Expr} {ds : List D} {pos : Pos} {Q : List Value → Shared → Prop} (he : EvS w hb n env ls σ es ds) (c : Cx w hb n A env ls σ ad s)
    (h : ∀ vs s', Keeps s s' → Cx w hb n A env ls σ ad s' → RdAll s'.heap ad vs ds → Q vs s') : wpAny (model pg w) A (spliced (backTo pos (starEach es env))) Q E s :=
  wpAny_mono (he A s ad pos c) (fun v s' q => h v s' q.1 (c.keeps q.1) q.2) fun _ _ f => f.elim
theorem EvS.nil : EvS w hb n env ls σ [] [] := fun A s ad pos c => spliced_nil ⟨kRefl s, .nil⟩
theorem EvS.cons {e : PySem.Expr} {es : List PySem.Expr} {d : D} {ds : List D} (h1 : Ev w hb n env ls σ e d) (h2 : EvS w hb n env ls σ es ds)
    (he : autoParam (starEach (e :: es) env = (false, eval e env) :: starEach es env) Mine.auR) : EvS w hb n env ls σ (e :: es) (d :: ds) := fun A s ad pos c => by
  refine spliced_more (h1.use c fun v s1 k1 c1 r1 => h2.use c1 fun vs s2 k2 c2 r2 => ⟨kTrans k1 k2, .cons (r1.keeps (kHeap k2)) r2⟩) he

noncomputable def IsSeq (σ : List Ob) (d : D) (xs : List D) : Prop := d = .lst xs ∨ d = .tup xs ∨ ∃ k : Nat, d = .own k ∧ σ[k]? = some (.lst xs)
noncomputable def IsL (σ : List Ob) (d : D) (xs : List D) : Prop := d = .lst xs ∨ ∃ k : Nat, d = .own k ∧ σ[k]? = some (.lst xs)
theorem Rd.isL {h : Heap} {v : Value} {d : D} {xs : List D} (r : Rd h ad v d) (l : IsL σ d xs) (o : Own hb σ ad h) :
    ∃ a ob vs n, v = .ref a ∧ h.get? a = some ob ∧ ob.cls = .type "list" ∧ ob.dict = Option.none ∧ ob.data = .seq vs n ∧ RdAll h ad vs.toList xs := by
  rcases l with rfl | ⟨k, rfl, hk⟩
  · cases r with
    | lst h1 h2 h3 h4 h5 h6 => exact ⟨_, _, _, _, rfl, h1, h2, h3, h4, h6⟩
  · cases r with
    | own h1 =>
      cases o.at' k _ _ h1 hk with
      | lst g1 g2 g3 g4 g5 => exact ⟨_, _, _, _, rfl, g1, g2, g3, g4, g5⟩
theorem Rd.isT {h : Heap} {v : Value} {xs : List D} (r : Rd h ad v (.tup xs)) :
    ∃ a ob vs n, v = .ref a ∧ h.get? a = some ob ∧ ob.cls = .type "tuple" ∧ ob.dict = Option.none ∧ ob.data = .seq vs n ∧ RdAll h ad vs.toList xs := by
  cases r with
  | tup h1 h2 h3 h4 h5 h6 => exact ⟨_, _, _, _, rfl, h1, h2, h3, h4, h6⟩

/-! calls -/
noncomputable def Kpr (w : World) (f : Value) : Prop := ∀ h, (Kf w).In h → ∃ k, (k = Keeper.frame ∨ k = Keeper.machine ∨ k = Keeper.boundFrame) ∧ Looks (model pg w) h (keeperOf f) k
theorem Kpr.K {f : Value} (h : keepIn (Kf w) f = true) : Kpr w f := fun h' X => keeps_K h h' X
theorem Kpr.blt {id : String} : Kpr w (.builtin id) := fun h X => ⟨.machine, .inr (.inl rfl), Looks.of_pure rfl⟩
theorem Kpr.typ {T : String} : Kpr w (.type T) := fun h X => ⟨.machine, .inr (.inl rfl), Looks.of_pure rfl⟩

-- what a call of f gives
noncomputable def Fs (w : World) (hb : Heap) (n : Nat) (f : Value) (args : List D) (σ : List Ob) (d : D) : Prop :=
  ∀ (A : Around) (s : Shared) (ad : List Addr) (vals : List Value), Rm hb n A s.heap → Inv w hb s → Own hb σ ad s.heap → RdAll s.heap ad vals args →
    wpAny (model pg w) A (call f vals) (fun v s' => Keeps s s' ∧ Rd s'.heap ad v d) (fun _ _ => False) s
theorem Fs.use {f : Value} {args : List D} {d : D} {vals : List Value} {Q : Value → Shared → Prop} (hf : Fs w hb n f args σ d) (c : Cx w hb n A env ls σ ad s) (r : RdAll s.heap ad vals args)
    (h : ∀ v s', Keeps s s' → Cx w hb n A env ls σ ad s' → Rd s'.heap ad v d → Q v s') : wpAny (model pg w) A (call f vals) Q E s :=
  wpAny_mono (hf A s ad vals c.rm c.inv c.st.own r) (fun v s' q => h v s' q.1 (c.keeps q.1) q.2) fun _ _ f => f.elim

-- arguments, with stars
noncomputable def EvA (w : World) (hb : Heap) (n : Nat) (env : Env) (ls : List (Str × D)) (σ : List Ob) (es : List PySem.Expr) (ds : List D) : Prop :=
  ∀ (A : Around) (s : Shared) (ad : List Addr) (pos : Pos) (f : Value), Cx w hb n A env ls σ ad s →
    wpAny (model pg w) A (evalArgs f true (backTo pos (starEach es env)) []) (fun a s' => ∃ vs, a = ⟨vs, []⟩ ∧ Keeps s s' ∧ RdAll s'.heap ad vs ds) (fun _ _ => False) s
theorem EvA.nil : EvA w hb n env ls σ [] [] := fun A s ad pos f c => evalArgs_nil3 ⟨[], rfl, kRefl s, .nil⟩
theorem EvA.plain {e : PySem.Expr} {es : List PySem.Expr} {ds : List D} (h : EvS w hb n env ls σ (e :: es) ds)
    (he : autoParam (starEach (e :: es) env = (false, eval e env) :: starEach es env) Mine.auR) : EvA w hb n env ls σ (e :: es) ds := fun A s ad pos f c => by
  have := h A s ad pos c
  rw [he] at this ⊢
  exact evalArgs_plain (wpAny_mono this (fun vs s' q => ⟨vs, rfl, q.1, q.2⟩) fun _ _ f => f)

theorem callWith_any {f : Value} {first : List Value} {pos : Pos} {es : List PySem.Expr} {ds : List D} {Q : Value → Shared → Prop} (hk : Kpr w f) (ha : EvA w hb n env ls σ es ds) (c : Cx w hb n A env ls σ ad s)
    (h : ∀ vs s', Keeps s s' → Cx w hb n A env ls σ ad s' → RdAll s'.heap ad vs ds → wpAny (model pg w) A (call f (first ++ vs)) Q E s') :
    wpAny (model pg w) A (callWith pos f first (backTo pos (starEach es env)) []) Q E s := by
  have z : wpAny (model pg w) A (evalArgs f true (backTo pos (starEach es env)) []) (fun a s₁ => (Kf w).In s₁.heap ∧ wpAny (model pg w) A (call f (first ++ a.pos) a.kw) Q E s₁) E s := by
    refine wpAny_mono (ha A s ad pos f c) (fun a s' q => ?_) fun _ _ f => f.elim
    obtain ⟨vs, rfl, k, r⟩ := q
    exact ⟨(c.keeps k).kin, h vs s' k (c.keeps k) r⟩
  cases hs : (backTo pos (starEach es env)).any (·.1) with
  | false => exact callWith_of (P := (Kf w).In) (by rw [hs]; rfl) hk z
  | true => exact ks_call (P := (Kf w).In) hs hk z

theorem Ev.call {x : Str} {np pos : Pos} {es : List PySem.Expr} {f : Value} {ds : List D} {d : D} (hn : Ev w hb n env ls σ (.Name x np) (.val f)) (hk : Kpr w f) (ha : EvA w hb n env ls σ es ds) (hf : Fs w hb n f ds σ d) :
    Ev w hb n env ls σ (.Call (.Name x np) es [] pos) d := fun A s ad c => by
  refine wpAny_Call_NameR (hn.use c fun v s1 k1 c1 r1 => ?_)
  (first | obtain rfl := r1.toV | obtain ⟨t, rfl⟩ := r1.toS | obtain ⟨t, rfl⟩ := r1.toI | obtain rfl := r1.toB | cases r1)
  refine callWith_any hk ha c1 fun vs s2 k2 c2 r2 => ?_
  rw [List.nil_append]
  exact hf.use c2 r2 fun v s3 k3 c3 r3 => ⟨kTrans k1 (kTrans k2 k3), r3⟩
end
end Mine
end

section
open PySem PySem.W PySem.Calls PyProof.Rows
set_option Elab.async false
set_option tactic.hygienic false
set_option linter.unusedVariables false
namespace Mine

theorem ns_unique {h : Heap} {a : Addr} {m m' : Str → Option Value} (x : h.Ns a m) (y : h.Ns a m') : m = m' := by
  obtain ⟨o, es, ep, ho, hd, _, hf⟩ := x
  obtain ⟨o', es', ep', ho', hd', _, hf'⟩ := y
  (first | exact nS ho ho' | exact nS ho' ho | exact nD ho ho' | exact nD ho' ho | cases sE ho ho' | (rw [ho] at ho'; cases ho'))
  (first | exact nS hd hd' | exact nS hd' hd | exact nD hd hd' | exact nD hd' hd | cases sE hd hd' | (rw [hd] at hd'; cases hd'))
  funext z; rw [← hf, ← hf']

-- the addresses that a frame's own stores turn
noncomputable def fx (env : Env) : List Addr := env.locals :: (env.cells.filter fun p => env.kindOf p.1 == some .cell).map (·.2)
structure KeepsX (X : List Addr) (s s' : Shared) : Prop where
  get : ∀ b o, b ∉ X → s.heap.get? b = some o → (b = tb → ∀ vs, o.data ≠ .fields vs) → s'.heap.get? b = some o
  tab : TabOk s.heap → TabOk s'.heap
  bare : AllBare s.gens → AllBare s'.gens
  os : s'.os = s.os
noncomputable abbrev KeepsF (env : Env) (s s' : Shared) : Prop := KeepsX (fx env) s s'
theorem KeepsX.refl (X : List Addr) (s : Shared) : KeepsX X s s := ⟨fun _ _ _ e _ => e, id, id, rfl⟩
theorem KeepsX.trans {X : List Addr} {s s' s'' : Shared} (x : KeepsX X s s') (y : KeepsX X s' s'') : KeepsX X s s'' :=
  ⟨fun b o hb e q => y.get b o hb (x.get b o hb e q) q, fun t => y.tab (x.tab t), fun t => y.bare (x.bare t), y.os.trans x.os⟩
theorem KeepsX.mono {X Y : List Addr} {s s' : Shared} (x : KeepsX X s s') (h : ∀ b ∈ X, b ∈ Y) : KeepsX Y s s' := ⟨fun b o hb e q => x.get b o (fun hm => hb (h b hm)) e q, x.tab, x.bare, x.os⟩
theorem KeepsX.drop {I : Addr} {X : List Addr} {s s' : Shared} (x : KeepsX (I :: X) s s') (hI : s.heap.get? I = none) : KeepsX X s s' :=
  ⟨fun b o hb e q => x.get b o (fun hm => by
    rcases memc hm with rfl | hm
    · (first | exact nS hI e | exact nS e hI | exact nD hI e | exact nD e hI | cases sE hI e | (rw [hI] at e; cases e))
    · exact hb hm) e q, x.tab, x.bare, x.os⟩
theorem KeepsX.of {X : List Addr} {s s' : Shared} (x : Keeps s s') : KeepsX X s s' := ⟨fun b o _ e q => x.heap.get b o e q, x.heap.tab, x.bare, x.os⟩
theorem KeepsX.nil {s s' : Shared} (x : KeepsX [] s s') : Keeps s s' := ⟨⟨fun b o e q => x.get b o (by simp) e q, x.tab⟩, x.bare, x.os⟩
theorem kfRefl (env : Env) (s : Shared) : KeepsF env s s := .refl _ s
theorem kfTrans {env : Env} {s s' s'' : Shared} (x : KeepsF env s s') (y : KeepsF env s' s'') : KeepsF env s s'' := x.trans y
theorem kfOf {env : Env} {s s' : Shared} (x : Keeps s s') : KeepsF env s s' := .of x
theorem kfHeap {X : List Addr} {s s' : Shared} (x : KeepsX X s s') : ∀ b o, b ∉ X → b ≠ tb → s.heap.get? b = some o → s'.heap.get? b = some o := fun b o hb ht e => x.get b o hb e fun q => absurd q ht

structure Fun (hb : Heap) (env : Env) (h : Heap) : Prop where
  nsf : ∃ m, h.Ns env.locals m ∧ m "_initial_size" = none
  kin : env.kindOf "_initial_size" ≠ some .local
  cel : ∀ n c, (n, c) ∈ env.cells → env.kindOf n = some .cell → hb.get? c = none
  apart : env.cells.Pairwise fun x y => x.2 ≠ y.2
  frame : env.frame = some env.locals

theorem mem_fx {env : Env} {b : Addr} (h : b ∈ fx env) : b = env.locals ∨ ∃ n, (n, b) ∈ env.cells ∧ env.kindOf n = some .cell := by
  unfold fx at h
  rcases List.mem_cons.mp h with h | h
  · exact .inl h
  · obtain ⟨⟨n, c⟩, hm, rfl⟩ := List.mem_map.mp h
    obtain ⟨h1, h2⟩ := List.mem_filter.mp hm
    exact .inr ⟨n, h1, by simpa using h2⟩

structure Cs (w : World) (hb : Heap) (n : Nat) (A : Around) (env : Env) (ls : List (Str × D)) (σ : List Ob) (ad : List Addr) (s : Shared) : Prop where
  cx : Cx w hb n A env ls σ ad s
  top : ∃ outer, A.frames = some (env :: outer)
  fn : Fun hb env s.heap

section
variable {w : World} {hb : Heap} {n : Nat} {A : Around} {env : Env} {ls : List (Str × D)} {σ : List Ob} {ad : List Addr} {s s' : Shared} {E : Value → Shared → Prop}

theorem Fun.keeps {h h' : Heap} (k : Kh h h') (x : Fun hb env h) : Fun hb env h' :=
  ⟨let ⟨m, a, b⟩ := x.nsf; ⟨m, k.ns a, b⟩, x.kin, x.cel, x.apart, x.frame⟩
theorem Cs.keeps (k : Keeps s s') (x : Cs w hb n A env ls σ ad s) : Cs w hb n A env ls σ ad s' := ⟨x.cx.keeps k, x.top, x.fn.keeps (kHeap k)⟩

theorem Cs.fxcls (x : Cs w hb n A env ls σ ad s) {b : Addr} (hm : b ∈ fx env) : hb.get? b = none ∧ b ∉ ad ∧ ∃ o, s.heap.get? b = some o ∧ (∀ vs n, o.data ≠ .seq vs n) ∧ (∀ t, ¬ s.heap.Ns b (accNs t)) ∧ ∀ vs, o.data ≠ .fields vs := by
  rcases mem_fx hm with rfl | ⟨nm, h1, h2⟩
  · obtain ⟨m, hn, hi⟩ := x.fn.nsf
    obtain ⟨o', es, ep, e', hd, _⟩ := id hn
    refine ⟨x.cx.st.loc, x.cx.st.locad, o', e', fun vs n q => (by (first | exact nS hd q | exact nS q hd | exact nD hd q | exact nD q hd | cases sE hd q | (rw [hd] at q; cases q))), fun t q => ?_, fun vs q => by (first | exact nS hd q | exact nS q hd | exact nD hd q | exact nD q hd | cases sE hd q | (rw [hd] at q; cases q))⟩
    have := ns_unique q hn
    rw [← this] at hi
    simp [accNs] at hi
  · have a := x.fn.cel nm b h1 h2
    obtain ⟨p, _, _, v, o', e', hd⟩ := x.cx.st.cel nm b h1
    refine ⟨a, p, o', e', fun vs n q => (by (first | exact nS hd q | exact nS q hd | exact nD hd q | exact nD q hd | cases sE hd q | (rw [hd] at q; cases q))), fun t q => ?_, fun vs q => by (first | exact nS hd q | exact nS q hd | exact nD hd q | exact nD q hd | cases sE hd q | (rw [hd] at q; cases q))⟩
    obtain ⟨o₂, _, _, e₂, hd₂, _⟩ := q
    (first | exact nS e' e₂ | exact nS e₂ e' | exact nD e' e₂ | exact nD e₂ e' | cases sE e' e₂ | (rw [e'] at e₂; cases e₂)); (first | exact nS hd hd₂ | exact nS hd₂ hd | exact nD hd hd₂ | exact nD hd₂ hd | cases sE hd hd₂ | (rw [hd] at hd₂; cases hd₂))

theorem Cs.nottb (x : Cs w hb n A env ls σ ad s) {b : Addr} (hm : b ∈ fx env) : b ≠ tb ∧ b ≠ 173 := by
  obtain ⟨h1, _⟩ := x.fxcls hm
  refine ⟨?_, ?_⟩
  · rintro rfl; (first | exact nS x.cx.inv.bs.tbl h1 | exact nS h1 x.cx.inv.bs.tbl | exact nD x.cx.inv.bs.tbl h1 | exact nD h1 x.cx.inv.bs.tbl | cases sE x.cx.inv.bs.tbl h1 | (rw [x.cx.inv.bs.tbl] at h1; cases h1))
  · rintro rfl
    have := x.cx.inv.bs.k 173 _ rfl
    (first | exact nS h1 this | exact nS this h1 | exact nD h1 this | exact nD this h1 | cases sE h1 this | (rw [h1] at this; cases this))

theorem TabOk.fields {h : Heap} (t : TabOk h) : ∃ o vs, h.get? tb = some o ∧ o.data = .fields vs := by
  obtain ⟨ps, _, _, e⟩ := t
  exact ⟨_, _, e, rfl⟩
theorem TabOk.nd {h : Heap} (t : TabOk h) : (∀ o, h.get? tb = some o → ∀ vs n, o.data ≠ .seq vs n) ∧ ∀ t, ¬ h.Ns tb (accNs t) := by
  obtain ⟨o, vs, e, hd⟩ := t.fields
  refine ⟨fun o' e' vs' n q => ?_, fun t q => ?_⟩
  · (first | exact nS e e' | exact nS e' e | exact nD e e' | exact nD e' e | cases sE e e' | (rw [e] at e'; cases e')); (first | exact nS hd q | exact nS q hd | exact nD hd q | exact nD q hd | cases sE hd q | (rw [hd] at q; cases q))
  · obtain ⟨o', _, _, e', hd', _⟩ := q; (first | exact nS e e' | exact nS e' e | exact nD e e' | exact nD e' e | cases sE e e' | (rw [e] at e'; cases e')); (first | exact nS hd hd' | exact nS hd' hd | exact nD hd hd' | exact nD hd' hd | cases sE hd hd' | (rw [hd] at hd'; cases hd'))
-- what holds of a state whose frame alone has turned
theorem Cs.car (x : Cs w hb n A env ls σ ad s) (k : KeepsF env s s') : Car s.heap s'.heap ad ad (tb :: fx env) :=
  ⟨fun b o hb' e => ⟨o, kfHeap k b o (fun q => hb' (List.mem_cons_of_mem _ q)) (fun q => hb' (by rw [q]; exact List.mem_cons_self)) e, .refl o⟩, fun b hm => .inr (by
      rcases memc hm with rfl | hm
      · exact x.cx.inv.tab.nd
      · obtain ⟨_, _, o', e', c, c', _⟩ := x.fxcls hm
        exact ⟨fun o e => by (first | exact nS e e' | exact nS e' e | exact nD e e' | exact nD e' e | cases sE e e' | (rw [e] at e'; cases e')); exact c, c'⟩),
    fun _ _ e => e, fun _ e => .inl e⟩

theorem RdOb.car {h h' : Heap} {ad ad' ex : List Addr} (c : Car h h' ad ad' ex) {a : Addr} {o : Ob} (x : RdOb h ad a o) (hx : ∀ ob, h.get? a = some ob → ∃ ob', h'.get? a = some ob' ∧ Sm ob ob') : RdOb h' ad' a o := by
  cases x with
  | lst h1 h2 h3 h4 h5 =>
    obtain ⟨o', e, m⟩ := hx _ h1
    exact .lst e (m.1.trans h2) (m.2.1.trans h3) (m.2.2.trans h4) (h5.car c)
  | acc h1 h2 =>
    obtain ⟨n, o, dA, od, t, g1, g2, g3, g4, g5, g6, g7, g8⟩ := h1
    obtain ⟨o', e1, m1⟩ := hx _ g1
    obtain ⟨od', e2, m2⟩ := c.atD g5 g7 g8
    refine .acc ⟨n, o', dA, od', t, e1, m1.1.trans g2, m1.2.1.trans g3, m1.2.2.trans g4, e2, m2.small g6, c.notin g5 g7, ns_sm g8 fun o q => ?_⟩ (h2.car c)
    (first | exact nS g5 q | exact nS q g5 | exact nD g5 q | exact nD q g5 | cases sE g5 q | (rw [g5] at q; cases q)); exact ⟨od', e2, m2⟩

theorem Own.seqs {h : Heap} (o : Own hb σ ad h) {a : Addr} (ha : a ∈ ad) : ∃ ob vs n, h.get? a = some ob ∧ ob.data = .seq vs n := by
  obtain ⟨i, hi⟩ := List.mem_iff_getElem?.mp ha
  have hl : i < σ.length := by rw [← o.len]; exact (List.getElem?_eq_some_iff.mp hi).1
  have z := o.at' i a _ hi (List.getElem?_eq_getElem hl)
  generalize σ[i] = ob at z
  cases z with
  | lst h1 h2 h3 h4 => exact ⟨_, _, _, h1, h4⟩
  | acc h1 => obtain ⟨_, _, _, _, _, e, _, _, e4, _⟩ := h1; exact ⟨_, _, _, e, e4⟩
theorem Own.nottb {h : Heap} (o : Own hb σ ad h) (bs : Bs w hb) {a : Addr} (ha : a ∈ ad) : a ≠ tb := by
  rintro rfl
  have := o.new _ ha
  (first | exact nS bs.tbl this | exact nS this bs.tbl | exact nD bs.tbl this | exact nD this bs.tbl | cases sE bs.tbl this | (rw [bs.tbl] at this; cases this))
theorem Cs.own' (x : Cs w hb n A env ls σ ad s) (k : KeepsF env s s') : Own hb σ ad s'.heap :=
  ⟨x.cx.st.own.len, x.cx.st.own.nd, x.cx.st.own.new, fun i a o e1 e2 => (x.cx.st.own.at' i a o e1 e2).car (x.car k) fun ob e =>
    ⟨ob, kfHeap k a ob (fun hm => (x.fxcls hm).2.1 (List.mem_of_getElem? e1)) (x.cx.st.own.nottb x.cx.inv.bs (List.mem_of_getElem? e1)) e, .refl ob⟩⟩

theorem Cs.inv' (x : Cs w hb n A env ls σ ad s) (k : KeepsF env s s') : Inv w hb s' := by
  refine ⟨x.cx.inv.bs, fun b o hb' e => kfHeap k b o (fun hm => ?_) hb' (x.cx.inv.keep b o hb' e), k.tab x.cx.inv.tab, k.bare x.cx.inv.bare⟩
  have := (x.fxcls hm).1
  (first | exact nS e this | exact nS this e | exact nD e this | exact nD this e | cases sE e this | (rw [e] at this; cases this))

theorem Cs.rm' (x : Cs w hb n A env ls σ ad s) (k : KeepsF env s s') (hf : ∀ b ∈ fx env, ∃ o, s'.heap.get? b = some o ∧ (∀ vs, o.data ≠ .fields vs) ∧ ∀ vs n, o.data ≠ .seq vs n) : Rm hb n A s'.heap := by
  refine ⟨x.cx.rm.handled, x.cx.rm.depth, x.cx.rm.units, ?_⟩
  obtain ⟨outer, e, f⟩ := x.cx.rm.frames
  refine ⟨outer, e, fun env' he => ?_⟩
  obtain ⟨q, L, o, h1, h2, h3, h4⟩ := f env' he
  by_cases hm : L ∈ fx env
  · obtain ⟨o', e', f'⟩ := hf L hm
    exact ⟨q, L, o', h1, h2, e', f'⟩
  · exact ⟨q, L, o, h1, h2, k.get L o hm h3 fun _ => h4.1, h4⟩

theorem look_cons {x y : Str} {d : D} : ((x, d) :: ls).lookup y = if y == x then some d else ls.lookup y := by
  rw [List.lookup_cons]; cases y == x <;> rfl

-- a store into the frame
theorem store_ok {x : Str} {v : Value} {d : D} {Q : Unit → Shared → Prop} (c : Cs w hb n A env ls σ ad s) (r : Rd s.heap ad v d)
    (hx : env.kindOf x = some .local ∨ (env.kindOf x = some .cell ∧ (env.cells.lookup x).isSome = true))
    (h : ∀ s', KeepsF env s s' → Cs w hb n A env ((x, d) :: ls) σ ad s' → Q () s') : wpAny (model pg w) A (storeName env x v) Q E s := by
  have kindf := c.cx.st.kind
  rcases hx with hx | ⟨hx, hl⟩
  · obtain ⟨m, hn⟩ := c.cx.st.ns
    refine wpAny_storeName_local hx hn (fun h' hn' hs => ?_) (by rw [kindf]; rfl)
    have kf : KeepsF env s { s with heap := h', toks := s.toks + 1 } := ⟨fun b o hb' e _ => hs.extBut b o (fun q => hb' (by rw [q]; exact List.mem_cons_self)) e,
      tabKeeps fun b o q e => hs.extBut b o (fun q' => by
        have := c.nottb (b := b) (by rw [q']; exact List.mem_cons_self)
        rcases q with q | q
        · exact this.1 q
        · exact this.2 q) e, id, rfl⟩
    have car := c.car kf
    have keepc : ∀ cc vv, s.heap.IsCell cc vv → cc ≠ env.locals → h'.IsCell cc vv := fun cc vv z hne => z.sameBut hs hne
    have st' : St hb env ((x, d) :: ls) σ ad h' := {
      nm := fun y dy e => by
        rw [look_cons] at e
        by_cases hy : (y == x) = true
        · rw [if_pos hy] at e; cases e
          rw [beq_iff_eq.mp hy]
          exact ⟨v, .inl ⟨hx, _, hn', by simp⟩, r.car car⟩
        · rw [if_neg hy] at e
          obtain ⟨vy, z, ry⟩ := c.cx.st.nm y dy e
          refine ⟨vy, ?_, ry.car car⟩
          rcases z with ⟨a, m₁, b, e'⟩ | ⟨a, cl, b, e'⟩
          · have : m₁ = m := ns_unique b hn
            subst this
            exact .inl ⟨a, _, hn', by simp only [show ¬ y = x from fun q => hy (by rw [q]; exact beq_self_eq_true x), if_false]; exact e'⟩
          · exact .inr ⟨a, cl, b, keepc _ _ e' (c.cx.st.cel y cl (mem_of_lookup b)).2.1⟩
      ns := ⟨_, hn'⟩
      loc := c.cx.st.loc
      locad := c.cx.st.locad
      cel := fun nm cl hm => let ⟨a, b, d', vv, z⟩ := c.cx.st.cel nm cl hm; ⟨a, b, d', vv, keepc _ _ z b⟩
      kind := kindf
      glo := c.cx.st.glo
      bui := c.cx.st.bui
      own := c.own' kf }
    have fn' : Fun hb env h' := by
      refine ⟨⟨_, hn', ?_⟩, c.fn.kin, c.fn.cel, c.fn.apart, c.fn.frame⟩
      obtain ⟨m₂, hn₂, hi⟩ := c.fn.nsf
      have : m₂ = m := ns_unique hn₂ hn
      subst this
      have hne : ¬ ("_initial_size" : Str) = x := fun q => c.fn.kin (by rw [q]; exact hx)
      simp only [hne, if_false]; exact hi
    refine h _ kf ⟨⟨c.rm' kf fun b hm => ?_, c.inv' kf, st'⟩, c.top, fn'⟩
    by_cases q : b = env.locals
    · subst q
      obtain ⟨o', es, ep, ho', hd', rest⟩ := hn'
      exact ⟨o', ho', fun vs q' => (by (first | exact nS hd' q' | exact nS q' hd' | exact nD hd' q' | exact nD q' hd' | cases sE hd' q' | (rw [hd'] at q'; cases q'))), fun vs n q' => by (first | exact nS hd' q' | exact nS q' hd' | exact nD hd' q' | exact nD q' hd' | cases sE hd' q' | (rw [hd'] at q'; cases q'))⟩
    · obtain ⟨_, _, o, e, f0, _, f⟩ := c.fxcls hm
      exact ⟨o, (hs.2 b q).trans e, f, f0⟩
  · obtain ⟨cl, hl⟩ := Option.isSome_iff_exists.mp hl
    have hmem := mem_of_lookup hl
    obtain ⟨p1, p2, p3, v0, hcell⟩ := c.cx.st.cel x cl hmem
    refine wpAny_storeName_cell kindf hx hl hcell fun h' hc' hs => ?_
    have hfx : cl ∈ fx env := List.mem_cons_of_mem _ (List.mem_map.mpr ⟨(x, cl), List.mem_filter.mpr ⟨hmem, by simp [hx]⟩, rfl⟩)
    have kf : KeepsF env s { s with heap := h' } := ⟨fun b o hb' e _ => hs.extBut b o (fun q => hb' (by rw [q]; exact hfx)) e,
      tabKeeps fun b o q e => hs.extBut b o (fun q' => by
        have := c.nottb (b := b) (by rw [q']; exact hfx)
        rcases q with q | q
        · exact this.1 q
        · exact this.2 q) e, id, rfl⟩
    have car := c.car kf
    have other : ∀ y cy, (y, cy) ∈ env.cells → y ≠ x → cy ≠ cl := fun y cy hy hne q => hne (name_of_addr c.fn.apart (q ▸ hy) hmem)
    have st' : St hb env ((x, d) :: ls) σ ad h' := {
      nm := fun y dy e => by
        rw [look_cons] at e
        by_cases hy : (y == x) = true
        · rw [if_pos hy] at e; cases e
          rw [beq_iff_eq.mp hy]
          exact ⟨v, .inr ⟨.inl hx, cl, hl, hc'⟩, r.car car⟩
        · rw [if_neg hy] at e
          obtain ⟨vy, z, ry⟩ := c.cx.st.nm y dy e
          refine ⟨vy, ?_, ry.car car⟩
          rcases z with ⟨a, m₁, b, e'⟩ | ⟨a, cy, b, e'⟩
          · exact .inl ⟨a, m₁, b.sameBut hs p2.symm, e'⟩
          · exact .inr ⟨a, cy, b, e'.sameBut hs (other y cy (mem_of_lookup b) fun q => hy (by rw [q]; exact beq_self_eq_true x))⟩
      ns := let ⟨m, hn⟩ := c.cx.st.ns; ⟨m, hn.sameBut hs p2.symm⟩
      loc := c.cx.st.loc
      locad := c.cx.st.locad
      cel := fun nm cc hm => by
        obtain ⟨a, b, d', vv, z⟩ := c.cx.st.cel nm cc hm
        by_cases q : cc = cl
        · subst q; exact ⟨a, b, d', _, hc'⟩
        · exact ⟨a, b, d', vv, z.sameBut hs q⟩
      kind := kindf
      glo := c.cx.st.glo
      bui := c.cx.st.bui
      own := c.own' kf }
    have fn' : Fun hb env h' := ⟨let ⟨m, hn, hi⟩ := c.fn.nsf; ⟨m, hn.sameBut hs p2.symm, hi⟩, c.fn.kin, c.fn.cel, c.fn.apart, c.fn.frame⟩
    refine h _ kf ⟨⟨c.rm' kf fun b hm => ?_, c.inv' kf, st'⟩, c.top, fn'⟩
    by_cases q : b = cl
    · subst q
      obtain ⟨o', ho', hd'⟩ := hc'
      exact ⟨o', ho', fun vs q' => (by (first | exact nS hd' q' | exact nS q' hd' | exact nD hd' q' | exact nD q' hd' | cases sE hd' q' | (rw [hd'] at q'; cases q'))), fun vs n q' => by (first | exact nS hd' q' | exact nS q' hd' | exact nD hd' q' | exact nD q' hd' | cases sE hd' q' | (rw [hd'] at q'; cases q'))⟩
    · obtain ⟨_, _, o, e, f0, _, f⟩ := c.fxcls hm
      exact ⟨o, (hs.2 b q).trans e, f, f0⟩
end
end Mine
end

section
open PySem PySem.W PySem.Calls PyProof.Rows
set_option Elab.async false
set_option tactic.hygienic false
set_option linter.unusedVariables false
namespace Mine

inductive Out where
  | next (ls : List (Str × D))
  | brk (ls : List (Str × D))
  | ret (d : D)

noncomputable def OkF (w : World) (hb : Heap) (n : Nat) (A : Around) (env : Env) (σ : List Ob) (ad : List Addr) (f : Flow) (s : Shared) : Out → Prop
  | .next ls => f = .next ∧ Cs w hb n A env ls σ ad s
  | .brk ls => f = .brk ∧ Cs w hb n A env ls σ ad s
  | .ret d => ∃ v, f = .ret v ∧ Rd s.heap ad v d

noncomputable def Ex (w : World) (hb : Heap) (n : Nat) (env : Env) (ls : List (Str × D)) (σ : List Ob) (st : Stmt) (o : Out) : Prop :=
  ∀ (A : Around) (s : Shared) (ad : List Addr), Cs w hb n A env ls σ ad s →
    wpAny (model pg w) A (exec st env) (fun f s' => KeepsF env s s' ∧ OkF w hb n A env σ ad f s' o) (fun _ _ => False) s
noncomputable def Exs (w : World) (hb : Heap) (n : Nat) (env : Env) (ls : List (Str × D)) (σ : List Ob) (sts : List Stmt) (o : Out) : Prop :=
  ∀ (A : Around) (s : Shared) (ad : List Addr), Cs w hb n A env ls σ ad s →
    wpAny (model pg w) A (execs sts env) (fun f s' => KeepsF env s s' ∧ OkF w hb n A env σ ad f s' o) (fun _ _ => False) s

section
variable {w : World} {hb : Heap} {n : Nat} {A : Around} {env : Env} {ls ls' : List (Str × D)} {σ : List Ob} {ad : List Addr} {s s' : Shared} {E : Value → Shared → Prop}

theorem Ev.useS {e : PySem.Expr} {d : D} {Q : Value → Shared → Prop} (he : Ev w hb n env ls σ e d) (c : Cs w hb n A env ls σ ad s)
    (h : ∀ v s', Keeps s s' → Cs w hb n A env ls σ ad s' → Rd s'.heap ad v d → Q v s') : wpAny (model pg w) A (eval e env) Q E s :=
  he.use c.cx fun v s' k _ r => h v s' k (c.keeps k) r

theorem Exs.nil : Exs w hb n env ls σ [] (.next ls) := fun A s ad c => wpAny_execs_nil ⟨kfRefl _ s, rfl, c⟩
theorem Exs.cons {st : Stmt} {rest : List Stmt} {o : Out} (h1 : Ex w hb n env ls σ st (.next ls')) (h2 : Exs w hb n env ls' σ rest o) : Exs w hb n env ls σ (st :: rest) o := fun A s ad c => by
  refine wpAny_execs_cons (wpAny_mono (h1 A s ad c) (fun f s1 q => ?_) fun _ _ f => f)
  obtain ⟨k1, rfl, c1⟩ := q
  exact wpAny_mono (h2 A s1 ad c1) (fun f s2 q => ⟨kfTrans k1 q.1, q.2⟩) fun _ _ f => f
theorem Exs.ret {st : Stmt} {rest : List Stmt} {d : D} (h1 : Ex w hb n env ls σ st (.ret d)) : Exs w hb n env ls σ (st :: rest) (.ret d) := fun A s ad c => by
  refine wpAny_execs_cons (wpAny_mono (h1 A s ad c) (fun f s1 q => ?_) fun _ _ f => f)
  obtain ⟨k1, v, rfl, r⟩ := q
  exact ⟨k1, v, rfl, r⟩
theorem Exs.brk {st : Stmt} {rest : List Stmt} (h1 : Ex w hb n env ls σ st (.brk ls')) : Exs w hb n env ls σ (st :: rest) (.brk ls') := fun A s ad c => by
  refine wpAny_execs_cons (wpAny_mono (h1 A s ad c) (fun f s1 q => ?_) fun _ _ f => f)
  obtain ⟨k1, rfl, c1⟩ := q
  exact ⟨k1, rfl, c1⟩

noncomputable def Stor (env : Env) (x : Str) : Prop := env.kindOf x = some .local ∨ (env.kindOf x = some .cell ∧ (env.cells.lookup x).isSome = true)
theorem Ex.assign {x : Str} {p pos : Pos} {e : PySem.Expr} {d : D} (he : Ev w hb n env ls σ e d) (hx : Stor env x)
    (hs : autoParam (swapsWith e (some (.Name x p)) pos.line env = pure false) Mine.auR) : Ex w hb n env ls σ (.Assign [.Name x p] e pos) (.next ((x, d) :: ls)) := fun A s ad c => by
  refine wpAny_Assign_Name (he.useS c fun v s1 k1 c1 r1 => ?_) hs
  exact store_ok c1 r1 hx fun s2 k2 c2 => ⟨kfTrans (kfOf k1) k2, rfl, c2⟩
theorem Ex.ret {e : PySem.Expr} {pos : Pos} {d : D} (he : Ev w hb n env ls σ e d) : Ex w hb n env ls σ (.Return (some e) pos) (.ret d) := fun A s ad c =>
  wpAny_Return_some (he.useS c fun v s1 k1 c1 r1 => ⟨kfOf k1, v, rfl, r1⟩)
theorem Ex.brk {pos : Pos} : Ex w hb n env ls σ (.Break pos) (.brk ls) := fun A s ad c => wpAny_Break ⟨kfRefl _ s, rfl, c⟩
theorem Ex.iff {test : PySem.Expr} {body orelse : List Stmt} {pos : Pos} {b : Bool} {o : Out} (ht : Tr w hb n env ls σ test b) (h : Exs w hb n env ls σ (if b then body else orelse) o) :
    Ex w hb n env ls σ (.If test body orelse pos) o := fun A s ad c => by
  refine wpAny_If (ht.use c.cx fun s1 k1 _ => ?_)
  have z := wpAny_mono (h A s1 ad (c.keeps k1)) (fun f s2 q => (⟨kfTrans (kfOf k1) q.1, q.2⟩ : KeepsF env s s2 ∧ OkF w hb n A env σ ad f s2 o)) fun _ _ f => f
  cases b <;> exact z

/-! a name less -/
theorem St.sub {h : Heap} (x : St hb env ls σ ad h) (hs : ∀ y d, ls'.lookup y = some d → ls.lookup y = some d) : St hb env ls' σ ad h :=
  ⟨fun y d e => x.nm y d (hs y d e), x.ns, x.loc, x.locad, x.cel, x.kind, x.glo, x.bui, x.own⟩
theorem Cs.sub (x : Cs w hb n A env ls σ ad s) (hs : ∀ y d, ls'.lookup y = some d → ls.lookup y = some d) : Cs w hb n A env ls' σ ad s := ⟨⟨x.cx.rm, x.cx.inv, x.cx.st.sub hs⟩, x.top, x.fn⟩
/-! into a def -/
set_option tactic.hygienic true in
theorem bindL_other {kd : Str → Option NameKind} {x : Str} (hx : kd x ≠ some .local) : ∀ (binds : List (Str × Value)) (m : Str → Option Value), bindL kd binds m x = m x
  | [], m => rfl
  | (y, v) :: r, m => by
    unfold bindL
    rw [bindL_other hx r]
    split
    · rename_i hy
      have : ¬ x = y := fun q => hx (q ▸ hy)
      simp [this]
    · rfl
theorem bindL_notin {kd : Str → Option NameKind} {x : Str} : ∀ (binds : List (Str × Value)) (m : Str → Option Value), x ∉ binds.map (·.1) → bindL kd binds m x = m x
  | [], m, _ => rfl
  | (y, v) :: r, m, h => by
    unfold bindL
    simp only [List.map_cons, List.mem_cons, not_or] at h
    rw [bindL_notin r _ h.2]
    split <;> simp [h.1]
theorem bindC_notin {kd : Str → Option NameKind} {x : Str} : ∀ (binds : List (Str × Value)) (m : Str → Option Value), x ∉ binds.map (·.1) → bindC kd binds m x = m x
  | [], m, _ => rfl
  | (y, v) :: r, m, h => by
    unfold bindC
    simp only [List.map_cons, List.mem_cons, not_or] at h
    rw [bindC_notin r _ h.2]
    split <;> simp [h.1]
theorem bindL_get {kd : Str → Option NameKind} {x : Str} {v : Value} (hx : kd x = some .local) : ∀ (binds : List (Str × Value)) (m : Str → Option Value), (binds.map (·.1)).Nodup → (x, v) ∈ binds → bindL kd binds m x = some v
  | [], m, _, h => by simp at h
  | (y, u) :: r, m, nd, h => by
    unfold bindL
    simp only [List.map_cons, List.nodup_cons] at nd
    rcases List.mem_cons.mp h with e | h
    · cases e
      rw [bindL_notin r _ nd.1]; simp [hx]
    · exact bindL_get hx r _ nd.2 h
theorem bindC_get {kd : Str → Option NameKind} {x : Str} {v : Value} (hx : kd x ≠ some .local) : ∀ (binds : List (Str × Value)) (m : Str → Option Value), (binds.map (·.1)).Nodup → (x, v) ∈ binds → bindC kd binds m x = some v
  | [], m, _, h => by simp at h
  | (y, u) :: r, m, nd, h => by
    unfold bindC
    simp only [List.map_cons, List.nodup_cons] at nd
    rcases List.mem_cons.mp h with e | h
    · cases e
      rw [bindC_notin r _ nd.1]; simp [hx]
    · exact bindC_get hx r _ nd.2 h

theorem RdAll.zip {h : Heap} {names : List Str} {vs : List Value} {ds : List D} (r : RdAll h ad vs ds) {x : Str} {d : D} (e : (names.zip ds).lookup x = some d) : ∃ v, (x, v) ∈ names.zip vs ∧ Rd h ad v d :=
  RdAll.ind (P := fun vs ds => ∀ names : List Str, (names.zip ds).lookup x = some d → ∃ v, (x, v) ∈ names.zip vs ∧ Rd h ad v d) (fun names e => by rw [List.zip_nil_right] at e; exact nS rfl e)
    (fun {v vs d' ds} h1 _ ih names e => by
      cases names with
      | nil => exact nS rfl e
      | cons y names =>
        rw [List.zip_cons_cons, List.lookup_cons] at e
        cases hb : x == y with
        | true =>
          rw [hb] at e
          rw [beq_iff_eq.mp hb]; exact ⟨v, List.mem_cons_self, Option.some.inj e ▸ h1⟩
        | false =>
          rw [hb] at e
          obtain ⟨v', h3, h4⟩ := ih names e
          exact ⟨v', List.mem_cons_of_mem _ h3, h4⟩) r names e
theorem Inv.newer (i : Inv w hb s) {a : Addr} (ha : s.heap.objs.size ≤ a) : hb.get? a = none := by
  cases q : hb.get? a with
  | none => rfl
  | some o =>
    by_cases ht : a = tb
    · subst ht
      obtain ⟨ps, _, _, t⟩ := i.tab
      exact absurd (Heap.lt_size t) (Nat.not_lt.mpr ha)
    · exact absurd (Heap.lt_size (i.keep a o ht q)) (Nat.not_lt.mpr ha)
theorem Own.old {h : Heap} (o : Own hb σ ad h) {a : Addr} (ha : a ∈ ad) : a < h.objs.size := by
  obtain ⟨i, hi⟩ := List.mem_iff_getElem?.mp ha
  have hl : i < σ.length := by rw [← o.len]; exact (List.getElem?_eq_some_iff.mp hi).1
  have z := o.at' i a _ hi (List.getElem?_eq_getElem hl)
  generalize σ[i] = ob at z
  cases z with
  | lst h1 => exact Heap.lt_size h1
  | acc h1 => obtain ⟨_, _, _, _, _, e, _⟩ := h1; exact Heap.lt_size e

theorem leave_ok {s₁ s₂ : Shared} (k1 : Keeps s s₁) (k2 : KeepsF env s₁ s₂) (hnew : ∀ b ∈ fx env, s.heap.get? b = none) : Keeps s s₂ :=
  ⟨⟨fun b o e q => k2.get b o (fun hm => by (first | exact nS (hnew b hm) e | exact nS e (hnew b hm) | exact nD (hnew b hm) e | exact nD e (hnew b hm) | cases sE (hnew b hm) e | (rw [hnew b hm] at e; cases e))) (k1.heap.get b o e q) q, fun t => k2.tab (k1.heap.tab t)⟩, fun t => k2.bare (k1.bare t), k2.os.trans k1.os⟩
theorem new_none {b : Addr} (h : s.heap.objs.size ≤ b) : s.heap.get? b = none := by
  cases e : s.heap.get? b with
  | none => rfl
  | some o => exact absurd (Heap.lt_size e) (Nat.not_lt.mpr h)

-- the state at a def's first line
theorem enter_ok {f : Addr} {fd : FuncData} {names : List Str} {vals : List Value} {args : List D} {cells : List (Str × Addr)} {s₁ : Shared} {n : Nat}
    (rm : Rm hb (n + 1) A s.heap) (i : Inv w hb s) (o : Own hb σ ad s.heap) (r : RdAll s.heap ad vals args)
    (hg : fd.globals = mainGlobals) (hbu : fd.builtins = builtinsNs) (hkf : fd.scope.kind = .function) (hnd : names.Nodup) (hlen : names.length = vals.length)
    (hkin : fd.scope.names.lookup ("_initial_size" : Str) ≠ some .local)
    (hkind : ∀ x ∈ names, fd.scope.names.lookup x = some .local ∨ (fd.scope.names.lookup x = some .cell ∧ (cells.lookup x).isSome = true))
    (env : Env) (he : env = newEnv fd.scope s.heap.objs.size fd.globals cells (fd.qualname ++ ".<locals>.") (some f) fd.code none fd.builtins)
    (x : InCallC s env.locals (bindL env.kindOf (names.zip vals) fun _ => none) env.cells (bindC env.kindOf (names.zip vals) fun _ => none) s₁)
    (hcells : (cells.map (·.1)).Nodup)
    : Cs w hb n (A.deeper env) env (names.zip args) σ ad s₁ ∧ Keeps s s₁ := by
  have hk : Keeps s s₁ := kOfL x.done
  have kh := kHeap hk
  have hL : @Eq Nat env.locals s.heap.objs.size := by rw [he]; rfl
  have hmap : (names.zip vals).map (·.1) = names := by rw [List.map_fst_zip]; lia
  have hnd' : ((names.zip vals).map (·.1)).Nodup := by rw [hmap]; exact hnd
  have hcl : env.cells = cells := by rw [he]; rfl
  have hsc : env.scope = fd.scope := by rw [he]; rfl
  have hko : ∀ y, env.kindOf y = fd.scope.names.lookup y := fun y => by unfold Env.kindOf; rw [hsc]
  have cellOf : ∀ nm c, (nm, c) ∈ env.cells → s₁.heap.IsCell c (bindC env.kindOf (names.zip vals) (fun _ => none) nm) := fun nm c hm => x.cell nm c (lookup_of_mem_nodup (hcl ▸ hcells) hm)
  have own' := o.keeps kh
  have adlt : ∀ a ∈ ad, @LT.lt Nat _ a s.heap.objs.size := fun a ha => o.old ha
  have top : ∃ outer, (A.deeper env).frames = some (env :: outer) := let ⟨outer, e1, _⟩ := rm.frames; ⟨outer, by show A.frames.map (env :: ·) = _; rw [e1]; rfl⟩
  refine ⟨⟨⟨?_, i.keeps hk, ?_⟩, top, ?_⟩, hk⟩
  · obtain ⟨outer, e1, e2⟩ := rm.frames
    refine ⟨rm.handled, ?_, ?_, env :: outer, ?_, ?_⟩
    · have := rm.depth; show A.depth + 1 + n ≤ 900; lia
    · have := rm.units; show A.units + 3 + 20 * n ≤ 9000; lia
    · show A.frames.map (env :: ·) = _; rw [e1]; rfl
    · intro env' hm
      rcases memc hm with rfl | hm
      · obtain ⟨ob, es, ep, ho, hd, _⟩ := x.toInCall.ns
        refine ⟨by rw [hsc, hkf]; decide, env.locals, ob, by rw [he]; rfl, i.newer (by rw [hL]; exact Nat.le_refl _), ho, fun vs q => (by (first | exact nS hd q | exact nS q hd | exact nD hd q | exact nD q hd | cases sE hd q | (rw [hd] at q; cases q))), fun vs n q => by (first | exact nS hd q | exact nS q hd | exact nD hd q | exact nD q hd | cases sE hd q | (rw [hd] at q; cases q))⟩
      · exact (FrOk.keeps kh e2) env' hm
  · exact {
      nm := fun y d e => by
        obtain ⟨v, hm, rv⟩ := RdAll.zip r e
        refine ⟨v, ?_, rv.keeps kh⟩
        have hy : y ∈ names := by rw [← hmap]; exact List.mem_map_of_mem hm
        rcases hkind y hy with q | ⟨q, q'⟩
        · exact .inl ⟨by rw [hko]; exact q, _, x.toInCall.ns, bindL_get (by rw [hko]; exact q) _ _ hnd' hm⟩
        · obtain ⟨c, hc⟩ := Option.isSome_iff_exists.mp q'
          refine .inr ⟨.inl (by rw [hko]; exact q), c, hcl ▸ hc, ?_⟩
          have := cellOf y c (hcl ▸ mem_of_lookup hc)
          rwa [bindC_get (by rw [hko, q]; nofun) _ _ hnd' hm] at this
      ns := ⟨_, x.toInCall.ns⟩
      loc := i.newer (by rw [hL]; exact Nat.le_refl _)
      locad := fun hm => by have := adlt _ hm; rw [hL] at this; exact Nat.lt_irrefl _ this
      cel := fun nm c hm => by
        have hlt := ltN (x.above nm c hm)
        refine ⟨fun q => ?_, fun q => ?_, fun q => ?_, _, cellOf nm c hm⟩
        · have := adlt c q; lia
        · have q' : @Eq Nat c env.locals := q
          lia
        · subst q
          obtain ⟨ps, _, _, t⟩ := i.tab
          have := ltN (Heap.lt_size t); lia
      kind := by rw [hsc]; exact hkf
      glo := by rw [he]; exact hg
      bui := by rw [he]; exact hbu
      own := own' }
  · refine ⟨⟨_, x.toInCall.ns, bindL_other (by rw [hko]; exact hkin) _ _⟩, by rw [hko]; exact hkin, fun nm c h1 _ => i.newer ?_, x.apart, by rw [he]; rfl⟩
    have := ltN (x.above nm c h1); lia

theorem Fs.of_def {f : Addr} {fd : FuncData} {oc : Value} {od : Option Addr} {osl : Array (Option Value)} {body : List Stmt} {args : List D} {d : D} (names : List Str)
    (hk : (Kf w).lookup f = some ⟨oc, od, .func fd, osl⟩) (hbody : fd.body = .stmts body) (h : ∀ L, Exs w hb n (callEnvC fd L f) (names.zip args) σ body (.ret d))
    (hbind : ∀ vals : List Value, vals.length = names.length → bindArgs fd ⟨vals, []⟩ = pure (names.zip vals))
    (hlen : autoParam (names.length = args.length) Mine.auR) (hcd : autoParam (codeIn (Kf w) fd.code fd.qualname = true) Mine.auR)
    (hcl : autoParam (fd.closure = []) Mine.auR) (hg : autoParam (fd.globals = mainGlobals) Mine.auR) (hbu : autoParam (fd.builtins = builtinsNs) Mine.auR) (hkf : autoParam (fd.scope.kind = .function) Mine.auR)
    (hnd : autoParam (names.Nodup) Mine.auD) (hkin' : autoParam ((fd.scope.names.lookup ("_initial_size" : Str) == some .local) = false) Mine.auR)
    (hkind' : autoParam ((names.all fun y => fd.scope.names.lookup y == some .local || fd.scope.names.lookup y == some .cell) = true) Mine.auR)
    (hcells : autoParam (((cellsFrom 0 fd.scope.names []).map (·.1)).Nodup) Mine.auD) (hco : autoParam (fd.scope.isCoroutine = false) Mine.auR) (hgen : autoParam (fd.scope.isGenerator = false) Mine.auR) :
    Fs w hb (n + 1) (.ref f) args σ d := fun A s ad vals rm i o r => by
  have hkin : fd.scope.names.lookup ("_initial_size" : Str) ≠ some .local := fun q => by (first | exact nS q hkin' | exact nS hkin' q | exact nD q hkin' | exact nD hkin' q | cases sE q hkin' | (rw [q] at hkin'; cases hkin'))
  have hkind : ∀ n, ∀ x ∈ names, fd.scope.names.lookup x = some .local ∨ (fd.scope.names.lookup x = some .cell ∧ ((cellsFrom n fd.scope.names []).lookup x).isSome = true) := fun n x hx => by
    rcases Bool.or_eq_true_iff.mp (List.all_eq_true.mp hkind' x hx) with q | q
    · exact .inl (by simpa using q)
    · exact .inr ⟨by simpa using q, cellsFrom_some _ _ _ (.inl (by simpa using q))⟩
  have hl : names.length = vals.length := by rw [hlen, r.length]
  have hmap : (names.zip vals).map (·.1) = names := by rw [List.map_fst_zip]; lia
  refine wpAny_call (codeAny_call_function (by have := rm.depth; show A.depth < 1000; lia) (i.kin _ _ hk) rfl hco hgen hbody (codeRec_of i.kin hcd) ?_)
  rw [hbind vals hl.symm]
  refine wpAny_pure ?_
  rw [hcl]
  refine wpAny_newFunctionEnv_cells hkf (fun x hx => hkind _ x.1 (by rw [← hmap]; exact List.mem_map_of_mem hx)) fun env he s₁ x => ?_
  have hc' : ((cellsFrom (s.heap.objs.size + 1) fd.scope.names []).map (·.1)).Nodup := by rw [cellsFrom_names fd.scope.names 0 (s.heap.objs.size + 1) [] [] rfl] at hcells; exact hcells
  obtain ⟨c1, k1⟩ := enter_ok (f := f) rm i o r hg hbu hkf hnd hl hkin (fun x hx => hkind _ x hx) env he x hc'
  refine ⟨(i.keeps k1).lim, codeAny_func ?_⟩
  have hb' := h s.heap.objs.size
  have henv : callEnvC fd s.heap.objs.size f = env := he.symm
  rw [henv] at hb'
  refine wpAny_mono (hb' _ s₁ ad c1) (fun fl s2 q => ?_) fun _ _ f => f.elim
  obtain ⟨k2, v, rfl, rv⟩ := q
  refine ⟨leave_ok k1 k2 fun b hm => new_none ?_, rv⟩
  have hL : @Eq Nat env.locals s.heap.objs.size := by rw [he]; rfl
  rcases mem_fx hm with q | ⟨nm, q, _⟩
  · have q' : @Eq Nat b env.locals := q
    lia
  · have := ltN (x.above nm b q)
    lia
end
end Mine
end

section
open PySem PySem.W PySem.Calls PyProof.Rows
set_option Elab.async false
set_option tactic.hygienic false
set_option linter.unusedVariables false
namespace Mine
section
variable {w : World} {hb : Heap} {n : Nat} {A : Around} {env : Env} {ls ls' : List (Str × D)} {σ : List Ob} {ad : List Addr} {s s' : Shared} {E : Value → Shared → Prop}

/-! operators -/
noncomputable def Bo (w : World) (hb : Heap) (n : Nat) (op : Operator) (σ : List Ob) (d1 d2 d : D) : Prop :=
  ∀ (A : Around) (s : Shared) (ad : List Addr) (a b : Value), Rm hb n A s.heap → Inv w hb s → Own hb σ ad s.heap → Rd s.heap ad a d1 → Rd s.heap ad b d2 →
    wpAny (model pg w) A (binaryOp op a b) (fun v s' => Keeps s s' ∧ Rd s'.heap ad v d) (fun _ _ => False) s
noncomputable def Co (w : World) (hb : Heap) (n : Nat) (op : CmpOp) (σ : List Ob) (d1 d2 : D) (c : Bool) : Prop :=
  ∀ (A : Around) (s : Shared) (ad : List Addr) (a b : Value), Rm hb n A s.heap → Inv w hb s → Own hb σ ad s.heap → Rd s.heap ad a d1 → Rd s.heap ad b d2 →
    wpAny (model pg w) A (compareOp op a b) (fun v s' => Keeps s s' ∧ v = .bool c) (fun _ _ => False) s
noncomputable def Th (w : World) (hb : Heap) (n : Nat) (σ : List Ob) (d : D) (c : Bool) : Prop :=
  ∀ (A : Around) (s : Shared) (ad : List Addr) (a : Value), Rm hb n A s.heap → Inv w hb s → Own hb σ ad s.heap → Rd s.heap ad a d →
    wpAny (model pg w) A (truthy a) (fun v s' => Keeps s s' ∧ v = c) (fun _ _ => False) s

theorem Ev.bin {l r : PySem.Expr} {op : Operator} {pos : Pos} {d1 d2 d : D} (h1 : Ev w hb n env ls σ l d1) (h2 : Ev w hb n env ls σ r d2) (ho : Bo w hb n op σ d1 d2 d) :
    Ev w hb n env ls σ (.BinOp l op r pos) d := fun A s ad c => by
  refine wpAny_BinOp (h1.use c fun a s1 k1 c1 r1 => h2.use c1 fun b s2 k2 c2 r2 => ?_)
  exact wpAny_mono (ho A s2 ad a b c2.rm c2.inv c2.st.own (r1.keeps (kHeap k2)) r2) (fun v s3 q => ⟨kTrans k1 (kTrans k2 q.1), q.2⟩) fun _ _ f => f
theorem Ev.cmp {l r : PySem.Expr} {op : CmpOp} {pos : Pos} {d1 d2 : D} {b : Bool} (h1 : Ev w hb n env ls σ l d1) (h2 : Ev w hb n env ls σ r d2) (ho : Co w hb n op σ d1 d2 b)
    (hm : autoParam (behindInMarks op r = false) Mine.auU) : Ev w hb n env ls σ (.Compare l [op] [r] pos) (.bool b) := fun A s ad c => by
  refine wpAny_Compare1 (h1.use c fun a s1 k1 c1 r1 => h2.use c1 fun b s2 k2 c2 r2 => ?_) hm
  refine wpAny_mono (ho A s2 ad a b c2.rm c2.inv c2.st.own (r1.keeps (kHeap k2)) r2) (fun v s3 q => ?_) fun _ _ f => f
  rw [q.2]; exact ⟨kTrans k1 (kTrans k2 q.1), .bool _⟩
theorem Tr.cmp {l r : PySem.Expr} {op : CmpOp} {pos : Pos} {d1 d2 : D} {b : Bool} (h1 : Ev w hb n env ls σ l d1) (h2 : Ev w hb n env ls σ r d2) (ho : Co w hb n op σ d1 d2 b)
    (hm : autoParam (behindInMarks op r = false) Mine.auU) : Tr w hb n env ls σ (.Compare l [op] [r] pos) b := fun A s ad c => by
  refine wpAny_isTrue_Compare1 (h1.use c fun a s1 k1 c1 r1 => h2.use c1 fun b s2 k2 c2 r2 => ?_) hm
  refine wpAny_mono (ho A s2 ad a b c2.rm c2.inv c2.st.own (r1.keeps (kHeap k2)) r2) (fun v s3 q => ?_) fun _ _ f => f
  rw [q.2]; exact wpAny_truthy_bool ⟨kTrans k1 (kTrans k2 q.1), rfl⟩
theorem Tr.val {e : PySem.Expr} {d : D} {b : Bool} (h : Ev w hb n env ls σ e d) (ht : Th w hb n σ d b)
    (he : autoParam (∀ whole, isTrue e env whole = (do let v ← whole; standAt e.pos; holding [v] (truthy v))) Mine.auI) : Tr w hb n env ls σ e b := fun A s ad c => by
  refine wpAny_isTrue_value (h.use c fun v s1 k1 c1 r1 => ?_) (he _)
  exact wpAny_mono (ht A s1 ad v c1.rm c1.inv c1.st.own r1) (fun v s2 q => ⟨kTrans k1 q.1, q.2⟩) fun _ _ f => f
theorem Tr.not {e : PySem.Expr} {pos : Pos} {b : Bool} (h : Tr w hb n env ls σ e b) : Tr w hb n env ls σ (.UnaryOp .Not e pos) (!b) := fun A s ad c =>
  wpAny_isTrue_Not (h.use c fun s1 k1 c1 => ⟨k1, rfl⟩)
theorem Tr.and1 {a b : PySem.Expr} {pos : Pos} (h : Tr w hb n env ls σ a false) : Tr w hb n env ls σ (.BoolOp .And [a, b] pos) false := fun A s ad c =>
  wpAny_isTrue_BoolOp (wpAny_allTrue_And_cons (h.use c fun s1 k1 c1 => ⟨k1, rfl⟩))
theorem Tr.and2 {a b : PySem.Expr} {pos : Pos} {c : Bool} (h : Tr w hb n env ls σ a true) (h2 : Tr w hb n env ls σ b c) : Tr w hb n env ls σ (.BoolOp .And [a, b] pos) c := fun A s ad cx => by
  refine wpAny_isTrue_BoolOp (wpAny_allTrue_And_cons (h.use cx fun s1 k1 c1 => ?_))
  refine wpAny_allTrue_And_cons (h2.use c1 fun s2 k2 c2 => ?_)
  cases c
  · exact ⟨kTrans k1 k2, rfl⟩
  · exact wpAny_allTrue_And_nil ⟨kTrans k1 k2, rfl⟩
theorem Tr.or1 {a : PySem.Expr} {rest : List PySem.Expr} {pos : Pos} (h : Tr w hb n env ls σ a true) : Tr w hb n env ls σ (.BoolOp .Or (a :: rest) pos) true := fun A s ad c =>
  wpAny_isTrue_BoolOp (wpAny_allTrue_Or_cons (h.use c fun s1 k1 c1 => ⟨k1, rfl⟩))
theorem Tr.orN {a : PySem.Expr} {pos : Pos} {c : Bool} (h : Tr w hb n env ls σ a c) : Tr w hb n env ls σ (.BoolOp .Or [a] pos) c := fun A s ad cx => by
  refine wpAny_isTrue_BoolOp (wpAny_allTrue_Or_cons (h.use cx fun s1 k1 c1 => ?_))
  cases c
  · exact wpAny_allTrue_Or_nil ⟨k1, rfl⟩
  · exact ⟨k1, rfl⟩
theorem Tr.or2 {a : PySem.Expr} {rest : List PySem.Expr} {pos : Pos} {c : Bool} (h : Tr w hb n env ls σ a false) (h2 : Tr w hb n env ls σ (.BoolOp .Or rest pos) c) : Tr w hb n env ls σ (.BoolOp .Or (a :: rest) pos) c := fun A s ad cx => by
  refine wpAny_isTrue_BoolOp (wpAny_allTrue_Or_cons (h.use cx fun s1 k1 c1 => ?_))
  have z := h2 A s1 ad c1
  rw [show isTrue (.BoolOp .Or rest pos) env (eval (.BoolOp .Or rest pos) env) = allTrue .Or rest env by rw [arm_isTrue_BoolOp]] at z
  exact wpAny_mono z (fun v s2 q => ⟨kTrans k1 q.1, q.2⟩) fun _ _ f => f
theorem Ev.ife {t a b : PySem.Expr} {pos : Pos} {c : Bool} {d : D} (h : Tr w hb n env ls σ t c) (h2 : Ev w hb n env ls σ (if c then a else b) d) : Ev w hb n env ls σ (.IfExp t a b pos) d := fun A s ad cx => by
  refine wpAny_IfExp (h.use cx fun s1 k1 c1 => ?_)
  have z := wpAny_mono (h2 A s1 ad c1) (fun v s2 q => (⟨kTrans k1 q.1, q.2⟩ : Keeps s s2 ∧ Rd s2.heap ad v d)) fun _ _ f => f
  cases c <;> exact z

/-! new lists, new tuples -/
theorem rd_newList {vs : List Value} {ds : List D} (r : RdAll s.heap ad vs ds) (o : Own hb σ ad s.heap) : Rd (s.heap.push { cls := .type "list", data := .seq vs.toArray }) ad (.ref s.heap.objs.size) (.lst ds) :=
  .lst (Heap.get?_push_size _ rfl) rfl rfl rfl (fun hm => Nat.lt_irrefl _ (o.old hm)) (by simpa using r.keeps (Kh.of fun b o e => Heap.get?_push_of_some _ e))
theorem rd_newTuple {vs : List Value} {ds : List D} (r : RdAll s.heap ad vs ds) (o : Own hb σ ad s.heap) : Rd (s.heap.push { cls := .type "tuple", data := .seq vs.toArray }) ad (.ref s.heap.objs.size) (.tup ds) :=
  .tup (Heap.get?_push_size _ rfl) rfl rfl rfl (fun hm => Nat.lt_irrefl _ (o.old hm)) (by simpa using r.keeps (Kh.of fun b o e => Heap.get?_push_of_some _ e))
theorem sz {n : Nat} (h : n ≤ 16777216) : n ≤ sizeLine := h
theorem Ev.list {es : List PySem.Expr} {pos : Pos} {ds : List D} (h : EvS w hb n env ls σ es ds) (hs : autoParam (ds.length ≤ 16777216) Mine.auL) : Ev w hb n env ls σ (.List es pos) (.lst ds) := fun A s ad c => by
  refine List_ (h.use c fun vs s1 k1 c1 r1 => ?_)
  exact wpAny_newList ⟨kTrans k1 (kPush _ _), rd_newList r1 c1.st.own⟩ (sz (by rw [r1.length]; exact hs))
theorem Ev.tuple {es : List PySem.Expr} {k : Nat} {pos : Pos} {ds : List D} (h : EvS w hb n env ls σ es ds) (hs : autoParam (ds.length ≤ 16777216) Mine.auL) : Ev w hb n env ls σ (.Tuple es k pos) (.tup ds) := fun A s ad c => by
  refine Tuple_ (h.use c fun vs s1 k1 c1 r1 => ?_)
  exact wpAny_newTuple ⟨kTrans k1 (kPush _ _), rd_newTuple r1 c1.st.own⟩ (sz (by rw [r1.length]; exact hs))

/-! truth -/
theorem Th.bool {b : Bool} : Th w hb n σ (.bool b) b := fun A s ad a rm i o r => by (first | obtain rfl := r.toV | obtain ⟨t, rfl⟩ := r.toS | obtain ⟨t, rfl⟩ := r.toI | obtain rfl := r.toB | cases r); exact wpAny_truthy_bool ⟨kRefl s, rfl⟩
theorem Th.str {x : Str} (h : autoParam (x.length < 2 ^ 60) Mine.auD) : Th w hb n σ (.str x) ((x.length : Int) != 0) := fun A s ad a rm i o r => by (first | obtain rfl := r.toV | obtain ⟨t, rfl⟩ := r.toS | obtain ⟨t, rfl⟩ := r.toI | obtain rfl := r.toB | cases r); exact P.truthy_str (by lia) ⟨kToks s _, rfl⟩
theorem Th.tup {xs : List D} (h : autoParam (xs.length < 2 ^ 60) Mine.auD) : Th w hb n σ (.tup xs) (!xs.isEmpty) := fun A s ad a rm i o r => by
  obtain ⟨a, ob, vs, n, rfl, h1, h2, h3, h4, h5⟩ := r.isT
  have hl := h5.length
  rw [Array.length_toList] at hl
  refine truthy_tuple ⟨ob, h1, h2, n, h4⟩ (by rw [hl]; lia) ⟨kToks s _, ?_⟩
  congr 1
  cases xs <;> simp_all [Array.isEmpty]

/-! an item, a cut -/
theorem sub_any {value slice : PySem.Expr} {pos : Pos} {T id : String} {Q : Value → Shared → Prop} (hl : typeLookup (.type T) "__getitem__" = pure (some (.builtin id)))
    (h : wpAny (model pg w) A (eval value env) (fun o s₁ => wpAny (model pg w) A (eval slice env) (fun i s₂ => s₂.TypeIs o T ∧ wpAny (model pg w) A (getItem o i) Q E s₂) E s₁) E s) :
    wpAny (model pg w) A (eval (.Subscript value slice pos) env) Q E s := by
  rw [eval_Subscript]
  refine wpAny_bind (wpAny_mono h (fun o s₁ h₁ => wpAny_bind (wpAny_holding (wpAny_mono h₁ (fun i s₂ h₂ => wpAny_bind (wpAny_standAt ?_)) fun _ _ x => x)))
    fun _ _ x => x)
  refine wpAny_bind ?_
  rw [getitemInPython_of_ne h₂.1.not_modules]
  refine wpAny_bind (wpAny_specialOf h₂.1 hl ?_)
  have fin : ∀ vs, wpAny (model pg w) A (operate vs (getItem o i)) (fun r s₃ => wpAny (model pg w) A (letTemporaryGo value o r >>= fun _ => pure r) Q E s₃) E s₂ :=
    fun vs => wpAny_operating (wpAny_mono h₂.2 (fun r s₃ h₃ => wpAny_bind (wpAny_letTemporaryGo (wpAny_pure h₃))) fun _ _ x => x)
  have fin' : wpAny (model pg w) A (subscripted slice false o i) (fun r s₃ => wpAny (model pg w) A (letTemporaryGo value o r >>= fun _ => pure r) Q E s₃) E s₂ := by
    unfold subscripted; split <;> first | exact fin _ | (exfalso; simp_all)
  first
    | exact wpAny_pure (wpAny_bind fin')
    | exact wpAny_bind (wpAny_pure (wpAny_bind fin'))
    | exact wpAny_bind fin'

noncomputable def pick {α : Type} (xs : List α) (lo hi st : Option Int) : List α :=
  (sliceRange (sliceBounds lo hi st xs.length).1 (sliceBounds lo hi st xs.length).2.1 (sliceBounds lo hi st xs.length).2.2).filterMap (xs[·]?)
theorem RdAll.pickL {h : Heap} {vs : List Value} {ds : List D} (r : RdAll h ad vs ds) : ∀ is : List Nat, RdAll h ad (is.filterMap (vs[·]?)) (is.filterMap (ds[·]?))
  | [] => .nil
  | i :: is => by
    rw [List.filterMap_cons, List.filterMap_cons]
    cases q : vs[i]? with
    | none =>
      have : ds[i]? = Option.none := by rw [List.getElem?_eq_none_iff] at q ⊢; rw [← r.length]; exact q
      rw [this]; exact r.pickL is
    | some v =>
      obtain ⟨d, e, r'⟩ := r.get i v q
      rw [e]; exact .cons r' (r.pickL is)
theorem RdAll.pick {h : Heap} {vs : Array Value} {ds : List D} (r : RdAll h ad vs.toList ds) (lo hi st : Option Int) : RdAll h ad (slicePick vs lo hi st).toList (pick ds lo hi st) := by
  unfold slicePick Mine.pick
  have hl := r.length
  rw [Array.length_toList] at hl
  rw [hl]
  have := r.pickL (sliceRange (sliceBounds lo hi st ds.length).1 (sliceBounds lo hi st ds.length).2.1 (sliceBounds lo hi st ds.length).2.2)
  simpa using this

noncomputable def EvP (w : World) (hb : Heap) (n : Nat) (env : Env) (ls : List (Str × D)) (σ : List Ob) : Option PySem.Expr → Option Int → Prop
  | none, p => p = none
  | some e, p => ∃ i, p = some i ∧ Ev w hb n env ls σ e (.int i)
theorem EvP.no : EvP w hb n env ls σ none none := rfl
theorem EvP.yes {e : PySem.Expr} {i : Int} (h : Ev w hb n env ls σ e (.int i)) : EvP w hb n env ls σ (some e) (some i) := ⟨i, rfl, h⟩
theorem EvP.use {e : Option PySem.Expr} {p : Option Int} {Q : Value → Shared → Prop} (he : EvP w hb n env ls σ e p) (c : Cx w hb n A env ls σ ad s)
    (h : ∀ v s', Keeps s s' → Cx w hb n A env ls σ ad s' → IsPart v p → Q v s') : wpAny (model pg w) A (evalPart e env) Q E s := by
  cases e with
  | none => cases he; rw [evalPart_none]; exact wpAny_pure (h _ _ (kRefl s) c .none)
  | some e =>
    obtain ⟨i, rfl, he⟩ := he
    rw [evalPart_some]
    exact he.use c fun v s' k c' r => by (first | obtain rfl := r.toV | obtain ⟨t, rfl⟩ := r.toS | obtain ⟨t, rfl⟩ := r.toI | obtain rfl := r.toB | cases r); exact h _ _ k c' (.int _ _)

theorem Ev.cut {value : PySem.Expr} {lo hi st : Option PySem.Expr} {p pos : Pos} {d : D} {xs : List D} {l u t : Option Int} (h : Ev w hb n env ls σ value d) (hd : IsL σ d xs)
    (h1 : EvP w hb n env ls σ lo l) (h2 : EvP w hb n env ls σ hi u) (h3 : EvP w hb n env ls σ st t) (h0 : autoParam (t ≠ some 0) Mine.auD) (hs : autoParam (xs.length ≤ 16777216) Mine.auD) :
    Ev w hb n env ls σ (.Subscript value (.Slice lo hi st p) pos) (.lst (pick xs l u t)) := fun A s ad c => by
  refine sub_any (T := "list") list_getitem_lookup (h.use c fun o s1 k1 c1 r1 => wpAny_Slice (h1.use c1 fun vl s2 k2 c2 p1 => h2.use c2 fun vu s3 k3 c3 p2 => h3.use c3 fun vt s4 k4 c4 p3 => ?_))
  have k14 := kTrans k2 (kTrans k3 k4)
  obtain ⟨a, ob, vs, m, rfl, e1, e2, e3, e4, e5⟩ := (r1.keeps (kHeap k14)).isL hd c4.st.own
  have hl := e5.length
  rw [Array.length_toList] at hl
  have il : s4.heap.IsList a vs := ⟨ob, e1, e2, m, e4⟩
  refine ⟨(il.push _).typeIs, wpAny_getItem_list_slice (il.push _) (Heap.IsSliceOf.new ..) p1 p2 p3 h0 ?_ (sz (by lia))⟩
  refine ⟨kTrans k1 (kTrans k14 (kTrans (kPush _ _) (kPush _ _))), ?_⟩
  have own' := (c4.st.own.keeps (kHeap (kPush s4 { cls := .type "slice", data := .fields #[vl, vu, vt] })))
  have r' := (e5.pick l u t).keeps (kHeap (kPush s4 { cls := .type "slice", data := .fields #[vl, vu, vt] }))
  have z := rd_newList (s := { s4 with heap := s4.heap.push { cls := .type "slice", data := .fields #[vl, vu, vt] } }) r' own'
  simpa using z

theorem Ev.item {value slice : PySem.Expr} {pos : Pos} {d e : D} {xs : List D} {i : Int} (h : Ev w hb n env ls σ value d) (hd : IsL σ d xs) (h1 : Ev w hb n env ls σ slice (.int i))
    (h0 : autoParam (0 ≤ i) Mine.auD) (hi : autoParam (i < 2 ^ 63) Mine.auD) (hx : autoParam (xs[i.toNat]? = some e) Mine.auR) : Ev w hb n env ls σ (.Subscript value slice pos) e := fun A s ad c => by
  refine sub_any (T := "list") list_getitem_lookup (h.use c fun o s1 k1 c1 r1 => h1.use c1 fun iv s2 k2 c2 r2 => ?_)
  (first | obtain rfl := r2.toV | obtain ⟨t, rfl⟩ := r2.toS | obtain ⟨t, rfl⟩ := r2.toI | obtain rfl := r2.toB | cases r2)
  obtain ⟨a, ob, vs, m, rfl, e1, e2, e3, e4, e5⟩ := (r1.keeps (kHeap k2)).isL hd c2.st.own
  have il : s2.heap.IsList a vs := ⟨ob, e1, e2, m, e4⟩
  obtain ⟨v, hv, rv⟩ := e5.get' _ _ hx
  exact ⟨il.typeIs, wpAny_getItem_list il h0 hi (by simpa using hv) ⟨kTrans k1 k2, rv⟩⟩
theorem Ev.itemN {value slice : PySem.Expr} {pos : Pos} {d e : D} {xs : List D} {i : Int} (h : Ev w hb n env ls σ value d) (hd : IsL σ d xs) (h1 : Ev w hb n env ls σ slice (.int i))
    (h0 : i < 0) (hi : -(xs.length : Int) ≤ i) (hf : -(2 ^ 63) ≤ i) (hx : xs[(i + xs.length).toNat]? = some e) : Ev w hb n env ls σ (.Subscript value slice pos) e := fun A s ad c => by
  refine sub_any (T := "list") list_getitem_lookup (h.use c fun o s1 k1 c1 r1 => h1.use c1 fun iv s2 k2 c2 r2 => ?_)
  (first | obtain rfl := r2.toV | obtain ⟨t, rfl⟩ := r2.toS | obtain ⟨t, rfl⟩ := r2.toI | obtain rfl := r2.toB | cases r2)
  obtain ⟨a, ob, vs, m, rfl, e1, e2, e3, e4, e5⟩ := (r1.keeps (kHeap k2)).isL hd c2.st.own
  have il : s2.heap.IsList a vs := ⟨ob, e1, e2, m, e4⟩
  have hl := e5.length
  rw [Array.length_toList] at hl
  obtain ⟨v, hv, rv⟩ := e5.get' _ _ hx
  exact ⟨il.typeIs, wpAny_getItem_list_neg il h0 (by rw [hl]; exact hi) hf (by rw [hl]; simpa using hv) ⟨kTrans k1 k2, rv⟩⟩
theorem Ev.itemT {value slice : PySem.Expr} {pos : Pos} {e : D} {xs : List D} {i : Int} {j : Nat} (h : Ev w hb n env ls σ value (.tup xs)) (h1 : Ev w hb n env ls σ slice (.int i))
    (h0 : autoParam (-(2 ^ 63) ≤ i) Mine.auD) (hi : autoParam (i < 2 ^ 63) Mine.auD) (hj : autoParam (seqIndex? i xs.length = some j) Mine.auR) (hx : autoParam (xs[j]? = some e) Mine.auR) : Ev w hb n env ls σ (.Subscript value slice pos) e := fun A s ad c => by
  refine sub_any (T := "tuple") slot_tuple_getitem.lookup (h.use c fun o s1 k1 c1 r1 => h1.use c1 fun iv s2 k2 c2 r2 => ?_)
  (first | obtain rfl := r2.toV | obtain ⟨t, rfl⟩ := r2.toS | obtain ⟨t, rfl⟩ := r2.toI | obtain rfl := r2.toB | cases r2)
  obtain ⟨a, ob, vs, m, rfl, e1, e2, e3, e4, e5⟩ := (r1.keeps (kHeap k2)).isT
  have il : IsTup s2.heap a vs := ⟨ob, e1, e2, m, e4⟩
  have hl := e5.length
  rw [Array.length_toList] at hl
  obtain ⟨v, hv, rv⟩ := e5.get' _ _ hx
  exact ⟨il.typeIs, PyProof.Rows.getItem_tuple il h0 hi (by rw [hl]; exact hj) (by simpa using hv) ⟨kTrans k1 k2, rv⟩⟩
theorem Ev.neg {e : PySem.Expr} {pos : Pos} {i : Int} (h : Ev w hb n env ls σ e (.int i)) : Ev w hb n env ls σ (.UnaryOp .USub e pos) (.int (-i)) := fun A s ad c =>
  wpAny_UnaryOp (h.use c fun v s1 k1 c1 r1 => by (first | obtain rfl := r1.toV | obtain ⟨t, rfl⟩ := r1.toS | obtain ⟨t, rfl⟩ := r1.toI | obtain rfl := r1.toB | cases r1); exact P.neg_int ⟨kTrans k1 (kToks _ _), .int _ _⟩)

/-! ints and strs -/
theorem Bo.addI {a b : Int} : Bo w hb n .Add σ (.int a) (.int b) (.int (a + b)) := fun A s ad u v rm i o r1 r2 => by (first | obtain rfl := r1.toV | obtain ⟨t, rfl⟩ := r1.toS | obtain ⟨t, rfl⟩ := r1.toI | obtain rfl := r1.toB | cases r1); (first | obtain rfl := r2.toV | obtain ⟨t, rfl⟩ := r2.toS | obtain ⟨t, rfl⟩ := r2.toI | obtain rfl := r2.toB | cases r2); exact P.add_int ⟨kToks _ _, .int _ _⟩
theorem Bo.subI {a b : Int} : Bo w hb n .Sub σ (.int a) (.int b) (.int (a - b)) := fun A s ad u v rm i o r1 r2 => by (first | obtain rfl := r1.toV | obtain ⟨t, rfl⟩ := r1.toS | obtain ⟨t, rfl⟩ := r1.toI | obtain rfl := r1.toB | cases r1); (first | obtain rfl := r2.toV | obtain ⟨t, rfl⟩ := r2.toS | obtain ⟨t, rfl⟩ := r2.toI | obtain rfl := r2.toB | cases r2); exact P.sub_int ⟨kToks _ _, .int _ _⟩
theorem Bo.modI {a b : Int} (h : autoParam (b ≠ 0) Mine.auD) : Bo w hb n .Mod σ (.int a) (.int b) (.int (a.fmod b)) := fun A s ad u v rm i o r1 r2 => by (first | obtain rfl := r1.toV | obtain ⟨t, rfl⟩ := r1.toS | obtain ⟨t, rfl⟩ := r1.toI | obtain rfl := r1.toB | cases r1); (first | obtain rfl := r2.toV | obtain ⟨t, rfl⟩ := r2.toS | obtain ⟨t, rfl⟩ := r2.toI | obtain rfl := r2.toB | cases r2); exact mod_int' h ⟨kToks _ _, .int _ _⟩
theorem Bo.divI {a b : Int} (h : autoParam (b ≠ 0) Mine.auD) (hp : Builtin.divisionGoesByPylong a b = false := by exact PyProof.noPylong_of_log2 (by decide +kernel)) : Bo w hb n .FloorDiv σ (.int a) (.int b) (.int (a.fdiv b)) := fun A s ad u v rm i o r1 r2 => by
  (first | obtain rfl := r1.toV | obtain ⟨t, rfl⟩ := r1.toS | obtain ⟨t, rfl⟩ := r1.toI | obtain rfl := r1.toB | cases r1); (first | obtain rfl := r2.toV | obtain ⟨t, rfl⟩ := r2.toS | obtain ⟨t, rfl⟩ := r2.toI | obtain rfl := r2.toB | cases r2); exact floordiv_int h ⟨kToks _ _, .int _ _⟩ (.inl hp)
theorem Bo.addS {a b : Str} (h : autoParam (a.length + b.length ≤ 16777216) Mine.auD) : Bo w hb n .Add σ (.str a) (.str b) (.str (a ++ b)) := fun A s ad u v rm i o r1 r2 => by
  (first | obtain rfl := r1.toV | obtain ⟨t, rfl⟩ := r1.toS | obtain ⟨t, rfl⟩ := r1.toI | obtain rfl := r1.toB | cases r1); (first | obtain rfl := r2.toV | obtain ⟨t, rfl⟩ := r2.toS | obtain ⟨t, rfl⟩ := r2.toI | obtain rfl := r2.toB | cases r2)
  refine P.add_str ?_
  by_cases h1 : a.length = 0
  · have e : a ++ b = b := by
      rw [show a = Str.empty from Str.ext' (by unfold Str.length at h1; simpa [Str.empty] using h1), Str.empty_append]
    rw [if_pos (by simpa using h1), e]
    exact ⟨kRefl _, .str _ _⟩
  · rw [if_neg (by simpa using h1)]
    by_cases h2 : b.length = 0
    · have e : a ++ b = a := by
        rw [show b = Str.empty from Str.ext' (by unfold Str.length at h2; simpa [Str.empty] using h2)]
        exact Str.append_empty _
      rw [if_pos (by simpa using h2), e]
      exact ⟨kRefl _, .str _ _⟩
    · rw [if_neg (by simpa using h2)]
      exact ⟨by rw [Str.length_append]; exact h, kToks _ _, .str _ _⟩
theorem Bo.addL {d1 d2 : D} {xs ys : List D} (h1 : IsL σ d1 xs) (h2 : IsL σ d2 ys) (h : autoParam (xs.length + ys.length ≤ 16777216) Mine.auD) : Bo w hb n .Add σ d1 d2 (.lst (xs ++ ys)) := fun A s ad u v rm i o r1 r2 => by
  obtain ⟨l, ⟨cls, dd, data, sl⟩, vs, m, rfl, ho, hc, e3, hd, e5⟩ := r1.isL h1 o
  obtain ⟨b, ⟨cls2, dd2, data2, sl2⟩, ws, m2, rfl, ho2, hc2, f3, hd2, f5⟩ := r2.isL h2 o
  simp only at hc hd hc2 hd2
  subst hc hd hc2 hd2
  have l1 := e5.length; have l2 := f5.length
  rw [Array.length_toList] at l1 l2
  refine concat_meets ⟨_, ho, rfl⟩ ⟨_, ho2, rfl⟩ noFill_list_add seq_list_add PySem.F.slot_list_add PySem.F.entry_list_add (PySem.F.args_list_add_2 _ _) (list_addW l b vs ws m m2 dd dd2 sl sl2 (sz (by lia))) ⟨ho, ho2, ?_⟩
  refine ⟨kPush _ _, ?_⟩
  have := rd_newList (e5.append f5) o
  rw [show (vs.toList ++ ws.toList).toArray = vs ++ ws by simp] at this
  exact this
theorem Co.eqI {a b : Int} : Co w hb n .Eq σ (.int a) (.int b) (a == b) := fun A s ad u v rm i o r1 r2 => by (first | obtain rfl := r1.toV | obtain ⟨t, rfl⟩ := r1.toS | obtain ⟨t, rfl⟩ := r1.toI | obtain rfl := r1.toB | cases r1); (first | obtain rfl := r2.toV | obtain ⟨t, rfl⟩ := r2.toS | obtain ⟨t, rfl⟩ := r2.toI | obtain rfl := r2.toB | cases r2); exact P.eq_int ⟨kRefl _, rfl⟩
theorem Co.neI {a b : Int} : Co w hb n .NotEq σ (.int a) (.int b) (a != b) := fun A s ad u v rm i o r1 r2 => by (first | obtain rfl := r1.toV | obtain ⟨t, rfl⟩ := r1.toS | obtain ⟨t, rfl⟩ := r1.toI | obtain rfl := r1.toB | cases r1); (first | obtain rfl := r2.toV | obtain ⟨t, rfl⟩ := r2.toS | obtain ⟨t, rfl⟩ := r2.toI | obtain rfl := r2.toB | cases r2); exact P.ne_int ⟨kRefl _, rfl⟩
theorem Co.gtI {a b : Int} : Co w hb n .Gt σ (.int a) (.int b) (decide (a > b)) := fun A s ad u v rm i o r1 r2 => by (first | obtain rfl := r1.toV | obtain ⟨t, rfl⟩ := r1.toS | obtain ⟨t, rfl⟩ := r1.toI | obtain rfl := r1.toB | cases r1); (first | obtain rfl := r2.toV | obtain ⟨t, rfl⟩ := r2.toS | obtain ⟨t, rfl⟩ := r2.toI | obtain rfl := r2.toB | cases r2); exact P.gt_int ⟨kRefl _, rfl⟩
theorem Co.ltI {a b : Int} : Co w hb n .Lt σ (.int a) (.int b) (decide (a < b)) := fun A s ad u v rm i o r1 r2 => by (first | obtain rfl := r1.toV | obtain ⟨t, rfl⟩ := r1.toS | obtain ⟨t, rfl⟩ := r1.toI | obtain rfl := r1.toB | cases r1); (first | obtain rfl := r2.toV | obtain ⟨t, rfl⟩ := r2.toS | obtain ⟨t, rfl⟩ := r2.toI | obtain rfl := r2.toB | cases r2); exact P.lt_int ⟨kRefl _, rfl⟩
theorem Co.leI {a b : Int} : Co w hb n .LtE σ (.int a) (.int b) (decide (a ≤ b)) := fun A s ad u v rm i o r1 r2 => by (first | obtain rfl := r1.toV | obtain ⟨t, rfl⟩ := r1.toS | obtain ⟨t, rfl⟩ := r1.toI | obtain rfl := r1.toB | cases r1); (first | obtain rfl := r2.toV | obtain ⟨t, rfl⟩ := r2.toS | obtain ⟨t, rfl⟩ := r2.toI | obtain rfl := r2.toB | cases r2); exact P.le_int ⟨kRefl _, rfl⟩
theorem str_beq (a b : Str) : (a.cps.toList == b.cps.toList) = (a == b) := by
  rw [Bool.eq_iff_iff, beq_iff_eq, beq_iff_eq]
  constructor
  · intro h; cases a; cases b; simp at h; simp [h]
  · rintro rfl; rfl
theorem Co.eqS {a b : Str} : Co w hb n .Eq σ (.str a) (.str b) (a == b) := fun A s ad u v rm i o r1 r2 => by (first | obtain rfl := r1.toV | obtain ⟨t, rfl⟩ := r1.toS | obtain ⟨t, rfl⟩ := r1.toI | obtain rfl := r1.toB | cases r1); (first | obtain rfl := r2.toV | obtain ⟨t, rfl⟩ := r2.toS | obtain ⟨t, rfl⟩ := r2.toI | obtain rfl := r2.toB | cases r2); exact P.eq_str ⟨kRefl _, by rw [str_beq]⟩
theorem Co.neS {a b : Str} : Co w hb n .NotEq σ (.str a) (.str b) (a != b) := fun A s ad u v rm i o r1 r2 => by (first | obtain rfl := r1.toV | obtain ⟨t, rfl⟩ := r1.toS | obtain ⟨t, rfl⟩ := r1.toI | obtain rfl := r1.toB | cases r1); (first | obtain rfl := r2.toV | obtain ⟨t, rfl⟩ := r2.toS | obtain ⟨t, rfl⟩ := r2.toI | obtain rfl := r2.toB | cases r2); exact P.ne_str ⟨kRefl _, by unfold bne; rw [str_beq]⟩
end
end Mine
end

section
open PySem PySem.W PySem.Calls PyProof.Rows
set_option Elab.async false
set_option tactic.hygienic false
set_option linter.unusedVariables false
namespace Mine
section
variable {w : World} {hb : Heap} {n : Nat} {A : Around} {env : Env} {ls ls' : List (Str × D)} {σ : List Ob} {ad : List Addr} {s s' : Shared} {E : Value → Shared → Prop}

theorem Fs.typeS {x : Str} : Fs w hb n (.type "type") [.str x] σ (.val (.type "str")) := fun A s ad vals rm i o r => by
  cases r with | cons r1 r2 => (first | obtain rfl := r2.toV | obtain ⟨t, rfl⟩ := r2.toS | obtain ⟨t, rfl⟩ := r2.toI | obtain rfl := r2.toB | cases r2); (first | obtain rfl := r1.toV | obtain ⟨t, rfl⟩ := r1.toS | obtain ⟨t, rfl⟩ := r1.toI | obtain rfl := r1.toB | cases r1); exact call_type_of (typeIs_str _ _ _) rfl ⟨kRefl _, .val _⟩
theorem Fs.isiB {x : Str} : Fs w hb n (.builtin "isinstance") [.str x, .val (.type "bytes")] σ (.bool false) := fun A s ad vals rm i o r => by
  cases r with | cons r1 r2 => cases r2 with | cons r2 r3 => (first | obtain rfl := r3.toV | obtain ⟨t, rfl⟩ := r3.toS | obtain ⟨t, rfl⟩ := r3.toI | obtain rfl := r3.toB | cases r3); (first | obtain rfl := r1.toV | obtain ⟨t, rfl⟩ := r1.toS | obtain ⟨t, rfl⟩ := r1.toI | obtain rfl := r1.toB | cases r1); (first | obtain rfl := r2.toV | obtain ⟨t, rfl⟩ := r2.toS | obtain ⟨t, rfl⟩ := r2.toI | obtain rfl := r2.toB | cases r2); exact IsiPair.str_bytes ⟨kToks s _, .bool _⟩

theorem sub_str_str : isSubtype (.type "str") (.type "str") = pure true := by kernel_rfl
theorem nested_str {prog : Program} {dep : Int} {tk : Tok} {Q : Fin → Shared → Prop} (hq : Q (.done (.ret (.bool true))) s) :
    wpAny (model prog w) A (Builtin.«issubclass.nested» ⟨[.type "str", .type "str", .int dep tk], []⟩) Q E s := by
  have hm : typeOf (.type "str") = pure (.type "type") := by kernel_rfl
  have hs := sub_str_str
  unfold Builtin.«issubclass.nested»
  repeat (any_goals (first | assumption | (rw [if_pos rfl]) | (rw [hs]) | wp_step))
theorem args_issub3 (a b c : Value) : argsOk "issubclass.nested" ⟨[a, b, c], []⟩ := by unfold argsOk; kernel_rfl
theorem kind_issub3 : builtinKind "issubclass.nested" = none := by decide +kernel
theorem plain_issub3 : plainId "issubclass.nested" = true := by decide +kernel
theorem nested_tuple {prog : Program} {t : Addr} {ob : Obj} {vs : Array Value} {m : Nat} {Q : Fin → Shared → Prop} (e1 : s.heap.get? t = some ob) (e2 : ob.cls = .type "tuple") (e4 : ob.data = .seq vs m)
    (hvs : vs.toList = [.type "str", .type "bytes"]) (hq : Q (.done (.ret (.bool true))) s) :
    wpAny (model prog w) A (Builtin.«issubclass.nested» ⟨[.type "str", .ref t, rawInt 0], []⟩) Q E s := by
  obtain ⟨h, g, d, tt, os⟩ := s
  have hT2 : (⟨h, g, d, tt, os⟩ : Shared).TypeIs (.ref t) "tuple" := ⟨_, e1, e2⟩
  have f1 := F.isi_sub_tuple
  have e1' : h.get? t = some ob := e1
  unfold Builtin.«issubclass.nested»
  repeat (any_goals (first | assumption | wp_step))
  rw [e4]
  refine wpAny_pure (wpAny_bind ?_)
  rw [Option.getD_some, ← Array.forIn_toList, hvs, List.forIn_cons]
  refine wpAny_bind (wpAny_bind (call_function_meets kind_issub3 plain_issub3 F.entry_issubclass_nested (args_issub3 _ _ _) (S := fun A R s => R (.ok (.ret (.bool true))) s) (fun prog w A R s hs => nested_str hs) ?_))
  refine wpAny_bind (wpAny_truthy_bool ?_)
  rw [if_pos rfl]
  exact wpAny_bind (wpAny_pure (wpAny_pure (wpAny_pure (wpAny_pure hq))))
theorem Fs.issub : Fs w hb n (.builtin "issubclass") [.val (.type "str"), .tup [.val (.type "str"), .val (.type "bytes")]] σ (.bool true) := fun A s ad vals rm i o r => by
  cases r with | cons r1 r2 => cases r2 with | cons r2 r3 => 
  (first | obtain rfl := r3.toV | obtain ⟨t, rfl⟩ := r3.toS | obtain ⟨t, rfl⟩ := r3.toI | obtain rfl := r3.toB | cases r3); (first | obtain rfl := r1.toV | obtain ⟨t, rfl⟩ := r1.toS | obtain ⟨t, rfl⟩ := r1.toI | obtain rfl := r1.toB | cases r1)
  obtain ⟨t, ob, vs, m, rfl, e1, e2, e3, e4, e5⟩ := r2.isT
  obtain ⟨a, b, hvs⟩ : ∃ a b, vs.toList = [a, b] := by
    generalize vs.toList = l at e5
    cases e5 with | cons x y => cases y with | cons y z => cases z; exact ⟨_, _, rfl⟩
  rw [hvs] at e5
  cases e5 with
  | cons x y => 
    cases x; cases y with
    | cons y z => 
      cases y; cases z
      exact call_issubclass (S := fun A R s => R (.ok (.ret (.bool true))) s ∧ s.heap.get? t = some ob) (fun prog w A R s hs => issubclass_outer (nested_tuple hs.2 e2 e4 hvs hs.1)) ⟨⟨kRefl _, .bool _⟩, e1⟩
end
end Mine
end

section
open PySem PySem.W PySem.Calls PyProof.Rows
set_option Elab.async false
set_option tactic.hygienic false
set_option linter.unusedVariables false
namespace Mine
section
variable {w : World} {hb : Heap} {n : Nat} {A : Around} {env : Env} {ls ls' : List (Str × D)} {σ : List Ob} {ad : List Addr} {s s' : Shared} {E : Value → Shared → Prop}

-- what type a datum's value is of
noncomputable def TyD (σ : List Ob) (d : D) (T : String) : Prop := (T = "str" ∧ ∃ x, d = .str x) ∨ (T = "list" ∧ ∃ xs, IsL σ d xs) ∨ (T = "tuple" ∧ ∃ xs, d = .tup xs)
theorem TyD.ok {d : D} {T : String} {v : Value} (h : TyD σ d T) (r : Rd s.heap ad v d) (o : Own hb σ ad s.heap) : s.TypeIs v T ∧ ∀ a, v = .ref a → ∃ ob, s.heap.get? a = some ob ∧ ob.dict = Option.none := by
  rcases h with ⟨rfl, x, rfl⟩ | ⟨rfl, xs, hl⟩ | ⟨rfl, xs, rfl⟩
  · (first | obtain rfl := r.toV | obtain ⟨t, rfl⟩ := r.toS | obtain ⟨t, rfl⟩ := r.toI | obtain rfl := r.toB | cases r); exact ⟨typeIs_str _ _ _, fun a q => by cases q⟩
  · obtain ⟨a, ob, vs, m, rfl, e1, e2, e3, e4, e5⟩ := r.isL hl o
    exact ⟨⟨ob, e1, e2⟩, fun b q => by cases q; exact ⟨ob, e1, e3⟩⟩
  · obtain ⟨a, ob, vs, m, rfl, e1, e2, e3, e4, e5⟩ := r.isT
    exact ⟨⟨ob, e1, e2⟩, fun b q => by cases q; exact ⟨ob, e1, e3⟩⟩

theorem Ev.meth {o : PySem.Expr} {name : Str} {apos pos : Pos} {es : List PySem.Expr} {T id : String} {d0 d : D} {ds : List D} (h0 : Ev w hb n env ls σ o d0) (ha : EvA w hb n env ls σ es ds)
    (hf : Fs w hb n (.builtin id) (d0 :: ds) σ d) (pa : PlainAttrs T) (slot : Slot T name id) (hty : typeOf (.builtin id) = pure (.type "method_descriptor")) (ht : TyD σ d0 T)
    (hbase : autoParam (attributeBase o name env (eval o env) = eval o env) Mine.auR)
    (hfew : autoParam (((backTo pos (starEach es env)).all (fun x => !x.1) && (backToKw pos (keywordEach [] env)).all (fun x => x.1.isSome)
      && decide (es.length + ([] : List Keyword).length + (if ([] : List Keyword).isEmpty then 0 else 1) < 30)) = true) Mine.auR)
    (hline : autoParam ((apos.endLine == pos.line) = true) Mine.auR) : Ev w hb n env ls σ (.Call (.Attribute o name apos) es [] pos) d := fun A s ad c => by
  refine wpAny_Call_method hbase hfew hline pa slot hty (h0.use c fun v s1 k1 c1 r1 => ?_)
  obtain ⟨q1, q2⟩ := ht.ok r1 c1.st.own
  refine ⟨q1, q2, callWith_any Kpr.blt ha c1 fun vs s2 k2 c2 r2 => ?_⟩
  exact hf.use c2 (.cons (r1.keeps (kHeap k2)) r2) fun v s3 k3 c3 r3 => ⟨kTrans k1 (kTrans k2 k3), r3⟩

theorem Fs.rfind {x y : Str} : Fs w hb n (.builtin "str.rfind") [.str x, .str y] σ (.int (Txt.rfind x y)) := fun A s ad vals rm i o r => by
  cases r with | cons r1 r2 => cases r2 with | cons r2 r3 => (first | obtain rfl := r3.toV | obtain ⟨t, rfl⟩ := r3.toS | obtain ⟨t, rfl⟩ := r3.toI | obtain rfl := r3.toB | cases r3); (first | obtain rfl := r1.toV | obtain ⟨t, rfl⟩ := r1.toS | obtain ⟨t, rfl⟩ := r1.toI | obtain rfl := r1.toB | cases r1); (first | obtain rfl := r2.toV | obtain ⟨t, rfl⟩ := r2.toS | obtain ⟨t, rfl⟩ := r2.toI | obtain rfl := r2.toB | cases r2); exact SC.rfind ⟨kToks _ _, .int _ _⟩
theorem Fs.startswith {x y : Str} : Fs w hb n (.builtin "str.startswith") [.str x, .str y] σ (.bool (Txt.startswith x y)) := fun A s ad vals rm i o r => by
  cases r with | cons r1 r2 => cases r2 with | cons r2 r3 => (first | obtain rfl := r3.toV | obtain ⟨t, rfl⟩ := r3.toS | obtain ⟨t, rfl⟩ := r3.toI | obtain rfl := r3.toB | cases r3); (first | obtain rfl := r1.toV | obtain ⟨t, rfl⟩ := r1.toS | obtain ⟨t, rfl⟩ := r1.toI | obtain rfl := r1.toB | cases r1); (first | obtain rfl := r2.toV | obtain ⟨t, rfl⟩ := r2.toS | obtain ⟨t, rfl⟩ := r2.toI | obtain rfl := r2.toB | cases r2); exact SC.startswith ⟨kRefl _, .bool _⟩
theorem Fs.endswith {x y : Str} : Fs w hb n (.builtin "str.endswith") [.str x, .str y] σ (.bool (Txt.endswith x y)) := fun A s ad vals rm i o r => by
  cases r with | cons r1 r2 => cases r2 with | cons r2 r3 => (first | obtain rfl := r3.toV | obtain ⟨t, rfl⟩ := r3.toS | obtain ⟨t, rfl⟩ := r3.toI | obtain rfl := r3.toB | cases r3); (first | obtain rfl := r1.toV | obtain ⟨t, rfl⟩ := r1.toS | obtain ⟨t, rfl⟩ := r1.toI | obtain rfl := r1.toB | cases r1); (first | obtain rfl := r2.toV | obtain ⟨t, rfl⟩ := r2.toS | obtain ⟨t, rfl⟩ := r2.toI | obtain rfl := r2.toB | cases r2); exact SC.endswith ⟨kRefl _, .bool _⟩
theorem Fs.rstrip {x y : Str} (h : autoParam (x.length ≤ 16777216) Mine.auD) : Fs w hb n (.builtin "str.rstrip") [.str x, .str y] σ (.str (Txt.rstripChars x y)) := fun A s ad vals rm i o r => by
  cases r with | cons r1 r2 => cases r2 with | cons r2 r3 => (first | obtain rfl := r3.toV | obtain ⟨t, rfl⟩ := r3.toS | obtain ⟨t, rfl⟩ := r3.toI | obtain rfl := r3.toB | cases r3); (first | obtain rfl := r1.toV | obtain ⟨t, rfl⟩ := r1.toS | obtain ⟨t, rfl⟩ := r1.toI | obtain rfl := r1.toB | cases r1); (first | obtain rfl := r2.toV | obtain ⟨t, rfl⟩ := r2.toS | obtain ⟨t, rfl⟩ := r2.toI | obtain rfl := r2.toB | cases r2); exact SC.rstripChars (fun t k => ⟨kToks _ _, .str _ _⟩) (sz h)
theorem Fs.lenS {x : Str} (h : autoParam (x.length < 2 ^ 60) Mine.auD) : Fs w hb n (.builtin "len") [.str x] σ (.int x.length) := fun A s ad vals rm i o r => by
  cases r with | cons r1 r2 => (first | obtain rfl := r2.toV | obtain ⟨t, rfl⟩ := r2.toS | obtain ⟨t, rfl⟩ := r2.toI | obtain rfl := r2.toB | cases r2); (first | obtain rfl := r1.toV | obtain ⟨t, rfl⟩ := r1.toS | obtain ⟨t, rfl⟩ := r1.toI | obtain rfl := r1.toB | cases r1); exact P.len_str (by lia) ⟨kToks _ _, .int _ _⟩
theorem Fs.lenL {d : D} {xs : List D} (hl : IsL σ d xs) (h : autoParam (xs.length < 2 ^ 60) Mine.auD) : Fs w hb n (.builtin "len") [d] σ (.int xs.length) := fun A s ad vals rm i o r => by
  cases r with
  | cons r1 r2 =>
    (first | obtain rfl := r2.toV | obtain ⟨t, rfl⟩ := r2.toS | obtain ⟨t, rfl⟩ := r2.toI | obtain rfl := r2.toB | cases r2)
    obtain ⟨a, ob, vs, m, rfl, e1, e2, e3, e4, e5⟩ := r1.isL hl o
    have l1 := e5.length
    rw [Array.length_toList] at l1
    refine len_list ⟨ob, e1, e2, m, e4⟩ (by rw [l1]; lia) ⟨kToks _ _, ?_⟩
    rw [l1]; exact .int _ _
theorem mulOk_of {x : Str} {k : Int} (h0 : 0 ≤ k) (h : x.length * k.toNat ≤ 16777216) (hk : k ≤ 16777216) : MulOk x k := by
  refine ⟨?_, fun h1 h2 => ?_, fun h1 h2 => ?_⟩
  · simp only [Bool.or_eq_false_iff, decide_eq_false_iff_not]; lia
  · intro h3
    have e1 : 0 < k := by lia
    have e2 : (x.length : Int) * k > 2 ^ 63 - 1 := by
      have := Int.lt_ediv_add_one_mul_self (2 ^ 63 - 1) e1
      have h4 : ((2 ^ 63 - 1) / k + 1) ≤ (x.length : Int) := by lia
      have := Int.mul_le_mul_of_nonneg_right h4 (Int.le_of_lt e1)
      lia
    have e3 : ((x.length * k.toNat : Nat) : Int) = (x.length : Int) * k := by rw [Int.natCast_mul, Int.toNat_of_nonneg h0]
    lia
  · unfold Builtin.Str.tooLong; exact decide_eq_false (by show ¬ _ > 16777216; lia)
theorem Bo.mulS {x : Str} {k : Int} (h0 : 0 ≤ k) (h : x.length * k.toNat ≤ 16777216) (hk : k ≤ 16777216) : Bo w hb n .Mult σ (.str x) (.int k) (.str (Txt.mul x k)) := fun A s ad u v rm i o r1 r2 => by
  (first | obtain rfl := r1.toV | obtain ⟨t, rfl⟩ := r1.toS | obtain ⟨t, rfl⟩ := r1.toI | obtain rfl := r1.toB | cases r1); (first | obtain rfl := r2.toV | obtain ⟨t, rfl⟩ := r2.toS | obtain ⟨t, rfl⟩ := r2.toI | obtain rfl := r2.toB | cases r2); exact SB.mul (mulOk_of h0 h hk) fun t k => ⟨kToks _ _, .str _ _⟩

/-! a cut of a str -/
theorem isPart_val {v : Value} {p : Option Int} (h : IsPart v p) : ∃ q : Option (Int × Tok), v = partValue q ∧ q.map (·.1) = p := by
  cases h with
  | none => exact ⟨none, rfl, rfl⟩
  | int i t => exact ⟨some (i, t), rfl, rfl⟩
theorem Ev.cutS {value : PySem.Expr} {lo hi : Option PySem.Expr} {p pos : Pos} {x : Str} {l u : Option Int} (h : Ev w hb n env ls σ value (.str x))
    (h1 : EvP w hb n env ls σ lo l) (h2 : EvP w hb n env ls σ hi u) (hx : autoParam (x.length ≤ 16777216) Mine.auD) : Ev w hb n env ls σ (.Subscript value (.Slice lo hi Option.none p) pos) (.str (Txt.slice x l u)) := fun A s ad c => by
  refine sub_any (T := "str") F.slot_str_getitem.lookup (h.use c fun o s1 k1 c1 r1 => wpAny_Slice (h1.use c1 fun vl s2 k2 c2 p1 => h2.use c2 fun vu s3 k3 c3 p2 => ?_))
  rw [evalPart_none]
  (first | obtain rfl := r1.toV | obtain ⟨t, rfl⟩ := r1.toS | obtain ⟨t, rfl⟩ := r1.toI | obtain rfl := r1.toB | cases r1)
  obtain ⟨q1, rfl, rfl⟩ := isPart_val p1
  obtain ⟨q2, rfl, rfl⟩ := isPart_val p2
  refine wpAny_pure ⟨typeIs_str _ _ _, wpAny_getItem_str_slice (l := q1) (u := q2) (st := Option.none) ⟨_, Heap.get?_push_size _ rfl, rfl, rfl⟩ rfl (post_val_or_str ⟨Nat.le_trans (Txt.slice_le x _ _) (sz hx), fun t' k => ?_⟩)⟩
  exact ⟨kTrans k1 (kTrans k2 (kTrans k3 (kTrans (kPush _ _) (kToks _ _)))), .str _ _⟩

/-! two names at once -/
theorem keeps_extBut {h' : Heap} (he : Heap.ExtBut s.heap.objs.size s.heap h') : Keeps s { s with heap := h' } := kOfh fun b o e => he b o (Nat.ne_of_lt (Heap.lt_size e)) e
theorem Ex.swap2 {e : PySem.Expr} {elts : List PySem.Expr} {k : Nat} {tpos pos : Pos} {x y : Str} {d1 d2 : D} (he : Ev w hb n env ls σ e (.tup [d1, d2])) (hx : Stor env x) (hy : Stor env y)
    (hs : autoParam (swapsWithSole [.Tuple elts k tpos] e pos.line env = pure false) Mine.auR) (hw : autoParam (swappedStores [.Tuple elts k tpos] e env = pure (some [x, y])) Mine.auR) :
    Ex w hb n env ls σ (.Assign [.Tuple elts k tpos] e pos) (.next ((x, d1) :: (y, d2) :: ls)) := fun A s ad c => by
  refine Assign_Tuple_swapped (he.useS c fun v s1 k1 c1 r1 => ?_) hs hw
  obtain ⟨a, ob, vs, m, rfl, e1, e2, e3, e4, e5⟩ := r1.isT
  obtain ⟨v1, v2, hvs, r1, r2⟩ : ∃ v1 v2, vs.toList = [v1, v2] ∧ Rd s1.heap ad v1 d1 ∧ Rd s1.heap ad v2 d2 := by
    generalize vs.toList = l at e5
    cases e5 with | cons x y => cases y with | cons y z => cases z; exact ⟨_, _, rfl, x, y⟩
  have hsz : vs.size = 2 := by rw [← Array.length_toList, hvs]; rfl
  show wpAny _ _ (unpackItems (.ref a) 2 none) _ _ _
  rw [← hsz]
  refine wpAny_unpackItems_tuple c1.cx.rm.handled ⟨ob, e1, e2, m, e4⟩ fun h' hext => ?_
  rw [hvs]
  have k2 := keeps_extBut hext
  have c2 := c1.keeps k2
  show wpAny _ _ (assignInOrder [bindName env y, bindName env x] [v2, v1]) _ _ _
  unfold assignInOrder
  refine wpAny_bind (wpAny_holding (wpAny_bindName (store_ok c2 (r2.keeps (kHeap k2)) hy fun s3 k3 c3 => ?_)))
  unfold assignInOrder
  refine wpAny_bind (wpAny_holding (wpAny_bindName (store_ok c3 ((r1.keeps (kHeap k2)).car (c2.car k3)) hx fun s4 k4 c4 => ?_)))
  unfold assignInOrder
  exact wpAny_pure ⟨kfTrans (kfOf k1) (kfTrans (kfOf k2) (kfTrans k3 k4)), rfl, c4⟩
end
end Mine
end

section
open PySem PySem.W PySem.Calls PyProof.Rows
set_option Elab.async false
set_option tactic.hygienic false
set_option linter.unusedVariables false
namespace Mine

-- an iterator at I, standing at the first of xs
structure Wk (w : World) (hb : Heap) (A : Around) (ad : List Addr) (I : Addr) (fp : List Addr) (xs : List D) (P : Nat → Value → Prop) (S : Nat → Heap → Prop) (h : Heap) : Prop where
  W : Walks pg w A I fp [I] xs.length P S
  st : S 0 h
  obj : ∀ i h, S i h → ∃ o vs, h.get? I = some o ∧ o.data = .fields vs
  new : hb.get? I = none
  val' : ∀ h' ad' ex, Car h h' ad ad' ex → ∀ i v, P i v → ∃ d, xs[i]? = some d ∧ Rd h' ad' v d
  seqs : ∀ b ∈ fp, b ≠ tb ∧ ∃ o, h.get? b = some o ∧ ((∃ vs n, o.data = .seq vs n) ∨ ∃ vs, o.data = .fields vs)

theorem Wk.old {w : World} {hb : Heap} {A : Around} {ad : List Addr} {I : Addr} {fp : List Addr} {xs : List D} {P : Nat → Value → Prop} {S : Nat → Heap → Prop} {h : Heap} (W : Wk w hb A ad I fp xs P S h) : ∀ b ∈ fp, b < h.objs.size :=
  fun b hm => let ⟨_, _, e, _⟩ := W.seqs b hm; Heap.lt_size e
theorem Wk.val {w : World} {hb : Heap} {A : Around} {ad : List Addr} {I : Addr} {fp : List Addr} {xs : List D} {P : Nat → Value → Prop} {S : Nat → Heap → Prop} {h : Heap} (W : Wk w hb A ad I fp xs P S h) (h' : Heap) (ex : List Addr) (car : Car h h' ad ad ex) :
    ∀ i v, P i v → ∃ d, xs[i]? = some d ∧ Rd h' ad v d := W.val' h' ad ex car
theorem Wk.valNew {w : World} {hb : Heap} {A : Around} {ad : List Addr} {I : Addr} {fp : List Addr} {xs : List D} {P : Nat → Value → Prop} {S : Nat → Heap → Prop} {h : Heap} (W : Wk w hb A ad I fp xs P S h) (h' : Heap) (a : Addr) (ha : h.get? a = none) {ex : List Addr} (car : Car h h' ad ad ex) :
    ∀ i v, P i v → ∃ d, xs[i]? = some d ∧ Rd h' (ad ++ [a]) v d := W.val' h' (ad ++ [a]) ex ⟨car.keep, car.sub, fun i b q => by rw [List.getElem?_append_left (List.getElem?_eq_some_iff.mp q).1]; exact q, fun b hm => by
      rcases List.mem_append.mp hm with q | q
      · exact .inl q
      · replace q := (List.mem_singleton.mp q).symm; subst q; exact .inr ha⟩

-- iterating over d gives xs
noncomputable def Src (w : World) (hb : Heap) (σ : List Ob) (d : D) (xs : List D) : Prop :=
  ∀ (A : Around) (s : Shared) (ad : List Addr) (v : Value), A.handled = none → Inv w hb s → Own hb σ ad s.heap → Rd s.heap ad v d → ∀ (Q : Value → Shared → Prop) (E : Value → Shared → Prop),
    (∀ I fp P S s', Keeps s s' → s.heap.get? I = none → Wk w hb A ad I fp xs P S s'.heap → Q (.ref I) s') → wpAny (model pg w) A (pyIter v) Q E s

section
variable {w : World} {hb : Heap} {n : Nat} {A : Around} {env : Env} {ls ls' : List (Str × D)} {σ : List Ob} {ad : List Addr} {s s' : Shared} {E : Value → Shared → Prop}
-- a state's tests by name alone: what is asked behind a walk is hidden, so that its copies are small
theorem hideQ {α : Type} {M : Model} {A : Around} {t : Sem α} {Q : α → Shared → Prop} {E : Value → Shared → Prop} {s : Shared} (h : ∀ Q' : α → Shared → Prop, (∀ v s, Q v s → Q' v s) → wpAny M A t Q' E s) : wpAny M A t Q E s := h Q fun _ _ h => h
theorem hideQE {α : Type} {M : Model} {A : Around} {t : Sem α} {Q : α → Shared → Prop} {E : Value → Shared → Prop} {s : Shared} (h : ∀ (Q' : α → Shared → Prop) (E' : Value → Shared → Prop), (∀ v s, Q v s → Q' v s) → (∀ v s, E v s → E' v s) → wpAny M A t Q' E' s) : wpAny M A t Q E s := h Q E (fun _ _ h => h) (fun _ _ h => h)
theorem hideR {M : Model} {A : Around} {c : Code} {R : Result → Shared → Prop} {s : Shared} (h : ∀ R' : Result → Shared → Prop, (∀ r s, R r s → R' r s) → codeAny M A c R' s) : codeAny M A c R s := h R fun _ _ h => h
theorem hideI {P : Prop} {I : Nat → Shared → Prop} (h : ∀ J : Nat → Shared → Prop, (∀ m s, J m s ↔ I m s) → P) : P := h I fun _ _ => Iff.rfl

theorem fresh_none (s : Shared) : s.heap.get? s.heap.objs.size = none := by
  cases q : s.heap.get? s.heap.objs.size with
  | none => rfl
  | some o => exact absurd (Heap.lt_size q) (Nat.lt_irrefl _)

theorem Src.list {d : D} {xs : List D} (hd : IsL σ d xs) : Src w hb σ d xs := fun A s ad v hh i o r Q E h => by
  obtain ⟨a, ob, vs, m, rfl, e1, e2, e3, e4, e5⟩ := r.isL hd o
  have il : s.heap.IsList a vs := ⟨ob, e1, e2, m, e4⟩
  have l1 := e5.length
  rw [Array.length_toList] at l1
  have hlt := Heap.lt_size e1
  refine wpAny_pyIter_list il (h _ _ _ _ _ (kPush _ _) (fresh_none s) ⟨l1 ▸ Walks.list hh s.heap.objs.size a (Nat.ne_of_lt hlt) vs, ⟨⟨_, Heap.get?_push_size _ rfl, rfl, rfl⟩, il.push _⟩, ?_, i.newer (Nat.le_refl _), ?_, ?_⟩)
  · rintro j h' ⟨⟨o', q1, q2, q3⟩, _⟩; exact ⟨o', _, q1, q3⟩
  · intro h' ad' ex car j v hv
    have r' := (e5.keeps (kHeap (kPush s { cls := .type "list_iterator", data := .fields #[.ref a, .int 0 0] }))).car car
    exact r'.get j v (by simpa using hv)
  · intro b hb'
    (first | replace hb' := mem2 hb' | replace hb' := mem3 hb' | simp only [List.mem_cons, List.not_mem_nil, or_false] at hb')
    have tbf := i.tab.fields
    rcases hb' with rfl | rfl
    · refine ⟨fun q => ?_, _, Heap.get?_push_size _ rfl, .inr ⟨_, rfl⟩⟩
      obtain ⟨_, _, e, _⟩ := tbf
      rw [← q, fresh_none] at e; cases e
    · refine ⟨fun q => ?_, ob, Heap.get?_push_of_some _ e1, .inl ⟨vs, m, e4⟩⟩
      obtain ⟨_, _, e, hd⟩ := tbf
      rw [← q, e1] at e; cases e; (first | exact nS e4 hd | exact nS hd e4 | exact nD e4 hd | exact nD hd e4 | cases sE e4 hd | (rw [e4] at hd; cases hd))
theorem Src.tup {xs : List D} : Src w hb σ (.tup xs) xs := fun A s ad v hh i o r Q E h => by
  obtain ⟨a, ob, vs, m, rfl, e1, e2, e3, e4, e5⟩ := r.isT
  have il : s.heap.IsTuple a vs := ⟨ob, e1, e2, m, e4⟩
  have l1 := e5.length
  rw [Array.length_toList] at l1
  have hlt := Heap.lt_size e1
  refine wpAny_pyIter_tuple il (h _ _ _ _ _ (kPush _ _) (fresh_none s) ⟨l1 ▸ Walks.tuple hh s.heap.objs.size a (Nat.ne_of_lt hlt) vs, ⟨⟨_, Heap.get?_push_size _ rfl, rfl, rfl⟩, il.push _⟩, ?_, i.newer (Nat.le_refl _), ?_, ?_⟩)
  · rintro j h' ⟨⟨o', q1, q2, q3⟩, _⟩; exact ⟨o', _, q1, q3⟩
  · intro h' ad' ex car j v hv
    have r' := (e5.keeps (kHeap (kPush s { cls := .type "tuple_iterator", data := .fields #[.ref a, .int 0 0] }))).car car
    exact r'.get j v (by simpa using hv)
  · intro b hb'
    (first | replace hb' := mem2 hb' | replace hb' := mem3 hb' | simp only [List.mem_cons, List.not_mem_nil, or_false] at hb')
    have tbf := i.tab.fields
    rcases hb' with rfl | rfl
    · refine ⟨fun q => ?_, _, Heap.get?_push_size _ rfl, .inr ⟨_, rfl⟩⟩
      obtain ⟨_, _, e, _⟩ := tbf
      rw [← q, fresh_none] at e; cases e
    · refine ⟨fun q => ?_, ob, Heap.get?_push_of_some _ e1, .inl ⟨vs, m, e4⟩⟩
      obtain ⟨_, _, e, hd⟩ := tbf
      rw [← q, e1] at e; cases e; (first | exact nS e4 hd | exact nS hd e4 | exact nD e4 hd | exact nD hd e4 | cases sE e4 hd | (rw [e4] at hd; cases hd))

-- what iter gives, one after the other
noncomputable def Si (w : World) (hb : Heap) (n : Nat) (env : Env) (ls : List (Str × D)) (σ : List Ob) (iter : PySem.Expr) (xs : List D) : Prop :=
  ∀ (A : Around) (s : Shared) (ad : List Addr), Cx w hb n A env ls σ ad s → ∀ (Q : Value → Shared → Prop) (E : Value → Shared → Prop),
    (∀ I fp P S s', Keeps s s' → s.heap.get? I = none → Wk w hb A ad I fp xs P S s'.heap → Q (.ref I) s') → wpAny (model pg w) A (eval iter env) (fun v s1 => wpAny (model pg w) A (pyIter v) Q E s1) E s
theorem Si.of {iter : PySem.Expr} {d : D} {xs : List D} (hi : Ev w hb n env ls σ iter d) (hsrc : Src w hb σ d xs) : Si w hb n env ls σ iter xs := fun A s ad c Q E h =>
  hi.use c fun v s1 k1 c1 r1 => hsrc A s1 ad v c1.rm.handled c1.inv c1.st.own r1 _ _ fun I fp P S s2 k2 hnew W => h I fp P S s2 (kTrans k1 k2) (k1.heap.fresh c.inv.tab hnew) W
-- the same, of a source that no owned object is
noncomputable def SiP (w : World) (hb : Heap) (n : Nat) (env : Env) (ls : List (Str × D)) (σ : List Ob) (iter : PySem.Expr) (xs : List D) : Prop :=
  ∀ (A : Around) (s : Shared) (ad : List Addr), Cx w hb n A env ls σ ad s → ∀ (Q : Value → Shared → Prop) (E : Value → Shared → Prop),
    (∀ I fp P S s', Keeps s s' → s.heap.get? I = none → Wk w hb A ad I fp xs P S s'.heap → (∀ b ∈ fp, b ∉ ad) → Q (.ref I) s') → wpAny (model pg w) A (eval iter env) (fun v s1 => wpAny (model pg w) A (pyIter v) Q E s1) E s
theorem SiP.si {iter : PySem.Expr} {xs : List D} (h : SiP w hb n env ls σ iter xs) : Si w hb n env ls σ iter xs := fun A s ad c Q E f => h A s ad c Q E fun I fp P S s' k hn W _ => f I fp P S s' k hn W
theorem Own.fresh {h : Heap} (o : Own hb σ ad h) : h.objs.size ∉ ad := fun hm => Nat.lt_irrefl _ (o.old hm)
theorem SiP.lst {iter : PySem.Expr} {xs : List D} (hi : Ev w hb n env ls σ iter (.lst xs)) : SiP w hb n env ls σ iter xs := fun A s ad c Q E h =>
  hi.use c fun v s1 k1 c1 r1 => by
    have hp : ∀ a, v = .ref a → a ∉ ad := fun a q => by cases r1 with | lst h1 h2 h3 h4 h5 h6 => cases q; exact h5
    obtain ⟨a, ob, vs, m, rfl, e1, e2, e3, e4, e5⟩ := r1.isL (.inl rfl) c1.st.own
    have i := c1.inv
    have il : s1.heap.IsList a vs := ⟨ob, e1, e2, m, e4⟩
    have l1 := e5.length
    rw [Array.length_toList] at l1
    have hlt := Heap.lt_size e1
    refine wpAny_pyIter_list il (h _ _ _ _ _ (kTrans k1 (kPush _ _)) (k1.heap.fresh c.inv.tab (fresh_none s1)) ⟨l1 ▸ Walks.list c.rm.handled s1.heap.objs.size a (Nat.ne_of_lt hlt) vs, ⟨⟨_, Heap.get?_push_size _ rfl, rfl, rfl⟩, il.push _⟩, ?_, i.newer (Nat.le_refl _), ?_, ?_⟩ ?_)
    · rintro j h' ⟨⟨o', q1, q2, q3⟩, _⟩; exact ⟨o', _, q1, q3⟩
    · intro h' ad' ex car j v hv
      have r' := (e5.keeps (kHeap (kPush s1 { cls := .type "list_iterator", data := .fields #[.ref a, .int 0 0] }))).car car
      exact r'.get j v (by simpa using hv)
    · intro b hb'
      (first | replace hb' := mem2 hb' | replace hb' := mem3 hb' | simp only [List.mem_cons, List.not_mem_nil, or_false] at hb')
      have tbf := i.tab.fields
      rcases hb' with rfl | rfl
      · refine ⟨fun q => ?_, _, Heap.get?_push_size _ rfl, .inr ⟨_, rfl⟩⟩
        obtain ⟨_, _, e, _⟩ := tbf
        rw [← q, fresh_none] at e; cases e
      · refine ⟨fun q => ?_, ob, Heap.get?_push_of_some _ e1, .inl ⟨vs, m, e4⟩⟩
        obtain ⟨_, _, e, hd⟩ := tbf
        rw [← q, e1] at e; cases e; (first | exact nS e4 hd | exact nS hd e4 | exact nD e4 hd | exact nD hd e4 | cases sE e4 hd | (rw [e4] at hd; cases hd))
    · intro b hb'
      replace hb' := mem2f hb'
      rcases hb' with rfl | rfl
      · exact c1.st.own.fresh
      · exact hp _ rfl
theorem Car.refl (h : Heap) (ad : List Addr) : Car h h ad ad [] := ⟨fun b o _ e => ⟨o, e, .refl o⟩, fun b hb => by simp at hb, fun _ _ e => e, fun _ e => .inl e⟩
-- an iterator's own step is nothing to a frame
theorem Car.skip {I : Addr} {o : Obj} {vs : Array Value} (k : KeepsX [I] s s') (t : TabOk s.heap) (e : s.heap.get? I = some o) (hd : o.data = .fields vs) : Car s.heap s'.heap ad ad [I, tb] :=
  ⟨fun b o hb' e' => by
    (first | replace hb' := nmem2 hb' | simp only [List.mem_cons, List.not_mem_nil, or_false, not_or] at hb')
    exact ⟨o, kfHeap k b o (by simpa using hb'.1) hb'.2 e', .refl o⟩, fun b hm => .inr (by
    replace hm := mem2f hm
    rcases hm with rfl | rfl
    · refine ⟨fun o' e' vs' n q => ?_, fun t q => ?_⟩
      · (first | exact nS e e' | exact nS e' e | exact nD e e' | exact nD e' e | cases sE e e' | (rw [e] at e'; cases e')); (first | exact nS hd q | exact nS q hd | exact nD hd q | exact nD q hd | cases sE hd q | (rw [hd] at q; cases q))
      · obtain ⟨o', _, _, e', hd', _⟩ := q; (first | exact nS e e' | exact nS e' e | exact nD e e' | exact nD e' e | cases sE e e' | (rw [e] at e'; cases e')); (first | exact nS hd hd' | exact nS hd' hd | exact nD hd hd' | exact nD hd' hd | cases sE hd hd' | (rw [hd] at hd'; cases hd'))
    · exact t.nd), fun _ _ e => e, fun _ e => .inl e⟩
theorem KeepsX.ns {X : List Addr} {a : Addr} {m : Str → Option Value} (k : KeepsX X s s') (hn : s.heap.Ns a m) (ha : a ∉ X) : s'.heap.Ns a m := by
  obtain ⟨o, es, ep, ho, hd, r⟩ := hn
  exact ⟨o, es, ep, k.get a o ha ho (fun _ us q => by (first | exact nS hd q | exact nS q hd | exact nD hd q | exact nD q hd | cases sE hd q | (rw [hd] at q; cases q))), hd, r⟩
theorem KeepsX.cell {X : List Addr} {a : Addr} {v : Option Value} (k : KeepsX X s s') (hn : s.heap.IsCell a v) (ha : a ∉ X) : s'.heap.IsCell a v := by
  obtain ⟨o, ho, hd⟩ := hn
  exact ⟨o, k.get a o ha ho (fun _ us q => by (first | exact nS hd q | exact nS q hd | exact nD hd q | exact nD q hd | cases sE hd q | (rw [hd] at q; cases q))), hd⟩
theorem KeepsX.inv {X : List Addr} (k : KeepsX X s s') (i : Inv w hb s) (hX : ∀ b ∈ X, hb.get? b = none) : Inv w hb s' :=
  ⟨i.bs, fun b ob hb' q => kfHeap k b ob (fun hm => by (first | exact nS (hX b hm) q | exact nS q (hX b hm) | exact nD (hX b hm) q | exact nD q (hX b hm) | cases sE (hX b hm) q | (rw [hX b hm] at q; cases q))) hb' (i.keep b ob hb' q), k.tab i.tab, k.bare i.bare⟩
theorem Cx.skip {I : Addr} {o : Obj} {vs : Array Value} (c : Cx w hb n A env ls σ ad s) (hI : hb.get? I = none) (e : s.heap.get? I = some o) (hd : o.data = .fields vs)
    (k : KeepsX [I] s s') : Cx w hb n A env ls σ ad s' := by
  have car := Car.skip (ad := ad) k c.inv.tab e hd
  have nf : ∀ b ob, s.heap.get? b = some ob → (∀ us, ob.data ≠ .fields us) → b ∉ [I] := fun b ob eb f q => by
    replace q := (List.mem_singleton.mp q).symm
    subst q; (first | exact nS e eb | exact nS eb e | exact nD e eb | exact nD eb e | cases sE e eb | (rw [e] at eb; cases eb)); exact f vs hd
  have nns : ∀ b m, s.heap.Ns b m → b ∉ [I] := fun b m hn => let ⟨ob, _, _, eb, hd', _⟩ := hn; nf b ob eb fun us q => by (first | exact nS hd' q | exact nS q hd' | exact nD hd' q | exact nD q hd' | cases sE hd' q | (rw [hd'] at q; cases q))
  have nc : ∀ b v, s.heap.IsCell b v → b ∉ [I] := fun b v hn => let ⟨ob, eb, hd'⟩ := hn; nf b ob eb fun us q => by (first | exact nS hd' q | exact nS q hd' | exact nD hd' q | exact nD q hd' | cases sE hd' q | (rw [hd'] at q; cases q))
  have kns : ∀ b m, s.heap.Ns b m → s'.heap.Ns b m := fun b m hn => k.ns hn (nns b m hn)
  have kc : ∀ b v, s.heap.IsCell b v → s'.heap.IsCell b v := fun b v hn => k.cell hn (nc b v hn)
  refine ⟨⟨c.rm.handled, c.rm.depth, c.rm.units, ?_⟩, k.inv c.inv (by simpa using hI), ?_⟩
  · obtain ⟨outer, e1, e2⟩ := c.rm.frames
    refine ⟨outer, e1, fun env' he => ?_⟩
    obtain ⟨q, L, ob, h1, h2, h3, h4⟩ := e2 env' he
    exact ⟨q, L, ob, h1, h2, k.get L ob (nf L ob h3 h4.1) h3 fun _ => h4.1, h4⟩
  · exact {
      nm := fun y d q => by
        obtain ⟨v, z, r⟩ := c.st.nm y d q
        refine ⟨v, ?_, r.car car⟩
        rcases z with ⟨a, m, b, e'⟩ | ⟨a, cl, b, e'⟩
        · exact .inl ⟨a, m, kns _ _ b, e'⟩
        · exact .inr ⟨a, cl, b, kc _ _ e'⟩
      ns := let ⟨m, hn⟩ := c.st.ns; ⟨m, kns _ _ hn⟩
      loc := c.st.loc
      locad := c.st.locad
      cel := fun nm cl hm => let ⟨a, b, d', vv, z⟩ := c.st.cel nm cl hm; ⟨a, b, d', vv, kc _ _ z⟩
      kind := c.st.kind
      glo := c.st.glo
      bui := c.st.bui
      own := ⟨c.st.own.len, c.st.own.nd, c.st.own.new, fun i a ob e1 e2 => (c.st.own.at' i a ob e1 e2).car car fun ob' e' => by
        obtain ⟨ob2, vs2, m2, q1, q2⟩ := c.st.own.seqs (List.mem_of_getElem? e1)
        (first | exact nS e' q1 | exact nS q1 e' | exact nD e' q1 | exact nD q1 e' | cases sE e' q1 | (rw [e'] at q1; cases q1))
        have f : ∀ us, ob'.data ≠ .fields us := fun us q => by (first | exact nS q2 q | exact nS q q2 | exact nD q2 q | exact nD q q2 | cases sE q2 q | (rw [q2] at q; cases q))
        exact ⟨ob', k.get a ob' (nf a ob' e' f) e' fun _ => f, .refl _⟩⟩ }
theorem Cs.skip {I : Addr} {o : Obj} {vs : Array Value} (c : Cs w hb n A env ls σ ad s) (hI : hb.get? I = none) (e : s.heap.get? I = some o) (hd : o.data = .fields vs)
    (k : KeepsX [I] s s') : Cs w hb n A env ls σ ad s' := by
  refine ⟨c.cx.skip hI e hd k, c.top, ?_, c.fn.kin, c.fn.cel, c.fn.apart, c.fn.frame⟩
  obtain ⟨m, hn, hi⟩ := c.fn.nsf
  refine ⟨m, k.ns hn fun q' => ?_, hi⟩
  replace q' := List.mem_singleton.mp q'
  obtain ⟨ob, _, _, eb, hd', _⟩ := hn
  (first | exact nSg q' e eb | cases sEg q' e eb | (rw [q', e] at eb; cases eb)); (first | exact nS hd hd' | exact nS hd' hd | exact nD hd hd' | exact nD hd' hd | cases sE hd hd' | (rw [hd] at hd'; cases hd'))
-- an iterator's step
theorem keepsI {I : Addr} {h4 : Heap} {tk4 : Nat} (bs : Bs w hb) (hI : hb.get? I = none) (k : ∀ b o, b ∉ [I] → s.heap.get? b = some o → h4.get? b = some o) : KeepsX [I] s { s with heap := h4, toks := tk4 } :=
  ⟨fun b o hb' e _ => k b o hb' e, tabKeeps fun b o q e => k b o (fun q' => by
      replace q' := (List.mem_singleton.mp q').symm; subst q'
      rcases q with rfl | rfl
      · (first | exact nS bs.tbl hI | exact nS hI bs.tbl | exact nD bs.tbl hI | exact nD hI bs.tbl | cases sE bs.tbl hI | (rw [bs.tbl] at hI; cases hI))
      · (first | exact nS (bs.k 173 _ rfl) hI | exact nS hI (bs.k 173 _ rfl) | exact nD (bs.k 173 _ rfl) hI | exact nD hI (bs.k 173 _ rfl) | cases sE (bs.k 173 _ rfl) hI | (rw [bs.k 173 _ rfl] at hI; cases hI))) e, id, rfl⟩
theorem Car.cat {h h' h'' : Heap} {ex ex' : List Addr} (x : Car h h' ad ad ex) (y : Car h' h'' ad ad ex') (hs : ∀ b ∈ ex', b ∈ ad ∨ ((∀ o, h.get? b = some o → ∀ vs n, o.data ≠ .seq vs n) ∧ ∀ t, ¬ h.Ns b (accNs t))) : Car h h'' ad ad (ex ++ ex') :=
  ⟨fun b o hb' e => by
    rw [List.mem_append, not_or] at hb'
    obtain ⟨o', e', m⟩ := x.keep b o hb'.1 e
    obtain ⟨o'', e'', m'⟩ := y.keep b o' hb'.2 e'
    exact ⟨o'', e'', m.trans m'⟩, fun b hm => by
    rcases List.mem_append.mp hm with hm | hm
    · exact x.sub b hm
    · exact hs b hm, fun _ _ e => e, fun _ e => .inl e⟩

-- a for over xs whose every turn goes on
theorem Ex.forN {x : Str} {px pos : Pos} {iter : PySem.Expr} {body : List Stmt} {xs : List D} (inv : Nat → List (Str × D)) (hsi : Si w hb n env ls σ iter xs) (hx : Stor env x)
    (h0 : ∀ y e, (inv 0).lookup y = some e → ls.lookup y = some e)
    (step : ∀ i e, xs[i]? = some e → ∃ l, Exs w hb n env ((x, e) :: inv i) σ body (.next l) ∧ ∀ y e', (inv (i + 1)).lookup y = some e' → l.lookup y = some e')
    (hs : autoParam (∀ x, foldedSetIterable iter env x = pure x) Mine.auI) :
    Ex w hb n env ls σ (.For (.Name x px) iter body [] pos) (.next (inv xs.length)) := fun A s ad c => by
  refine wpAny_For (hsi A s ad c.cx _ _ fun I fp P S s2 k2 hnew W => ?_) hs
  have c2 := c.keeps k2
  have hfp : ∀ b ∈ fp, b ∉ fx env := fun b hb' hm => by
    obtain ⟨_, _, ob, e1, e2, _, e3⟩ := c2.fxcls hm
    obtain ⟨_, o, e, q | q⟩ := W.seqs b hb'
    · (first | exact nS e1 e | exact nS e e1 | exact nD e1 e | exact nD e e1 | cases sE e1 e | (rw [e1] at e; cases e))
      obtain ⟨vs, m, q⟩ := q
      exact e2 vs m q
    · (first | exact nS e1 e | exact nS e e1 | exact nD e1 e | exact nD e e1 | cases sE e1 e | (rw [e1] at e; cases e))
      obtain ⟨vs, q⟩ := q
      exact e3 vs q
  have hI : ∃ o, s2.heap.get? I = some o := let ⟨o, _, e, _⟩ := W.obj 0 _ W.st; ⟨o, e⟩
  have hItb : I ≠ tb := fun q => by have := W.new; (first | exact nSg q c.cx.inv.bs.tbl this | cases sEg q c.cx.inv.bs.tbl this | (rw [q, c.cx.inv.bs.tbl] at this; cases this))
  have fpnt : ∀ b ∈ fp, b ≠ tb := fun b hb' => (W.seqs b hb').1
  refine hideR fun R' hR => hideI (I := fun k s' => ∃ i, i ≤ xs.length ∧ k = xs.length - i ∧ S i s'.heap ∧ Cs w hb n A env (inv i) σ ad s' ∧ KeepsX (I :: fx env) s2 s' ∧ ∃ ex, Car s2.heap s'.heap ad ad ex) fun J hJ => ?_
  refine codeAny_forLoop_any J ?_ (xs.length - 0) ((hJ _ _).mpr ⟨0, Nat.zero_le _, rfl, W.st, c2.sub h0, .refl _ _, [], Car.refl _ _⟩)
  intro k s3 hk
  obtain ⟨i, hil, rfl, hS, c3, keep3, ex, car3⟩ := (hJ _ _).mp hk
  obtain ⟨oI, vsI, eI, dI⟩ := W.obj i _ hS
  have carI : ∀ b ∈ [I, tb], b ∈ ad ∨ ((∀ o, s2.heap.get? b = some o → ∀ vs n, o.data ≠ .seq vs n) ∧ ∀ t, ¬ s2.heap.Ns b (accNs t)) := by
    obtain ⟨o0, vs0, e0, d0⟩ := W.obj 0 _ W.st
    exact (Car.skip (ad := ad) (KeepsX.refl _ _) c2.cx.inv.tab e0 d0).sub
  by_cases hlt : i < xs.length
  · refine W.W.item i _ _ _ hlt hS fun v h4 tk4 hP hS4 keep4 => ?_
    have kI : KeepsX [I] s3 { s3 with heap := h4, toks := tk4 } := keepsI c.cx.inv.bs W.new keep4
    have c4 := c3.skip W.new eI dI kI
    have car4 : Car s2.heap h4 ad ad (ex ++ [I, tb]) := car3.cat (Car.skip (ad := ad) kI c3.cx.inv.tab eI dI) carI
    obtain ⟨e, he, re⟩ := W.val h4 _ car4 i v hP
    refine wpAny_pure ?_
    refine assign_Name (store_ok c4 re hx fun s5 k5 c5 => ?_)
    obtain ⟨l, hex, hsub⟩ := step i e he
    refine wpAny_mono (hex A s5 ad c5) (fun fl s6 q => ?_) fun _ _ f => f.elim
    obtain ⟨k6, rfl, c6⟩ := q
    have k56 := kfTrans k5 k6
    refine ⟨xs.length - (i + 1), by lia, (hJ _ _).mpr ⟨i + 1, by lia, rfl, ?_, c6.sub hsub, keep3.trans ((kI.mono fun b hm => by replace hm := (List.mem_singleton.mp hm).symm; subst hm; exact List.mem_cons_self).trans (k56.mono fun b hm => List.mem_cons_of_mem _ hm)), ?_⟩⟩
    · exact W.W.frame (i + 1) _ _ hS4 fun b hb' o e => kfHeap k56 b o (hfp b hb') (fpnt b hb') e
    · exact ⟨_, car4.cat (c4.car k56) (c2.car (kfRefl env s2)).sub⟩
  · have hin : i = xs.length := by lia
    subst hin
    refine W.W.done _ _ _ hS fun h4 tk4 keep4 => ?_
    have kI : KeepsX [I] s3 { s3 with heap := h4, toks := tk4 } := keepsI c.cx.inv.bs W.new keep4
    have c4 := c3.skip W.new eI dI kI
    exact wpAny_execs_nil (hR _ _ ⟨((KeepsX.of k2).trans (keep3.trans (kI.mono fun b hm => by replace hm := (List.mem_singleton.mp hm).symm; subst hm; exact List.mem_cons_self))).drop hnew, rfl, c4⟩)
end
end Mine
end

section
open PySem PySem.W PySem.Calls PyProof.Rows
set_option Elab.async false
set_option tactic.hygienic false
set_option linter.unusedVariables false
namespace Mine
section
variable {w : World} {hb : Heap} {n : Nat} {A : Around} {env : Env} {ls ls' fls : List (Str × D)} {σ : List Ob} {ad : List Addr} {s s' : Shared} {E : Value → Shared → Prop}

-- the tests of a comprehension
noncomputable def TrI (w : World) (hb : Heap) (n : Nat) (env : Env) (ls : List (Str × D)) (σ : List Ob) (ifs : List PySem.Expr) (b : Bool) : Prop :=
  (ifs = [] ∧ b = true) ∨ ∃ c, ifs = [c] ∧ Tr w hb n env ls σ c b
theorem TrI.no {env : Env} {ls : List (Str × D)} : TrI w hb n env ls σ [] true := .inl ⟨rfl, rfl⟩
theorem TrI.one {env : Env} {ls : List (Str × D)} {c : PySem.Expr} {b : Bool} (h : Tr w hb n env ls σ c b) : TrI w hb n env ls σ [c] b := .inr ⟨c, rfl, h⟩
theorem TrI.use {env : Env} {ls : List (Str × D)} {ifs : List PySem.Expr} {b : Bool} {Q : Bool → Shared → Prop} (h : TrI w hb n env ls σ ifs b) (c : Cx w hb n A env ls σ ad s) (hq : ∀ s', Keeps s s' → Cx w hb n A env ls σ ad s' → Q b s') :
    wpAny (model pg w) A (forIn ifs true fun c r => if r = true then do let ok ← isTrue c env (eval c env); pure (ForInStep.yield ok) else pure (ForInStep.yield r)) Q E s := by
  rcases h with ⟨rfl, rfl⟩ | ⟨e, rfl, h⟩
  · exact wpAny_tests_nil (hq s (kRefl s) c)
  · exact wpAny_tests_one (h.use c hq)

-- which names of the frame a comprehension sees
noncomputable def Free (env : Env) (scope : Scope) (cl : List (Str × Addr)) (x : Str) (ls fls : List (Str × D)) : Prop :=
  ∀ y d, fls.lookup y = some d → ls.lookup y = some d ∧ cl.lookup y = env.cells.lookup y ∧ (env.kindOf y = some .cell ∨ env.kindOf y = some .free) ∧ scope.names.lookup y = some .free ∧ (y == ("__classdict__" : Str)) = false
theorem Free.nil {scope : Scope} {cl : List (Str × Addr)} {x : Str} : Free env scope cl x ls [] := fun y d e => by simp at e
theorem Free.cons {scope : Scope} {cl : List (Str × Addr)} {x y : Str} {d : D} (h : Free env scope cl x ls fls) (h1 : autoParam (ls.lookup y = some d) Mine.auR) (h2 : autoParam (cl.lookup y = env.cells.lookup y) Mine.auR)
    (h3 : env.kindOf y = some .cell ∨ env.kindOf y = some .free := by first | exact .inl rfl | exact .inr rfl) (h4 : autoParam (scope.names.lookup y = some .free) Mine.auR) (h5 : autoParam ((y == ("__classdict__" : Str)) = false) Mine.auD) :
    Free env scope cl x ls ((y, d) :: fls) := fun z e q => by
  rw [look_cons] at q
  by_cases hz : (z == y) = true
  · rw [if_pos hz] at q; cases q
    rw [beq_iff_eq.mp hz]; exact ⟨h1, h2, h3, h4, h5⟩
  · rw [if_neg hz] at q; exact h z e q

theorem lookup_relabel_free {y : Str} : ∀ {names : List (Str × NameKind)}, names.lookup y = some .free →
    (names.map fun (n, k) => if (k == NameKind.free && env.scope.kind == .function && env.kindOf n == some .cell) then (n, NameKind.cell) else (n, k)).lookup y = some .cell ∨
    (names.map fun (n, k) => if (k == NameKind.free && env.scope.kind == .function && env.kindOf n == some .cell) then (n, NameKind.cell) else (n, k)).lookup y = some .free
  | [], h => by simp at h
  | (z, k) :: r, h => by
    have ih := @lookup_relabel_free y r
    cases hx : y == z with
    | true =>
      simp only [List.lookup_cons, hx] at h
      cases h
      by_cases hc : (NameKind.free == NameKind.free && env.scope.kind == .function && env.kindOf z == some .cell) = true
      · left
        show List.lookup y ((if (NameKind.free == NameKind.free && env.scope.kind == .function && env.kindOf z == some .cell) = true then (z, NameKind.cell) else (z, NameKind.free)) :: _) = _
        rw [if_pos hc, List.lookup_cons, hx]
      · right
        show List.lookup y ((if (NameKind.free == NameKind.free && env.scope.kind == .function && env.kindOf z == some .cell) = true then (z, NameKind.cell) else (z, NameKind.free)) :: _) = _
        rw [if_neg hc, List.lookup_cons, hx]
    | false =>
      simp only [List.lookup_cons, hx] at h
      rcases ih h with q | q
      · left
        show List.lookup y ((if (k == NameKind.free && env.scope.kind == .function && env.kindOf z == some .cell) = true then (z, NameKind.cell) else (z, k)) :: _) = _
        split <;> rw [List.lookup_cons, hx] <;> exact q
      · right
        show List.lookup y ((if (k == NameKind.free && env.scope.kind == .function && env.kindOf z == some .cell) = true then (z, NameKind.cell) else (z, k)) :: _) = _
        split <;> rw [List.lookup_cons, hx] <;> exact q

-- the comprehension's own frame
theorem comp_st {scope : Scope} {cl : List (Str × Addr)} {C : Addr} {x : Str} {v : Value} {e : D} {m : Str → Option Value} (c : Cx w hb n A env ls σ ad s) (hf : Free env scope cl x ls fls)
    (hcl : ∀ nm a, (nm, a) ∈ cl → (nm, a) ∈ env.cells) (hkind : scope.kind = .function) (hx : scope.names.lookup x = some .local)
    (hC : hb.get? C = none) (hCad : C ∉ ad) (hCc : ∀ nm a, (nm, a) ∈ env.cells → a ≠ C) (hn : s.heap.Ns C m) (hm : m x = some v) (r : Rd s.heap ad v e) :
    Cx w hb n A (compEnvC scope cl C env) ((x, e) :: fls) σ ad s := by
  refine ⟨c.rm, c.inv, ?_⟩
  exact {
    nm := fun y d q => by
      rw [look_cons] at q
      by_cases hy : (y == x) = true
      · rw [if_pos hy] at q; cases q
        rw [beq_iff_eq.mp hy]
        exact ⟨v, .inl ⟨lookup_relabel_local hx, m, hn, hm⟩, r⟩
      · rw [if_neg hy] at q
        obtain ⟨q1, q2, q3, q4, q5⟩ := hf y d q
        obtain ⟨vy, z, ry⟩ := c.st.nm y d q1
        refine ⟨vy, .inr ⟨?_, ?_⟩, ry⟩
        · rcases lookup_relabel_free (env := env) q4 with z | z
          · exact .inl z
          · exact .inr ⟨z, q5⟩
        · rcases z with ⟨a, _⟩ | ⟨a, cy, b, e'⟩
          · rcases q3 with q3 | q3 <;> rw [a] at q3 <;> cases q3
          · exact ⟨cy, q2.trans b, e'⟩
    ns := ⟨m, hn⟩
    loc := hC
    locad := hCad
    cel := fun nm a h => let ⟨p1, p2, p3, p4⟩ := c.st.cel nm a (hcl nm a h); ⟨p1, hCc nm a (hcl nm a h), p3, p4⟩
    kind := hkind
    glo := c.st.glo
    bui := c.st.bui
    own := c.st.own }

theorem closure_in {scope : Scope} {cl : List (Str × Addr)} (h : closureFor scope env = pure cl) : ∀ nm a, (nm, a) ∈ cl → (nm, a) ∈ env.cells := by
  have gen : ∀ (names : List (Str × NameKind)) (cs out : List (Str × Addr)), (∀ nm a, (nm, a) ∈ cs → (nm, a) ∈ env.cells) →
      (forIn names cs fun (x : Str × NameKind) (r : List (Str × Addr)) => (if (x.2 == NameKind.free) = true then do let a ← cellOf env x.1; pure (ForInStep.yield ((x.1, a) :: r)) else pure (ForInStep.yield r)) : Sem (List (Str × Addr))) = pure out →
      ∀ nm a, (nm, a) ∈ out → (nm, a) ∈ env.cells := by
    intro names
    induction names with
    | nil => intro cs out hcs q nm a hm; rw [List.forIn_nil] at q; injection q with q; subst q; exact hcs nm a hm
    | cons x names ih =>
      intro cs out hcs q
      rw [List.forIn_cons] at q
      by_cases hk : (x.2 == NameKind.free) = true
      · rw [if_pos hk] at q
        unfold cellOf at q
        cases hl : env.cells.lookup x.1 with
        | none => (first | exact nS hl q | exact nS q hl | exact nD hl q | exact nD q hl | cases sE hl q | (rw [hl] at q; cases q))
        | some a =>
          rw [hl] at q
          refine ih ((x.1, a) :: cs) out (fun nm b hm => ?_) q
          rcases List.mem_cons.mp hm with e | hm
          · cases e; exact mem_of_lookup hl
          · exact hcs nm b hm
      · rw [if_neg hk] at q
        exact ih cs out hcs q
  refine gen scope.names [] cl (fun nm a hm => by simp at hm) ?_
  rw [← h]
  unfold closureFor
  simp only [bind_pure]

theorem take_filter_map {p : D → Bool} {g : D → D} {xs : List D} {i : Nat} {e : D} (he : xs[i]? = some e) :
    ((xs.take (i + 1)).filter p).map g = ((xs.take i).filter p).map g ++ (if p e then [g e] else []) := by
  have hl : i < xs.length := (List.getElem?_eq_some_iff.mp he).1
  have he' : xs[i] = e := (List.getElem?_eq_some_iff.mp he).2
  rw [List.take_add_one, he, Option.toList_some, List.filter_append, List.map_append]
  congr 1
  cases h : p e <;> simp [h]

mutual
noncomputable def D.pl : D → Bool
  | .lst xs | .tup xs | .acc xs => D.plAll xs
  | .own _ => false
  | _ => true
noncomputable def D.plAll : List D → Bool
  | [] => true
  | x :: xs => D.pl x && D.plAll xs
end
theorem plAll_iff {xs : List D} : D.plAll xs = true ↔ ∀ x ∈ xs, x.pl = true := by
  induction xs with
  | nil => simp [D.plAll]
  | cons x xs ih => simp [D.plAll, ih]
theorem acc_less {h : Heap} {ad' : List Addr} {a : Addr} {vs : Array Value} (hs : ∀ b ∈ ad, b ∈ ad') (x : AccAt h ad' a vs) : AccAt h ad a vs := by
  obtain ⟨a, b, c, d, e, f1, f2, f3, f4, f5, f6, f7, f8⟩ := x
  exact ⟨a, b, c, d, e, f1, f2, f3, f4, f5, f6, fun hm => f7 (hs _ hm), f8⟩
theorem Rd.shrink {h : Heap} {ad' : List Addr} (hs : ∀ b ∈ ad, b ∈ ad') {v : Value} {d : D} (r : Rd h ad' v d) : d.pl = true → Rd h ad v d :=
  Rd.rec (motive_1 := fun v d _ => d.pl = true → Rd h ad v d) (motive_2 := fun vs ds _ => D.plAll ds = true → RdAll h ad vs ds) (fun _ => .none) (fun b _ => .bool b) (fun i t _ => .int i t) (fun x t _ => .str x t)
    (fun h1 h2 h3 h4 h5 _ ih q => .lst h1 h2 h3 h4 (fun hm => h5 (hs _ hm)) (ih (by simpa only [D.pl] using q)))
    (fun h1 h2 h3 h4 h5 _ ih q => .tup h1 h2 h3 h4 (fun hm => h5 (hs _ hm)) (ih (by simpa only [D.pl] using q)))
    (fun h1 h2 _ ih q => .acc (acc_less hs h1) (fun hm => h2 (hs _ hm)) (ih (by simpa only [D.pl] using q)))
    (fun _ q => by simp [D.pl] at q) (fun v _ => .val v) (fun _ => .nil)
    (fun _ _ x y q => by
      simp only [D.plAll, Bool.and_eq_true] at q
      exact .cons (x q.1) (y q.2)) r
theorem RdAll.shrink {h : Heap} {ad' : List Addr} (hs : ∀ b ∈ ad, b ∈ ad') {vs : List Value} {ds : List D} (r : RdAll h ad' vs ds) : D.plAll ds = true → RdAll h ad vs ds :=
  RdAll.ind (P := fun vs ds => D.plAll ds = true → RdAll h ad vs ds) (fun _ => .nil) (fun h1 _ ih q => by
    simp only [D.plAll, Bool.and_eq_true] at q
    exact .cons (h1.shrink hs q.1) (ih q.2)) r

-- a new object becomes an owned one
theorem Cx.own_new {a : Addr} {ob : Ob} {I : Addr} {oI : Obj} {vs : Array Value} (c : Cx w hb n A env ls σ ad s) (hI : hb.get? I = none) (e : s.heap.get? I = some oI) (hd : oI.data = .fields vs)
    (k : KeepsX [I] s s') (ha : s.heap.get? a = none) (hba : hb.get? a = none) (r : RdOb s'.heap (ad ++ [a]) a ob) : Cx w hb n A env ls (σ ++ [ob]) (ad ++ [a]) s' := by
  have c' := c.skip hI e hd k
  have car : Car s.heap s'.heap ad (ad ++ [a]) [I, tb] := by
    have c0 := Car.skip (ad := ad) k c.inv.tab e hd
    refine ⟨c0.keep, c0.sub, fun i b q => ?_, fun b hm => ?_⟩
    · rw [List.getElem?_append_left (List.getElem?_eq_some_iff.mp q).1]; exact q
    · rcases List.mem_append.mp hm with q | q
      · exact .inl q
      · replace q := (List.mem_singleton.mp q).symm; subst q; exact .inr ha
  have nin : a ∉ ad := fun hm => by
    obtain ⟨_, _, _, q, _⟩ := c.st.own.seqs hm
    (first | exact nS ha q | exact nS q ha | exact nD ha q | exact nD q ha | cases sE ha q | (rw [ha] at q; cases q))
  refine ⟨c'.rm, c'.inv, ?_⟩
  exact {
    nm := fun y d q => by
      obtain ⟨v, z, r⟩ := c.st.nm y d q
      refine ⟨v, ?_, r.car car⟩
      rcases z with ⟨p1, m, p2, p3⟩ | ⟨p1, cl, p2, p3⟩
      · refine .inl ⟨p1, m, k.ns p2 fun q' => ?_, p3⟩
        replace q' := List.mem_singleton.mp q'
        obtain ⟨ob, _, _, eb, hd', _⟩ := p2
        (first | exact nSg q' e eb | cases sEg q' e eb | (rw [q', e] at eb; cases eb)); (first | exact nS hd hd' | exact nS hd' hd | exact nD hd hd' | exact nD hd' hd | cases sE hd hd' | (rw [hd] at hd'; cases hd'))
      · refine .inr ⟨p1, cl, p2, k.cell p3 fun q' => ?_⟩
        replace q' := List.mem_singleton.mp q'
        obtain ⟨ob, eb, hd'⟩ := p3
        (first | exact nSg q' e eb | cases sEg q' e eb | (rw [q', e] at eb; cases eb)); (first | exact nS hd hd' | exact nS hd' hd | exact nD hd hd' | exact nD hd' hd | cases sE hd hd' | (rw [hd] at hd'; cases hd'))
    ns := c'.st.ns
    loc := c'.st.loc
    locad := fun hm => by
      rcases List.mem_append.mp hm with q | q
      · exact c'.st.locad q
      · replace q := List.mem_singleton.mp q
        obtain ⟨m, o, _, _, eb, _⟩ := c.st.ns
        (first | exact nSg q ha eb | cases sEg q ha eb | (rw [q, ha] at eb; cases eb))
    cel := fun nm cl hm => by
      obtain ⟨p1, p2, p3, p4⟩ := c'.st.cel nm cl hm
      refine ⟨fun hm' => ?_, p2, p3, p4⟩
      rcases List.mem_append.mp hm' with q | q
      · exact p1 q
      · replace q := List.mem_singleton.mp q
        obtain ⟨_, _, _, v, o, eb, _⟩ := c.st.cel nm cl hm
        (first | exact nSg q ha eb | cases sEg q ha eb | (rw [q, ha] at eb; cases eb))
    kind := c'.st.kind
    glo := c'.st.glo
    bui := c'.st.bui
    own := by
      refine ⟨by simp [c.st.own.len], List.nodup_append.mpr ⟨c.st.own.nd, by simp, fun b hb' b' hb'' q => by replace hb'' := (List.mem_singleton.mp hb'').symm; subst hb'' q; exact nin hb'⟩, fun b hm => ?_, fun i b o e1 e2 => ?_⟩
      · rcases List.mem_append.mp hm with q | q
        · exact c.st.own.new b q
        · replace q := (List.mem_singleton.mp q).symm; subst q; exact hba
      · by_cases hl : i < ad.length
        · rw [List.getElem?_append_left hl] at e1
          rw [List.getElem?_append_left (by rw [← c.st.own.len]; exact hl)] at e2
          refine (c.st.own.at' i b o e1 e2).car car fun ob' e' => ?_
          obtain ⟨ob2, vs2, m2, q1, q2⟩ := c.st.own.seqs (List.mem_of_getElem? e1)
          (first | exact nS e' q1 | exact nS q1 e' | exact nD e' q1 | exact nD q1 e' | cases sE e' q1 | (rw [e'] at q1; cases q1))
          refine ⟨ob', k.get b ob' (fun q => ?_) e' fun _ us q => (by (first | exact nS q2 q | exact nS q q2 | exact nD q2 q | exact nD q q2 | cases sE q2 q | (rw [q2] at q; cases q))), .refl _⟩
          replace q := List.mem_singleton.mp q
          (first | exact nSg q e e' | cases sEg q e e' | (rw [q, e] at e'; cases e')); (first | exact nS hd q2 | exact nS q2 hd | exact nD hd q2 | exact nD q2 hd | cases sE hd q2 | (rw [hd] at q2; cases q2))
        · have hlen := c.st.own.len
          have hi : i = ad.length := by
            have := (List.getElem?_eq_some_iff.mp e1).1
            simp at this; lia
          subst hi
          rw [List.getElem?_append_right (Nat.le_refl _)] at e1
          rw [hlen, List.getElem?_append_right (Nat.le_refl _)] at e2
          simp at e1 e2
          subst e1 e2
          exact r }

theorem nd_fields {h : Heap} {I : Addr} {o : Obj} {vs : Array Value} (e : h.get? I = some o) (hd : o.data = .fields vs) : (∀ o, h.get? I = some o → ∀ vs n, o.data ≠ .seq vs n) ∧ ∀ t, ¬ h.Ns I (accNs t) := by
  refine ⟨fun o' e' vs' n q => ?_, fun t q => ?_⟩
  · (first | exact nS e e' | exact nS e' e | exact nD e e' | exact nD e' e | cases sE e e' | (rw [e] at e'; cases e')); (first | exact nS hd q | exact nS q hd | exact nD hd q | exact nD q hd | cases sE hd q | (rw [hd] at q; cases q))
  · obtain ⟨o', _, _, e', hd', _⟩ := q; (first | exact nS e e' | exact nS e' e | exact nD e e' | exact nD e' e | cases sE e e' | (rw [e] at e'; cases e')); (first | exact nS hd hd' | exact nS hd' hd | exact nD hd hd' | exact nD hd' hd | cases sE hd hd' | (rw [hd] at hd'; cases hd'))
theorem nd_ns {h : Heap} {C : Addr} {m : Str → Option Value} (hn : h.Ns C m) (hi : m "_initial_size" = none) : (∀ o, h.get? C = some o → ∀ vs n, o.data ≠ .seq vs n) ∧ ∀ t, ¬ h.Ns C (accNs t) := by
  refine ⟨fun o' e' vs' n q => ?_, fun t q => ?_⟩
  · obtain ⟨o'', _, _, e'', d'', _⟩ := hn; (first | exact nS e' e'' | exact nS e'' e' | exact nD e' e'' | exact nD e'' e' | cases sE e' e'' | (rw [e'] at e''; cases e'')); (first | exact nS d'' q | exact nS q d'' | exact nD d'' q | exact nD q d'' | cases sE d'' q | (rw [d''] at q; cases q))
  · rw [← ns_unique q hn] at hi; simp [accNs] at hi

-- the block of a comprehension, from the iterator on
theorem comp_block {elt iter : PySem.Expr} {x : Str} {px pos : Pos} {ifs : List PySem.Expr} {scope : Scope} {cl : List (Str × Addr)} {s₂ : Shared} {I : Addr} {fp : List Addr} {xs : List D} {P : Nat → Value → Prop} {S : Nat → Heap → Prop}
    (p : D → Bool) (g : D → D) {RR : Value → Addr → Result → Shared → Prop} (c : Cx w hb n A env ls σ ad s) (k2 : Keeps s s₂) (hnew : s.heap.get? I = none) (W : Wk w hb A ad I fp xs P S s₂.heap)
    (hf : Free env scope cl x ls fls) (hclos : closureFor scope env = pure cl) (hkind : scope.kind = .function) (hx : scope.names.lookup x = some .local) (hcell : ∀ y ∈ scope.names, y.2 ≠ .cell) (hxi : x ≠ "_initial_size")
    (ht : ∀ τ C e, e ∈ xs → TrI w hb n (compEnvC scope cl C env) ((x, e) :: fls) (σ ++ τ) ifs (p e))
    (he : ∀ τ C e, e ∈ xs → p e = true → Ev w hb n (compEnvC scope cl C env) ((x, e) :: fls) (σ ++ τ) elt (g e)) (hsz : xs.length ≤ 16777216) (hpl : ∀ e ∈ xs, p e = true → (g e).pl = true)
    (hRR : ∀ Dd C s' m vs, Keeps s s' → s.heap.get? Dd = none → s.heap.get? C = none → Dd ≠ C → s'.heap.Ns C m → m "_initial_size" = none → s'.heap.PlainList Dd vs → RdAll s'.heap ad vs.toList ((xs.filter p).map g) → Dd ∉ ad → RR (.ref Dd) C (.ok .next) s') :
    wpAny (model pg w) A (newList []) (fun acc s₃ => wpAny (model pg w) A (newFunctionEnv scope env.globals cl [] env.qual none .none (some env)) (fun cenv s₄ =>
      codeAny (model pg w) A (.compStart (.ListComp elt [⟨.Name x px, iter, ifs, 0⟩] scope pos) 0 (.ref I) acc { cenv with scope := relabel scope env }) (RR acc cenv.locals) s₄) E s₃) E s₂ := by
  have c2 := c.keeps k2
  have hcl := closure_in hclos
  refine wpAny_newObj_type (wpAny_newFunctionEnv hcell (by intro y hy; simp at hy) (fun h₁ hns₁ hsb₁ => ?_) hkind)
  dsimp only at hns₁ hsb₁ ⊢
  generalize hH2 : s₂.heap.push { cls := .type "list", dict := none, data := .seq ([] : List Value).toArray } = H2 at hns₁ hsb₁ ⊢
  have hC : H2.objs.size = s₂.heap.objs.size + 1 := by rw [← hH2, Heap.size_push]
  have hDC : s₂.heap.objs.size ≠ H2.objs.size := by rw [hC]; exact Nat.ne_of_lt (Nat.lt_succ_self _)
  have below : ∀ b, b < s₂.heap.objs.size → b ≠ H2.objs.size ∧ b ≠ s₂.heap.objs.size := fun b hb => ⟨by rw [hC]; exact Nat.ne_of_lt (Nat.lt_succ_of_lt hb), Nat.ne_of_lt hb⟩
  have old : ∀ b o, s₂.heap.get? b = some o → h₁.get? b = some o := fun b o e => hsb₁.extBut b o (below b (Heap.lt_size e)).1 (Heap.get?_push_of_some _ (hH2 ▸ Heap.get?_push_of_some _ e))
  have hacc : h₁.PlainList s₂.heap.objs.size #[] := ⟨_, hsb₁.extBut _ _ hDC (Heap.get?_push_of_some _ (hH2 ▸ Heap.get?_push_size _ rfl))⟩
  have fresh : ∀ a, s₂.heap.objs.size ≤ a → s₂.heap.get? a = none := fun a ha => by
    cases e : s₂.heap.get? a with
    | none => rfl
    | some o' => exact absurd (Heap.lt_size e) (Nat.not_lt.mpr ha)
  have freshs : ∀ a, s₂.heap.get? a = none → s.heap.get? a = none := fun a ha => k2.heap.fresh c.inv.tab ha
  have k02 : KeepsX [I] s₂ { s₂ with heap := h₁, toks := s₂.toks + ([] : List (Str × Value)).length } := KeepsX.of (kOf old)
  generalize hCe : H2.objs.size = C at *
  generalize hDe : s₂.heap.objs.size = Dd at *
  have fD : s₂.heap.get? Dd = none := fresh Dd (Nat.le_refl _)
  have fC : s₂.heap.get? C = none := fresh C (by rw [hC]; exact Nat.le_succ _)
  have hI2 : ∃ o vs, s₂.heap.get? I = some o ∧ o.data = .fields vs := W.obj 0 _ W.st
  have hID : I ≠ Dd := fun q => by obtain ⟨o, _, e, _⟩ := hI2; (first | exact nSg q fD e | cases sEg q fD e | (rw [q, fD] at e; cases e))
  have hIC : I ≠ C := fun q => by obtain ⟨o, _, e, _⟩ := hI2; (first | exact nSg q fC e | cases sEg q fC e | (rw [q, fC] at e; cases e))
  have hbD : hb.get? Dd = none := c2.inv.newer (by rw [hDe]; exact Nat.le_refl _)
  have hbC : hb.get? C = none := c2.inv.newer (by rw [hDe, hC]; exact Nat.le_succ _)
  have adlt : ∀ a ∈ ad, a < Dd := fun a ha => hDe ▸ c2.st.own.old ha
  have hDad : Dd ∉ ad := fun hm => Nat.lt_irrefl _ (adlt Dd hm)
  have hCad : C ∉ ad := fun hm => by have := adlt C hm; rw [hC] at this; exact Nat.lt_irrefl _ (Nat.lt_of_succ_lt this)
  have hCc : ∀ nm a, (nm, a) ∈ env.cells → a ≠ C := fun nm a hm q => by
    obtain ⟨_, _, _, v, o, e, _⟩ := c2.st.cel nm a hm
    (first | exact nSg q fC e | cases sEg q fC e | (rw [q, fC] at e; cases e))
  have fpD : ∀ b ∈ fp, b ≠ Dd ∧ b ≠ C := fun b hb' => by have := W.old b hb'; rw [hDe] at this; exact ⟨(below b this).2, (below b this).1⟩
  -- what is carried from s₂ on
  have hfpI : ∀ b ∈ fp, b ≠ tb := fun b hb' => (W.seqs b hb').1
  have cxAt : ∀ (s' : Shared) (vs : Array Value) (ds : List D), KeepsX [I] s₂ s' → s'.heap.PlainList Dd vs → RdAll s'.heap (ad ++ [Dd]) vs.toList ds →
      Cx w hb n A env ls (σ ++ [.lst ds]) (ad ++ [Dd]) s' := fun s' vs ds k hp hr => by
    obtain ⟨o, us, e, d⟩ := hI2
    obtain ⟨m, ho⟩ := hp
    exact c2.own_new W.new e d k fD hbD (.lst ho rfl rfl rfl hr)
  have carAt : ∀ (s' : Shared), KeepsX [I] s₂ s' → Car s₂.heap s'.heap ad ad [I, tb] := fun s' k => by
    obtain ⟨o, vs, e, d⟩ := hI2
    exact Car.skip k c2.inv.tab e d
  have hDtb : Dd ≠ tb := fun q => by (first | exact nSg q c.inv.bs.tbl hbD | cases sEg q c.inv.bs.tbl hbD | (rw [q, c.inv.bs.tbl] at hbD; cases hbD))
  have hCtb : C ≠ tb := fun q => by (first | exact nSg q c.inv.bs.tbl hbC | cases sEg q c.inv.bs.tbl hbC | (rw [q, c.inv.bs.tbl] at hbC; cases hbC))
  have h173 : ∀ b, b = tb ∨ b = 173 → b ≠ C ∧ b ≠ Dd := fun b q => by
    have : ∃ o, hb.get? b = some o := by
      rcases q with rfl | rfl
      · exact ⟨_, c.inv.bs.tbl⟩
      · exact ⟨_, c.inv.bs.k 173 _ rfl⟩
    obtain ⟨o, e⟩ := this
    exact ⟨fun q => (by (first | exact nSg q hbC e | cases sEg q hbC e | (rw [q, hbC] at e; cases e))), fun q => (by (first | exact nSg q hbD e | cases sEg q hbD e | (rw [q, hbD] at e; cases e)))⟩
  have loop : ∀ s₃ : Shared, s₃ = { s₂ with heap := h₁, toks := s₂.toks + ([] : List (Str × Value)).length } →
      codeAny (model pg w) A (.compLoop (.ListComp elt [⟨.Name x px, iter, ifs, 0⟩] scope pos) 0 (.ref I) (.ref Dd) (compEnvC scope cl C env)) (RR (.ref Dd) C) s₃ := by
    rintro s₃ rfl
    refine hideI (I := fun k s' => ∃ i vs m, i ≤ xs.length ∧ k = xs.length + 1 - i ∧ S i s'.heap ∧ s'.heap.PlainList Dd vs ∧ s'.heap.Ns C m ∧ m "_initial_size" = none ∧
      RdAll s'.heap (ad ++ [Dd]) vs.toList (((xs.take i).filter p).map g) ∧ vs.size ≤ i ∧ KeepsX [I] s₂ s') fun J hJ => ?_
    refine codeAny_compLoop_tests J ?_ (xs.length + 1) ((hJ _ _).mpr
      ⟨0, #[], _, Nat.zero_le _, rfl, W.W.frame _ _ _ W.st (fun b _ o e => old b o e), hacc, hns₁, rfl, by simpa using RdAll.nil, Nat.le_refl _, k02⟩)
    intro k s₄ hk
    refine Classical.byContradiction fun hN => ?_
    obtain ⟨i, vs, m, hil, hk0, hS, hpl4, hnC, hmi, hrd, hvs, keep⟩ := (hJ _ _).mp hk
    obtain ⟨oI, vsI, eI, dI⟩ := W.obj i _ hS
    refine hN ?_
    subst hk0
    have inv4 : Inv w hb s₄ := keep.inv c2.inv (by simpa using W.new)
    by_cases hlt : i < xs.length
    · refine W.W.item i _ _ _ hlt hS fun v h5 tk5 hP hS5 keep5 => ?_
      have k5 : ∀ b o, b ≠ I → s₄.heap.get? b = some o → h5.get? b = some o := fun b o hb' e => keep5 b o (by simpa using hb') e
      have kI : KeepsX [I] s₄ { s₄ with heap := h5, toks := tk5 } := keepsI c.inv.bs W.new keep5
      have nC5 : h5.Ns C m := hnC.at' fun o e => k5 C o (Ne.symm hIC) e
      refine wpAny_assign_Name (wpAny_storeName_local (env := compEnvC scope cl C env) (lookup_relabel_local hx) nC5 (fun h6 nC6 sb6 => ?_) (by simp [compEnvC, relabel, hkind]))
      have k6 : KeepsX [I] s₂ { s₄ with heap := h6, toks := tk5 + 1 } := by
        refine ⟨fun b o hb' e q => sb6.extBut b o (fun q' => by rw [show b = C from q', fC] at e; cases e) (kI.get b o hb' (keep.get b o hb' e q) q), fun t => ?_, keep.bare, keep.os⟩
        refine tabKeeps (fun b o q e => sb6.extBut b o (h173 b q).1 e) (kI.tab (keep.tab t))
      have hplD6 : h6.PlainList Dd vs := (hpl4.at fun o e => k5 Dd o (Ne.symm hID) e).at fun o e => sb6.extBut Dd o hDC e
      have car46 : Car s₄.heap h6 (ad ++ [Dd]) (ad ++ [Dd]) [I, C] := by
        refine ⟨fun b o hb' e' => ⟨o, ?_, .refl o⟩, fun b hm => .inr ?_, fun _ _ e => e, fun _ e => .inl e⟩
        · (first | replace hb' := nmem2 hb' | simp only [List.mem_cons, List.not_mem_nil, or_false, not_or] at hb')
          exact sb6.extBut b o hb'.2 (k5 b o hb'.1 e')
        · (first | replace hm := mem2 hm | replace hm := mem3 hm | simp only [List.mem_cons, List.not_mem_nil, or_false] at hm)
          rcases hm with q | q
          · exact q ▸ nd_fields eI dI
          · exact q ▸ nd_ns hnC hmi
      have hrd6 : RdAll h6 (ad ++ [Dd]) vs.toList (((xs.take i).filter p).map g) := hrd.car car46
      have cx6 := cxAt { s₄ with heap := h6, toks := tk5 + 1 } vs _ k6 hplD6 hrd6
      obtain ⟨e, hxe, re⟩ := W.val h6 _ (carAt _ k6) i v hP
      have re' : Rd h6 (ad ++ [Dd]) v e := by
        have z := W.valNew h6 Dd fD (carAt _ k6) i v hP
        obtain ⟨e', q1, q2⟩ := z
        (first | exact nS hxe q1 | exact nS q1 hxe | exact nD hxe q1 | exact nD q1 hxe | cases sE hxe q1 | (rw [hxe] at q1; cases q1)); exact q2
      have hmem : e ∈ xs := List.mem_of_getElem? hxe
      have hCad' : C ∉ ad ++ [Dd] := fun hm => by
        rcases List.mem_append.mp hm with q | q
        · exact hCad q
        · replace q := List.mem_singleton.mp q; exact hDC q.symm
      have ce := comp_st (s := { s₄ with heap := h6, toks := tk5 + 1 }) cx6 hf hcl hkind hx hbC hCad' hCc nC6 (by simp) re'
      have hS6 : S (i + 1) h6 := W.W.frame _ _ _ hS5 fun b hb' o e' => sb6.extBut b o (fpD b hb').2 e'
      have hmi6 : (fun y => if y = x then some v else m y) ("_initial_size" : Str) = none := by simp only [hxi.symm, if_false]; exact hmi
      refine (ht _ C e hmem).use ce fun s7 k7 ce7 => ?_
      have kh7 := kHeap k7
      have hS7 : S (i + 1) s7.heap := W.W.frame _ _ _ hS6 fun b hb' o e' => kh7.other e' (hfpI b hb')
      have hpl7 : s7.heap.PlainList Dd vs := hplD6.at fun o e' => kh7.other e' hDtb
      have hrd7 := hrd6.keeps kh7
      have keep7 : KeepsX [I] s₂ s7 := k6.trans (.of k7)
      cases hp : p e with
      | false =>
        simp only [Bool.false_eq_true, if_false]
        refine ⟨xs.length + 1 - (i + 1), by lia, (hJ _ _).mpr ⟨i + 1, vs, _, by lia, rfl, hS7, hpl7, kh7.ns nC6, hmi6, ?_, by lia, keep7⟩⟩
        rw [take_filter_map hxe, hp]; simpa using hrd7
      | true =>
        simp only [if_true]
        refine (he _ C e hmem hp).use ce7 fun y s8 k8 ce8 ry => ?_
        have kh8 := kHeap k8
        have hpl8 := hpl7.at fun o e' => kh8.other e' hDtb
        refine wpAny_list_append_plain (hsz := sz (by lia)) hpl8 fun h9 hpl9 sb9 => ?_
        refine ⟨xs.length + 1 - (i + 1), by lia, (hJ _ _).mpr ⟨i + 1, vs.push y, _, by lia, rfl, ?_, hpl9, (kh8.ns (kh7.ns nC6)).sameBut sb9 (Ne.symm hDC), hmi6, ?_, by rw [Array.size_push]; lia, ?_⟩⟩
        · exact W.W.frame _ _ _ hS7 fun b hb' o e' => sb9.extBut b o (fpD b hb').1 (kh8.other e' (hfpI b hb'))
        · rw [take_filter_map hxe, hp, Array.toList_push]
          have car89 : Car s8.heap h9 (ad ++ [Dd]) (ad ++ [Dd]) [Dd] := ⟨fun b o hb' e' => ⟨o, sb9.extBut b o (by simpa using hb') e', .refl o⟩, fun b hm => .inl (by replace hm := (List.mem_singleton.mp hm).symm; subst hm; simp), fun _ _ e => e, fun _ e => .inl e⟩
          exact ((hrd7.keeps kh8).append (.cons ry .nil)).car car89
        · have k28 : KeepsX [I] s₂ s8 := keep7.trans (.of k8)
          refine ⟨fun b o hb' e' q => sb9.extBut b o (fun q' => by (first | exact nSg q' fD e' | cases sEg q' fD e' | (rw [q', fD] at e'; cases e'))) (k28.get b o hb' e' q), fun t => ?_, k28.bare, k28.os⟩
          exact tabKeeps (fun b o q e => sb9.extBut b o (h173 b q).2 e) (k28.tab t)
    · have hin : i = xs.length := by lia
      subst hin
      refine W.W.done _ _ _ hS fun h5 tk5 keep5 => ?_
      have k5 : ∀ b o, b ≠ I → s₄.heap.get? b = some o → h5.get? b = some o := fun b o hb' e => keep5 b o (by simpa using hb') e
      have kI : KeepsX [I] s₄ { s₄ with heap := h5, toks := tk5 } := keepsI c.inv.bs W.new keep5
      rw [List.take_length] at hrd
      have hrd' := hrd.shrink (ad := ad) (fun b hm => List.mem_append_left _ hm) (plAll_iff.mpr fun d hm => by
        obtain ⟨e, he1, rfl⟩ := List.mem_map.mp hm
        obtain ⟨q1, q2⟩ := List.mem_filter.mp he1
        exact hpl e q1 q2)
      exact hRR Dd C _ m vs (((KeepsX.of k2).trans (keep.trans kI)).drop hnew).nil (freshs Dd fD) (freshs C fC) hDC (hnC.at' fun o e => k5 C o (Ne.symm hIC) e) hmi (hpl4.at fun o e => k5 Dd o (Ne.symm hID) e) (hrd'.car (Car.skip kI inv4.tab eI dI)) hDad
  exact codeAny_compStart_list (loop _ rfl) (W.W.self 0 _ _ _ (W.W.frame _ _ _ W.st (fun b _ o e => old b o e)) (loop _ rfl))

theorem rd_plain {h h' : Heap} {C Dd : Addr} {m : Str → Option Value} {vs : Array Value} {ds : List D} (hn : h.Ns C m) (hm : m "_initial_size" = none) (hpl : h.PlainList Dd vs) (hDC : Dd ≠ C) (hr : RdAll h ad vs.toList ds) (hD : Dd ∉ ad) (hs : Heap.SameBut C h h') :
    Rd h' ad (.ref Dd) (.lst ds) := by
  obtain ⟨k, ho⟩ := hpl
  refine .lst (hs.extBut _ _ hDC ho) rfl rfl rfl hD (hr.car (ex := [C]) ⟨fun b o hb' e => ⟨o, hs.extBut b o (by simpa using hb') e, .refl o⟩, fun b hm' => .inr ?_, fun _ _ e => e, fun _ e => .inl e⟩)
  replace hm' := (List.mem_singleton.mp hm').symm; subst hm'
  exact nd_ns hn hm

theorem Cs.skipG {I : Addr} {h' : Heap} {tk : Nat} (c : Cs w hb n A env ls σ ad s) (hI : hb.get? I = none) (nd : (∀ o, s.heap.get? I = some o → ∀ vs n, o.data ≠ .seq vs n) ∧ ∀ t, ¬ s.heap.Ns I (accNs t))
    (k : ∀ b o, b ≠ I → s.heap.get? b = some o → h'.get? b = some o) (hL : I ≠ env.locals) (hc : ∀ nm a, (nm, a) ∈ env.cells → a ≠ I) (had : I ∉ ad)
    (hfr : ∀ outer, A.frames = some outer → ∀ env' ∈ outer, env'.frame ≠ some I) : Cs w hb n A env ls σ ad { s with heap := h', toks := tk } := by
  have car : Car s.heap h' ad ad [I] := ⟨fun b o hb' e => ⟨o, k b o (by simpa using hb') e, .refl o⟩, fun b hm => .inr (by replace hm := (List.mem_singleton.mp hm).symm; subst hm; exact nd), fun _ _ e => e, fun _ e => .inl e⟩
  have base : ∀ b o, hb.get? b = some o → b ≠ I := fun b o q1 q2 => by subst q2; (first | exact nS hI q1 | exact nS q1 hI | exact nD hI q1 | exact nD q1 hI | cases sE hI q1 | (rw [hI] at q1; cases q1))
  have kns : ∀ m, s.heap.Ns env.locals m → h'.Ns env.locals m := fun m hn => hn.at' fun o q => k _ o hL.symm q
  have kc : ∀ nm b v, (nm, b) ∈ env.cells → s.heap.IsCell b v → h'.IsCell b v := fun nm b v hm hn => let ⟨ob, eb, hd'⟩ := hn; ⟨ob, k b ob (hc nm b hm) eb, hd'⟩
  refine ⟨⟨⟨c.cx.rm.handled, c.cx.rm.depth, c.cx.rm.units, ?_⟩, ⟨c.cx.inv.bs, fun b ob hb' q => k b ob (base b ob q) (c.cx.inv.keep b ob hb' q), ?_, c.cx.inv.bare⟩, ?_⟩, c.top, ?_, c.fn.kin, c.fn.cel, c.fn.apart, c.fn.frame⟩
  · obtain ⟨outer, e1, e2⟩ := c.cx.rm.frames
    refine ⟨outer, e1, fun env' he => ?_⟩
    obtain ⟨q, L, ob, h1, h2, h3, h4⟩ := e2 env' he
    exact ⟨q, L, ob, h1, h2, k L ob (fun q' => hfr outer e1 env' he (q' ▸ h1)) h3, h4⟩
  · obtain ⟨ps, a, b⟩ := c.cx.inv.tab
    have ht : tb ≠ I := base _ _ c.cx.inv.bs.tbl
    have hc : 173 ≠ I := base 173 _ (c.cx.inv.bs.k 173 _ rfl)
    refine ⟨ps, ?_, ?_⟩
    · obtain ⟨ob, us, file, tf, flags, tg, inF, text, tt, op, ho, hd, h11, h2, h7, h9, h10, hop, hpd, htr, hne⟩ := a
      exact ⟨ob, us, file, tf, flags, tg, inF, text, tt, op, k _ _ hc ho, hd, h11, h2, h7, h9, h10, k _ _ ht hop, hpd, htr, hne⟩
    · obtain ⟨⟨ob, us, a1, r⟩, t⟩ := b
      exact ⟨⟨ob, us, k _ _ hc a1, r⟩, k _ _ ht t⟩
  · exact {
      nm := fun y d q => by
        obtain ⟨v, z, r⟩ := c.cx.st.nm y d q
        refine ⟨v, ?_, r.car car⟩
        rcases z with ⟨a, m, b, e'⟩ | ⟨a, cl, b, e'⟩
        · exact .inl ⟨a, m, kns _ b, e'⟩
        · exact .inr ⟨a, cl, b, kc _ _ _ (mem_of_lookup b) e'⟩
      ns := let ⟨m, hn⟩ := c.cx.st.ns; ⟨m, kns _ hn⟩
      loc := c.cx.st.loc
      locad := c.cx.st.locad
      cel := fun nm cl hm => let ⟨a, b, d', vv, z⟩ := c.cx.st.cel nm cl hm; ⟨a, b, d', vv, kc _ _ _ hm z⟩
      kind := c.cx.st.kind
      glo := c.cx.st.glo
      bui := c.cx.st.bui
      own := ⟨c.cx.st.own.len, c.cx.st.own.nd, c.cx.st.own.new, fun i a ob e1 e2 => (c.cx.st.own.at' i a ob e1 e2).car car fun ob' e' => ⟨ob', k a ob' (fun q => had (q ▸ List.mem_of_getElem? e1)) e', .refl _⟩⟩ }
  · obtain ⟨m, hn, hi⟩ := c.fn.nsf
    exact ⟨m, kns _ hn, hi⟩

-- the cells that a comprehension is given
noncomputable def closOf (scope : Scope) (env : Env) : List (Str × Addr) :=
  scope.names.foldl (fun cs x => if x.2 == NameKind.free then (match env.cells.lookup x.1 with | some a => (x.1, a) :: cs | none => cs) else cs) []
theorem closOf_ok {scope : Scope} (h : (scope.names.all fun x => !(x.2 == NameKind.free) || (env.cells.lookup x.1).isSome) = true) : closureFor scope env = pure (closOf scope env) := by
  have gen : ∀ (names : List (Str × NameKind)) (cs : List (Str × Addr)), (names.all fun x => !(x.2 == NameKind.free) || (env.cells.lookup x.1).isSome) = true →
      (forIn names cs fun (x : Str × NameKind) (r : List (Str × Addr)) => (if (x.2 == NameKind.free) = true then do let a ← cellOf env x.1; pure (ForInStep.yield ((x.1, a) :: r)) else pure (ForInStep.yield r)) : Sem (List (Str × Addr))) =
        pure (names.foldl (fun cs x => if x.2 == NameKind.free then (match env.cells.lookup x.1 with | some a => (x.1, a) :: cs | none => cs) else cs) cs) := by
    intro names
    induction names with
    | nil => intro cs _; rw [List.forIn_nil]; rfl
    | cons x names ih =>
      intro cs h
      simp only [List.all_cons, Bool.and_eq_true] at h
      rw [List.forIn_cons, List.foldl_cons]
      by_cases hk : (x.2 == NameKind.free) = true
      · rw [if_pos hk, if_pos hk]
        have hs : (env.cells.lookup x.1).isSome = true := by
          have := h.1; rw [hk] at this; simpa using this
        obtain ⟨a, hl⟩ := Option.isSome_iff_exists.mp hs
        unfold cellOf
        rw [hl]
        exact ih _ h.2
      · rw [if_neg hk, if_neg hk]
        exact ih _ h.2
  have := gen scope.names [] h
  unfold closureFor
  simp only [bind_pure]
  exact this

-- [elt for x in iter if ..]
theorem Ev.comp {elt iter : PySem.Expr} {x : Str} {px pos : Pos} {ifs : List PySem.Expr} {scope : Scope} {xs : List D} (p : D → Bool) (g : D → D)
    (hsi : Si w hb n env ls σ iter xs) (hf : Free env scope (closOf scope env) x ls fls)
    (ht : ∀ τ C e, e ∈ xs → TrI w hb n (compEnvC scope (closOf scope env) C env) ((x, e) :: fls) (σ ++ τ) ifs (p e))
    (he : ∀ τ C e, e ∈ xs → p e = true → Ev w hb n (compEnvC scope (closOf scope env) C env) ((x, e) :: fls) (σ ++ τ) elt (g e)) (hpl : ∀ e ∈ xs, p e = true → (g e).pl = true) (hsz : xs.length ≤ 16777216)
    (hfree : autoParam ((scope.names.all fun x => !(x.2 == NameKind.free) || (env.cells.lookup x.1).isSome) = true) Mine.auR) (hkind : autoParam (scope.kind = .function) Mine.auR) (hx : autoParam (scope.names.lookup x = some .local) Mine.auR) (hcell : autoParam (∀ y ∈ scope.names, y.2 ≠ .cell) Mine.auD) (hxi : autoParam (x ≠ "_initial_size") Mine.auD)
    (hnames : autoParam (∀ y ∈ scope.names, y.2 = .local → scope.names.lookup y.1 = some .local) Mine.auD) (hs : autoParam (∀ x, foldedSetIterable iter env x = pure x) Mine.auI) :
    Ev w hb n env ls σ (.ListComp elt [⟨.Name x px, iter, ifs, 0⟩] scope pos) (.lst ((xs.filter p).map g)) := fun A s ad c => by
  have hclos := closOf_ok hfree
  rw [eval_ListComp]
  refine wpAny_comprehension_free (use := Option.none) rfl hs hclos hkind hnames (hsi A s ad c _ _ fun I fp P S s2 k2 hnew W => ?_)
  refine comp_block (RR := fun acc C => compPost (model pg w) A (fun _ _ => False) Option.none _ acc C) p g c k2 hnew W hf hclos hkind hx hcell hxi ht he hsz hpl ?_
  intro Dd C s3 m vs k3 f1 f2 f3 hn hm hp hr hD
  refine ⟨m, hn, fun h' hs' => ⟨?_, rd_plain hn hm hp f3 hr hD hs'⟩⟩
  refine ⟨⟨fun b o e q => hs'.extBut b o (fun q' => by (first | exact nSg q' f2 e | cases sEg q' f2 e | (rw [q', f2] at e; cases e))) (k3.heap.get b o e q), fun t => tabKeeps (fun b o q e => hs'.extBut b o (fun q' => ?_) e) (k3.heap.tab t)⟩, k3.bare, k3.os⟩
  have : ∃ o, s.heap.get? b = some o := by
    rcases q with rfl | rfl
    · obtain ⟨o, _, e, _⟩ := c.inv.tab.fields; exact ⟨o, e⟩
    · exact ⟨_, c.kin 173 _ rfl⟩
  obtain ⟨o', e'⟩ := this
  (first | exact nSg q' f2 e' | cases sEg q' f2 e' | (rw [q', f2] at e'; cases e'))

-- x = [elt for ..] where the stores change places
theorem Ex.comp {elt iter : PySem.Expr} {x y : Str} {px py pos spos : Pos} {ifs : List PySem.Expr} {scope : Scope} {xs : List D} (p : D → Bool) (g : D → D)
    (hsi : Si w hb n env ls σ iter xs) (hf : Free env scope (closOf scope env) x ls fls)
    (ht : ∀ τ C e, e ∈ xs → TrI w hb n (compEnvC scope (closOf scope env) C env) ((x, e) :: fls) (σ ++ τ) ifs (p e))
    (he : ∀ τ C e, e ∈ xs → p e = true → Ev w hb n (compEnvC scope (closOf scope env) C env) ((x, e) :: fls) (σ ++ τ) elt (g e)) (hpl : ∀ e ∈ xs, p e = true → (g e).pl = true) (hsz : xs.length ≤ 16777216)
    (hsw : autoParam (swapsWith (.ListComp elt [⟨.Name x px, iter, ifs, 0⟩] scope pos) (some (.Name y py)) spos.line env = pure true) Mine.auR) (hy : autoParam (env.kindOf y = some .local) Mine.auR)
    (hfree : autoParam ((scope.names.all fun x => !(x.2 == NameKind.free) || (env.cells.lookup x.1).isSome) = true) Mine.auR) (hkind : autoParam (scope.kind = .function) Mine.auR) (hx : autoParam (scope.names.lookup x = some .local) Mine.auR) (hcell : autoParam (∀ y ∈ scope.names, y.2 ≠ .cell) Mine.auD) (hxi : autoParam (x ≠ "_initial_size") Mine.auD)
    (hnames : autoParam (∀ y ∈ scope.names, y.2 = .local → scope.names.lookup y.1 = some .local) Mine.auD) (hs : autoParam (∀ x, foldedSetIterable iter env x = pure x) Mine.auI) :
    Ex w hb n env ls σ (.Assign [.Name y py] (.ListComp elt [⟨.Name x px, iter, ifs, 0⟩] scope pos) spos) (.next ((y, .lst ((xs.filter p).map g)) :: ls)) := fun A s ad c => by
  have hclos := closOf_ok hfree
  rw [exec_Assign_Name_used _ _ _ _ hsw]
  refine wpAny_bind (wpAny_standAt (wpAny_bind ?_))
  show wpAny _ A (do let _ ← comprehension (.ListComp elt [⟨.Name x px, iter, ifs, 0⟩] scope pos) scope env _ (newList []) false (eval iter env) (some (PySem.assign (.Name y py) env))) _ _ s
  refine wpAny_bind (wpAny_mono (wpAny_comprehension_free (use := some (PySem.assign (.Name y py) env)) (Q := fun _ s' => KeepsF env s s' ∧ Cs w hb n A env ((y, .lst ((xs.filter p).map g)) :: ls) σ ad s') rfl hs hclos hkind hnames
    (hsi A s ad c.cx _ _ fun I fp P S s2 k2 hnew W => ?_)) (fun _ s' hq => wpAny_pure (wpAny_pure ⟨hq.1, rfl, hq.2⟩)) fun _ _ e => e)
  refine comp_block (RR := fun acc C => compPost (model pg w) A (fun _ _ => False) (some (PySem.assign (.Name y py) env)) _ acc C) p g c.cx k2 hnew W hf hclos hkind hx hcell hxi ht he hsz hpl ?_
  intro Dd C s3 m vs k3 f1 f2 f3 hn hm hp hr hD
  have c3 := c.keeps k3
  have hCl : C ≠ env.locals := by
    rintro rfl
    obtain ⟨m', o, _, _, e, _⟩ := c.cx.st.ns
    (first | exact nS f2 e | exact nS e f2 | exact nD f2 e | exact nD e f2 | cases sE f2 e | (rw [f2] at e; cases e))
  have hCfx : C ∉ fx env := fun hm' => by obtain ⟨_, _, ob, e1, _⟩ := c.fxcls hm'; (first | exact nS f2 e1 | exact nS e1 f2 | exact nD f2 e1 | exact nD e1 f2 | cases sE f2 e1 | (rw [f2] at e1; cases e1))
  have r3 : Rd s3.heap ad (.ref Dd) (.lst ((xs.filter p).map g)) := rd_plain hn hm hp f3 hr hD (Heap.SameBut.refl _ _)
  show wpAny _ A (PySem.assign (.Name y py) env (.ref Dd)) _ _ _
  refine assign_Name (store_ok c3 r3 (.inl hy) fun s4 k4 c4 => ?_)
  have hn4 : s4.heap.Ns C m := KeepsX.ns k4 hn hCfx
  refine ⟨m, hn4, fun h' hs' => ?_⟩
  -- C's own end is nothing to the frame
  have cC : Cs w hb n A env ((y, .lst ((xs.filter p).map g)) :: ls) σ ad { s4 with heap := h' } := by
    refine c4.skipG (tk := s4.toks) ?_ (nd_ns hn4 hm) (fun b o hb' e => hs'.extBut b o hb' e) hCl (fun nm a hm' q => ?_) (fun hm' => ?_) fun outer ho env' he q => ?_
    · obtain ⟨o, _, _, e, _⟩ := hn
      cases q : hb.get? C with
      | none => rfl
      | some ob =>
        by_cases ht : C = tb
        · subst ht; obtain ⟨ps, _, _, t⟩ := c.cx.inv.tab; (first | exact nS f2 t | exact nS t f2 | exact nD f2 t | exact nD t f2 | cases sE f2 t | (rw [f2] at t; cases t))
        · have := c.cx.inv.keep C ob ht q; (first | exact nS f2 this | exact nS this f2 | exact nD f2 this | exact nD this f2 | cases sE f2 this | (rw [f2] at this; cases this))
    · obtain ⟨_, _, _, v', o, e, _⟩ := c.cx.st.cel nm a hm'
      (first | exact nSg q f2 e | cases sEg q f2 e | (rw [q, f2] at e; cases e))
    · obtain ⟨i, hi⟩ := List.mem_iff_getElem?.mp hm'
      have hl : i < σ.length := by rw [← c.cx.st.own.len]; exact (List.getElem?_eq_some_iff.mp hi).1
      have z := c.cx.st.own.at' i C _ hi (List.getElem?_eq_getElem hl)
      generalize σ[i] = ob at z
      cases z with
      | lst g1 => (first | exact nS f2 g1 | exact nS g1 f2 | exact nD f2 g1 | exact nD g1 f2 | cases sE f2 g1 | (rw [f2] at g1; cases g1))
      | acc g1 => obtain ⟨_, _, _, _, _, g1, _⟩ := g1; (first | exact nS f2 g1 | exact nS g1 f2 | exact nD f2 g1 | exact nD g1 f2 | cases sE f2 g1 | (rw [f2] at g1; cases g1))
    · obtain ⟨outer', e1, e2⟩ := c.cx.rm.frames
      (first | exact nS ho e1 | exact nS e1 ho | exact nD ho e1 | exact nD e1 ho | cases sE ho e1 | (rw [ho] at e1; cases e1))
      obtain ⟨_, L, ob, h1, h2, h3, h4⟩ := e2 env' he
      (first | exact nS q h1 | exact nS h1 q | exact nD q h1 | exact nD h1 q | cases sE q h1 | (rw [q] at h1; cases h1))
      (first | exact nS f2 h3 | exact nS h3 f2 | exact nD f2 h3 | exact nD h3 f2 | cases sE f2 h3 | (rw [f2] at h3; cases h3))
  refine ⟨?_, cC⟩
  refine ⟨fun b o hb' e q => hs'.extBut b o (fun q' => by (first | exact nSg q' f2 e | cases sEg q' f2 e | (rw [q', f2] at e; cases e))) (k4.get b o hb' (k3.heap.get b o e q) q), fun t => tabKeeps (fun b o q e => hs'.extBut b o (fun q' => ?_) e) (k4.tab (k3.heap.tab t)), fun t => k4.bare (k3.bare t), k4.os.trans k3.os⟩
  have : ∃ o, s.heap.get? b = some o := by
    rcases q with rfl | rfl
    · obtain ⟨o, _, e, _⟩ := c.cx.inv.tab.fields; exact ⟨o, e⟩
    · exact ⟨_, c.cx.kin 173 _ rfl⟩
  obtain ⟨o', e'⟩ := this
  (first | exact nSg q' f2 e' | cases sEg q' f2 e' | (rw [q', f2] at e'; cases e'))
end
end Mine
end

section
open PySem PySem.W PySem.Calls PyProof.Rows
set_option Elab.async false
set_option tactic.hygienic false
set_option linter.unusedVariables false
namespace Mine
section
variable {w : World} {hb : Heap} {n : Nat} {A : Around} {env : Env} {ls ls' fls : List (Str × D)} {σ : List Ob} {ad : List Addr} {s s' : Shared} {E : Value → Shared → Prop}

/-! stars -/
theorem star_ok {d : D} {xs : List D} {v : Value} {Q : List Value → Shared → Prop} (hd : IsSeq σ d xs) (hs : xs.length ≤ 16777216) (c : Cx w hb n A env ls σ ad s) (r : Rd s.heap ad v d)
    (h : ∀ vs s', Keeps s s' → Cx w hb n A env ls σ ad s' → RdAll s'.heap ad vs xs → Q vs s') : StarOf (model pg w) A E v Q s := by
  obtain ⟨T, a, ob, vs, m, rfl, e1, e2, e4, e5, hT⟩ : ∃ T a ob vs m, v = .ref a ∧ s.heap.get? a = some ob ∧ ob.cls = .type T ∧ ob.data = .seq vs m ∧ RdAll s.heap ad vs.toList xs ∧ (T = "list" ∨ T = "tuple") := by
    rcases hd with rfl | rfl | hk
    · obtain ⟨a, ob, vs, m, q, e1, e2, e3, e4, e5⟩ := r.isL (σ := σ) (.inl rfl) c.st.own
      exact ⟨"list", a, ob, vs, m, q, e1, e2, e4, e5, .inl rfl⟩
    · obtain ⟨a, ob, vs, m, q, e1, e2, e3, e4, e5⟩ := r.isT
      exact ⟨"tuple", a, ob, vs, m, q, e1, e2, e4, e5, .inr rfl⟩
    · obtain ⟨a, ob, vs, m, q, e1, e2, e3, e4, e5⟩ := r.isL (.inr hk) c.st.own
      exact ⟨"list", a, ob, vs, m, q, e1, e2, e4, e5, .inl rfl⟩
  have l1 := e5.length
  rw [Array.length_toList] at l1
  have hTy : s.TypeIs (.ref a) T := ⟨ob, e1, e2⟩
  unfold StarOf notIterableAtAll
  refine wpAny_bind ?_
  have fin : wpAny (model pg w) A (collect (.ref a)) Q E s := wpAny_collect_seq a hT e1 e2 e4 (fun h' k => h _ _ (kOfh k) (c.keeps (kOfh k)) (e5.keeps (.of k))) (sz (by lia))
  rcases hT with rfl | rfl
  · exact wpAny_specialOf hTy slot_list_iter.lookup (wpAny_pure ⟨rfl, fin⟩)
  · exact wpAny_specialOf hTy F.slot_tuple_iter.lookup (wpAny_pure ⟨rfl, fin⟩)
theorem EvA.lone {e : PySem.Expr} {p : Pos} {d : D} {xs : List D} (h : Ev w hb n env ls σ e d) (hd : IsSeq σ d xs) (hs : autoParam (xs.length ≤ 16777216) Mine.auL)
    (he : autoParam (starEach [.Starred e p] env = [(true, eval e env)]) Mine.auR) : EvA w hb n env ls σ [.Starred e p] xs := fun A s ad pos f c => by
  rw [he]
  exact ks_lone (h.use c fun v s1 k1 c1 r1 => star_ok hd hs c1 r1 fun vs s2 k2 c2 r2 => ⟨vs, rfl, kTrans k1 k2, r2⟩)
theorem EvS.star {e : PySem.Expr} {es : List PySem.Expr} {p : Pos} {d : D} {xs ds : List D} (h : Ev w hb n env ls σ e d) (hd : IsSeq σ d xs) (h2 : EvS w hb n env ls σ es ds) (hs : xs.length ≤ 16777216)
    (he : autoParam (starEach (.Starred e p :: es) env = (true, eval e env) :: starEach es env) Mine.auR) : EvS w hb n env ls σ (.Starred e p :: es) (xs ++ ds) := fun A s ad pos c => by
  refine items_star (h.use c fun v s1 k1 c1 r1 => star_ok hd hs c1 r1 fun vs s2 k2 c2 r2 => h2.use c2 fun us s3 k3 c3 r3 => ?_) he
  exact ⟨kTrans k1 (kTrans k2 k3), (r2.keeps (kHeap k3)).append r3⟩

/-! try without a raise -/
theorem Ex.tryN {body : List Stmt} {h0 : ExceptHandler} {hs : List ExceptHandler} {pos : Pos} {ls' : List (Str × D)} (h : Exs w hb n env ls σ body (.next ls')) : Ex w hb n env ls σ (.Try body (h0 :: hs) [] [] pos) (.next ls') := fun A s ad c => by
  refine wpAny_Try_except (wpAny_mono (h A s ad c) (fun f s1 q => ?_) fun _ _ f => f.elim)
  obtain ⟨k1, rfl, c1⟩ := q
  exact wpAny_execs_nil ⟨k1, rfl, c1⟩
theorem Ex.tryR {body : List Stmt} {h0 : ExceptHandler} {hs : List ExceptHandler} {pos : Pos} {d : D} (h : Exs w hb n env ls σ body (.ret d)) : Ex w hb n env ls σ (.Try body (h0 :: hs) [] [] pos) (.ret d) := fun A s ad c => by
  refine wpAny_Try_except (wpAny_mono (h A s ad c) (fun f s1 q => ?_) fun _ _ f => f.elim)
  obtain ⟨k1, v, rfl, r⟩ := q
  exact ⟨k1, v, rfl, r⟩

/-! x += e -/
noncomputable def Io (w : World) (hb : Heap) (n : Nat) (op : Operator) (σ : List Ob) (d1 d2 d : D) : Prop :=
  ∀ (A : Around) (s : Shared) (ad : List Addr) (a b : Value), Rm hb n A s.heap → Inv w hb s → Own hb σ ad s.heap → Rd s.heap ad a d1 → Rd s.heap ad b d2 →
    wpAny (model pg w) A (inplaceOp op a b) (fun v s' => Keeps s s' ∧ Rd s'.heap ad v d) (fun _ _ => False) s
theorem Ex.aug {x : Str} {p pos : Pos} {op : Operator} {e : PySem.Expr} {d1 d2 d : D} (h1 : ls.lookup x = some d1) (h2 : Ev w hb n env ls σ e d2) (ho : Io w hb n op σ d1 d2 d) (hx : Stor env x) :
    Ex w hb n env ls σ (.AugAssign (.Name x p) op e pos) (.next ((x, d) :: ls)) := fun A s ad c => by
  have hn : Ev w hb n env ls σ (.Name x p) d1 ∨ True := .inr trivial
  obtain ⟨v, z, r⟩ := c.cx.st.nm x d1 h1
  refine wpAny_AugAssign_Name ?_
  have rest : wpAny (model pg w) A (eval e env) (fun v' s₂ => wpAny (model pg w) A (inplaceOp op v v') (fun r s₃ => wpAny (model pg w) A (storeName env x r) (fun _ s' => KeepsF env s s' ∧ OkF w hb n A env σ ad .next s' (.next ((x, d) :: ls))) (fun _ _ => False) s₃) (fun _ _ => False) s₂) (fun _ _ => False) s := by
    refine h2.useS c fun v' s2 k2 c2 r2 => ?_
    refine wpAny_mono (ho A s2 ad v v' c2.cx.rm c2.cx.inv c2.cx.st.own (r.keeps (kHeap k2)) r2) (fun rv s3 q => ?_) fun _ _ f => f
    exact store_ok (c2.keeps q.1) q.2 hx fun s4 k4 c4 => ⟨kfTrans (kfOf (kTrans k2 q.1)) k4, rfl, c4⟩
  rcases z with ⟨a, m, b, e'⟩ | ⟨a, cl, b, e'⟩
  · exact wpAny_loadName_local c.cx.st.kind a b e' rest
  · rcases a with a | ⟨a, a'⟩
    · exact wpAny_loadName_cell c.cx.st.kind a b e' rest
    · exact wpAny_loadName_free c.cx.st.kind a b e' rest a'
theorem Io.addI {a b : Int} : Io w hb n .Add σ (.int a) (.int b) (.int (a + b)) := fun A s ad u v rm i o r1 r2 => by (first | obtain rfl := r1.toV | obtain ⟨t, rfl⟩ := r1.toS | obtain ⟨t, rfl⟩ := r1.toI | obtain rfl := r1.toB | cases r1); (first | obtain rfl := r2.toV | obtain ⟨t, rfl⟩ := r2.toS | obtain ⟨t, rfl⟩ := r2.toI | obtain rfl := r2.toB | cases r2); exact P.iadd_int ⟨kToks _ _, .int _ _⟩
theorem str_cat {a b : Str} {t u : Tok} {Q : Value → Shared → Prop} (h : a.length + b.length ≤ 16777216) (hq : ∀ t' k, Q (.str (a ++ b) t') { s with toks := k }) :
    (if a.length == 0 then Made.val (.str b u) else if b.length == 0 then Made.val (.str a t) else Made.str (a ++ b)).post Q s := by
  by_cases h1 : a.length = 0
  · have e : a ++ b = b := by
      rw [show a = Str.empty from Str.ext' (by unfold Str.length at h1; simpa [Str.empty] using h1), Str.empty_append]
    rw [if_pos (by simpa using h1)]; rw [e] at hq
    exact hq _ _
  · rw [if_neg (by simpa using h1)]
    by_cases h2 : b.length = 0
    · have e : a ++ b = a := by
        rw [show b = Str.empty from Str.ext' (by unfold Str.length at h2; simpa [Str.empty] using h2)]
        exact Str.append_empty _
      rw [if_pos (by simpa using h2)]; rw [e] at hq
      exact hq _ _
    · rw [if_neg (by simpa using h2)]
      exact ⟨by rw [Str.length_append]; exact h, hq _ _⟩
theorem Io.addS {a b : Str} (h : autoParam (a.length + b.length ≤ 16777216) Mine.auD) : Io w hb n .Add σ (.str a) (.str b) (.str (a ++ b)) := fun A s ad u v rm i o r1 r2 => by
  (first | obtain rfl := r1.toV | obtain ⟨t, rfl⟩ := r1.toS | obtain ⟨t, rfl⟩ := r1.toI | obtain rfl := r1.toB | cases r1); (first | obtain rfl := r2.toV | obtain ⟨t, rfl⟩ := r2.toS | obtain ⟨t, rfl⟩ := r2.toI | obtain rfl := r2.toB | cases r2)
  exact P.iadd_str (str_cat h fun t k => ⟨kToks _ _, .str _ _⟩)
end
end Mine
end

section
open PySem PySem.W PySem.Calls PyProof.Rows
set_option Elab.async false
set_option tactic.hygienic false
set_option linter.unusedVariables false
namespace Mine

theorem look_mem {α : Type} {x : Str} {v : α} : ∀ (l : List (Str × α)), (l.map (·.1)).Nodup → (x, v) ∈ l → l.lookup x = some v
  | [], _, h => by simp at h
  | (y, u) :: r, nd, h => by
    simp only [List.map_cons, List.nodup_cons] at nd
    rw [List.lookup_cons]
    rcases List.mem_cons.mp h with e | h
    · cases e; simp
    · have : (x == y) = false := by
        cases q : x == y with
        | false => rfl
        | true => exact absurd (by rw [← beq_iff_eq.mp q]; exact List.mem_map_of_mem (f := fun z : Str × α => z.1) h) nd.1
      rw [this]; exact look_mem r nd.2 h

-- how a def's arguments are bound
noncomputable def Bnd (w : World) (hb : Heap) (fd : FuncData) (args : List D) (names : List Str) (args' : List D) : Prop :=
  ∀ (A : Around) (s : Shared) (σ : List Ob) (ad : List Addr) (vals : List Value), Inv w hb s → Own hb σ ad s.heap → RdAll s.heap ad vals args →
    wpAny (model pg w) A (bindArgs fd ⟨vals, []⟩) (fun binds s' => ∃ vals', binds = names.zip vals' ∧ Keeps s s' ∧ RdAll s'.heap ad vals' args') (fun _ _ => False) s

section
variable {w : World} {hb : Heap} {n : Nat} {A : Around} {env : Env} {ls ls' fls : List (Str × D)} {σ : List Ob} {ad : List Addr} {s s' : Shared} {E : Value → Shared → Prop}

theorem Fs.of_defG {f : Addr} {fd : FuncData} {oc : Value} {od : Option Addr} {osl : Array (Option Value)} {body : List Stmt} {args args' : List D} {d : D} (names : List Str)
    (hk : (Kf w).lookup f = some ⟨oc, od, .func fd, osl⟩) (hbody : fd.body = .stmts body) (hbind : Bnd w hb fd args names args') (h : ∀ L, Exs w hb n (callEnvC fd L f) (names.zip args') σ body (.ret d))
    (hlen : autoParam (names.length = args'.length) Mine.auR) (hcd : autoParam (codeIn (Kf w) fd.code fd.qualname = true) Mine.auR)
    (hcl : autoParam (fd.closure = []) Mine.auR) (hg : autoParam (fd.globals = mainGlobals) Mine.auR) (hbu : autoParam (fd.builtins = builtinsNs) Mine.auR) (hkf : autoParam (fd.scope.kind = .function) Mine.auR)
    (hnd : autoParam (names.Nodup) Mine.auD) (hkin' : autoParam ((fd.scope.names.lookup ("_initial_size" : Str) == some .local) = false) Mine.auR)
    (hkind' : autoParam ((names.all fun y => fd.scope.names.lookup y == some .local || fd.scope.names.lookup y == some .cell) = true) Mine.auR)
    (hcells : autoParam (((cellsFrom 0 fd.scope.names []).map (·.1)).Nodup) Mine.auD) (hco : autoParam (fd.scope.isCoroutine = false) Mine.auR) (hgen : autoParam (fd.scope.isGenerator = false) Mine.auR) :
    Fs w hb (n + 1) (.ref f) args σ d := fun A s ad vals rm i o r => by
  have hkin : fd.scope.names.lookup ("_initial_size" : Str) ≠ some .local := fun q => by (first | exact nS q hkin' | exact nS hkin' q | exact nD q hkin' | exact nD hkin' q | cases sE q hkin' | (rw [q] at hkin'; cases hkin'))
  have hkind : ∀ n, ∀ x ∈ names, fd.scope.names.lookup x = some .local ∨ (fd.scope.names.lookup x = some .cell ∧ ((cellsFrom n fd.scope.names []).lookup x).isSome = true) := fun n x hx => by
    rcases Bool.or_eq_true_iff.mp (List.all_eq_true.mp hkind' x hx) with q | q
    · exact .inl (by simpa using q)
    · exact .inr ⟨by simpa using q, cellsFrom_some _ _ _ (.inl (by simpa using q))⟩
  refine wpAny_call (codeAny_call_function (by have := rm.depth; show A.depth < 1000; lia) (i.kin _ _ hk) rfl hco hgen hbody (codeRec_of i.kin hcd) ?_)
  refine wpAny_mono (hbind A.in1 s σ ad vals i o r) (fun binds s0 q => ?_) fun _ _ f => f.elim
  obtain ⟨vals', rfl, k0, r0⟩ := q
  have hl : names.length = vals'.length := by rw [hlen, r0.length]
  have hmap : (names.zip vals').map (·.1) = names := by rw [List.map_fst_zip]; lia
  have i0 := i.keeps k0
  have o0 := o.keeps (kHeap k0)
  have rm0 := rm.keeps (kHeap k0)
  rw [hcl]
  refine wpAny_newFunctionEnv_cells hkf (fun x hx => hkind _ x.1 (by rw [← hmap]; exact List.mem_map_of_mem hx)) fun env he s₁ x => ?_
  have hc' : ((cellsFrom (s0.heap.objs.size + 1) fd.scope.names []).map (·.1)).Nodup := by rw [cellsFrom_names fd.scope.names 0 (s0.heap.objs.size + 1) [] [] rfl] at hcells; exact hcells
  obtain ⟨c1, k1⟩ := enter_ok (f := f) rm0 i0 o0 r0 hg hbu hkf hnd hl hkin (fun x hx => hkind _ x hx) env he x hc'
  refine ⟨(i0.keeps k1).lim, codeAny_func ?_⟩
  have hb' := h s0.heap.objs.size
  have henv : callEnvC fd s0.heap.objs.size f = env := he.symm
  rw [henv] at hb'
  refine wpAny_mono (hb' _ s₁ ad c1) (fun fl s2 q => ?_) fun _ _ f => f.elim
  obtain ⟨k2, v, rfl, rv⟩ := q
  refine ⟨kTrans k0 (leave_ok k1 k2 fun b hm => new_none ?_), rv⟩
  have hL : @Eq Nat env.locals s0.heap.objs.size := by rw [he]; rfl
  rcases mem_fx hm with q | ⟨nm, q, _⟩
  · have q' : @Eq Nat b env.locals := q
    lia
  · have := ltN (x.above nm b q)
    lia

-- def f(x, *rest)
set_option tactic.hygienic true in
theorem Bnd.var1 {fd : FuncData} {x y : Str} {d : D} {ds : List D} (hb1 : ∀ (v : Value) (vs : List Value), bindArgs fd ⟨v :: vs, []⟩ = (do let t ← newTuple vs; pure [(x, v), (y, t)])) (hs : ds.length ≤ 16777216) :
    Bnd w hb fd (d :: ds) [x, y] [d, .tup ds] := fun A s σ ad vals i o r => by
  cases r with
  | cons r1 r2 =>
    rename_i v vs
    rw [hb1]
    refine wpAny_bind (wpAny_newTuple (wpAny_pure ⟨[v, .ref s.heap.objs.size], rfl, kPush _ _, .cons (r1.keeps (kHeap (kPush _ _))) (.cons (rd_newTuple r2 o) .nil)⟩) (sz ?_))
    rw [r2.length]; exact hs

theorem bind_var1 {fd : FuncData} {x y : Str} {ax ay : Arg} (hp : fd.params = ⟨[], [ax], some ay, [], [], none, []⟩) (hx : ax.arg = x) (hy : ay.arg = y) (hd : fd.defaults = .none) (v : Value) (vs : List Value) :
    bindArgs fd ⟨v :: vs, []⟩ = (do let t ← newTuple vs; pure [(x, v), (y, t)]) := by
  subst hx hy
  unfold bindArgs
  rw [hp, hd]
  simp [List.zip_cons_cons, List.lookup_cons, seqItems?, notAStandIn]

-- a def with a closure and no cells of its own
theorem enter_okC {f : Addr} {fd : FuncData} {names : List Str} {vals : List Value} {args : List D} {h₁ : Heap} {tk : Nat} {n : Nat}
    (rm : Rm hb (n + 1) A s.heap) (i : Inv w hb s) (o : Own hb σ ad s.heap) (r : RdAll s.heap ad vals args)
    (hg : fd.globals = mainGlobals) (hbu : fd.builtins = builtinsNs) (hkf : fd.scope.kind = .function) (hnd : names.Nodup) (hlen : names.length = vals.length)
    (hkin : fd.scope.names.lookup ("_initial_size" : Str) ≠ some .local) (hkind : ∀ x ∈ names, fd.scope.names.lookup x = some .local) (hno : ∀ x ∈ fd.scope.names, x.2 ≠ .cell)
    (hclo : ∀ nm c, (nm, c) ∈ fd.closure → ∃ ob v, (Kf w).lookup c = some ob ∧ ob.data = .cell v) (hap : fd.closure.Pairwise fun x y => x.2 ≠ y.2)
    (env : Env) (he : env = callEnv fd s.heap.objs.size f) (hn : h₁.Ns s.heap.objs.size fun x => (names.zip vals).reverse.lookup x) (kk : ∀ b o, s.heap.get? b = some o → h₁.get? b = some o) :
    Cs w hb n (A.deeper env) env (names.zip args) σ ad { s with heap := h₁, toks := tk } := by
  have hk : Keeps s { s with heap := h₁, toks := tk } := kOf kk
  have hL : @Eq Nat env.locals s.heap.objs.size := by rw [he]; rfl
  have hL' : env.locals = s.heap.objs.size := hL
  have hmap : (names.zip vals).map (·.1) = names := by rw [List.map_fst_zip]; lia
  have hcl : env.cells = fd.closure := by rw [he]; rfl
  have hsc : env.scope = fd.scope := by rw [he]; rfl
  have hko : ∀ y, env.kindOf y = fd.scope.names.lookup y := fun y => by unfold Env.kindOf; rw [hsc]
  have adlt : ∀ a ∈ ad, @LT.lt Nat _ a s.heap.objs.size := fun a ha => o.old ha
  have look : ∀ y v, (y, v) ∈ names.zip vals → (names.zip vals).reverse.lookup y = some v := fun y v hm =>
    look_mem ((names.zip vals).reverse) (by rw [List.map_reverse, hmap]; unfold List.Nodup; rw [List.pairwise_reverse]; exact hnd.imp Ne.symm) (List.mem_reverse.mpr hm)
  have ns1 : h₁.Ns env.locals fun x => (names.zip vals).reverse.lookup x := by rw [hL']; exact hn
  have top : ∃ outer, (A.deeper env).frames = some (env :: outer) := let ⟨outer, e1, _⟩ := rm.frames; ⟨outer, by show A.frames.map (env :: ·) = _; rw [e1]; rfl⟩
  refine ⟨⟨?_, i.keeps hk, ?_⟩, top, ?_⟩
  · obtain ⟨outer, e1, e2⟩ := rm.frames
    refine ⟨rm.handled, ?_, ?_, env :: outer, ?_, ?_⟩
    · have := rm.depth; show A.depth + 1 + n ≤ 900; lia
    · have := rm.units; show A.units + 3 + 20 * n ≤ 9000; lia
    · show A.frames.map (env :: ·) = _; rw [e1]; rfl
    · intro env' hm
      rcases memc hm with rfl | hm
      · obtain ⟨ob, es, ep, ho, hd, _⟩ := ns1
        refine ⟨by rw [hsc, hkf]; decide, env.locals, ob, by rw [he]; rfl, i.newer (by rw [hL']; exact Nat.le_refl _), ho, fun vs q => (by (first | exact nS hd q | exact nS q hd | exact nD hd q | exact nD q hd | cases sE hd q | (rw [hd] at q; cases q))), fun vs n q => by (first | exact nS hd q | exact nS q hd | exact nD hd q | exact nD q hd | cases sE hd q | (rw [hd] at q; cases q))⟩
      · exact (FrOk.keeps (.of kk) e2) env' hm
  · exact {
      nm := fun y d e => by
        obtain ⟨v, hm, rv⟩ := RdAll.zip r e
        refine ⟨v, ?_, rv.keeps (.of kk)⟩
        have hy : y ∈ names := by rw [← hmap]; exact List.mem_map_of_mem hm
        exact .inl ⟨by rw [hko]; exact hkind y hy, _, ns1, look y v hm⟩
      ns := ⟨_, ns1⟩
      loc := i.newer (by rw [hL']; exact Nat.le_refl _)
      locad := fun hm => by have := adlt _ hm; lia
      cel := fun nm c hm => by
        rw [hcl] at hm
        obtain ⟨ob, v, q1, q2⟩ := hclo nm c hm
        have qb := i.bs.k _ _ q1
        have qs := i.kin _ _ q1
        refine ⟨fun q => ?_, fun q => ?_, fun q => ?_, v, ob, kk _ _ qs, q2⟩
        · have := o.new c q; (first | exact nS qb this | exact nS this qb | exact nD qb this | exact nD this qb | cases sE qb this | (rw [qb] at this; cases this))
        · have := ltN (Heap.lt_size qs)
          have q' : @Eq Nat c env.locals := q
          lia
        · subst q
          (first | exact nS i.bs.tbl qb | exact nS qb i.bs.tbl | exact nD i.bs.tbl qb | exact nD qb i.bs.tbl | cases sE i.bs.tbl qb | (rw [i.bs.tbl] at qb; cases qb)); cases q2
      kind := by rw [hsc]; exact hkf
      glo := by rw [he]; exact hg
      bui := by rw [he]; exact hbu
      own := o.keeps (.of kk) }
  · refine ⟨⟨_, ns1, ?_⟩, by rw [hko]; exact hkin, fun nm c h1 h2 => ?_, by rw [hcl]; exact hap, by rw [he]; rfl⟩
    · cases q : (names.zip vals).reverse.lookup ("_initial_size" : Str) with
      | none => rfl
      | some v =>
        have := mem_of_lookup q
        have hm : ("_initial_size" : Str) ∈ names := by rw [← hmap]; exact List.mem_map_of_mem (List.mem_reverse.mp this)
        exact absurd (hkind _ hm) hkin
    · rw [hko] at h2
      have := mem_of_lookup h2
      exact absurd rfl (hno _ this)

end
end Mine
end

section
open PySem PySem.W PySem.Calls PyProof.Rows
set_option Elab.async false
set_option tactic.hygienic false
set_option linter.unusedVariables false
namespace Mine
section
variable {w : World} {hb : Heap} {n : Nat} {A : Around} {env : Env} {ls ls' fls : List (Str × D)} {σ : List Ob} {ad : List Addr} {s s' : Shared} {E : Value → Shared → Prop}

theorem RdAll.one {h : Heap} {vs : List Value} {d : D} (r : RdAll h ad vs [d]) : ∃ v, vs = [v] ∧ Rd h ad v d := by
  cases r with | cons r1 r2 => (first | obtain rfl := r2.toV | obtain ⟨t, rfl⟩ := r2.toS | obtain ⟨t, rfl⟩ := r2.toI | obtain rfl := r2.toB | cases r2); exact ⟨_, rfl, r1⟩
theorem RdAll.two {h : Heap} {vs : List Value} {d e : D} (r : RdAll h ad vs [d, e]) : ∃ v u, vs = [v, u] ∧ Rd h ad v d ∧ Rd h ad u e := by
  cases r with | cons r1 r2 => cases r2 with | cons r2 r3 => (first | obtain rfl := r3.toV | obtain ⟨t, rfl⟩ := r3.toS | obtain ⟨t, rfl⟩ := r3.toI | obtain rfl := r3.toB | cases r3); exact ⟨_, _, rfl, r1, r2⟩
theorem Ev.to {e : PySem.Expr} {d d' : D} (h : Ev w hb n env ls σ e d) (q : d = d') : Ev w hb n env ls σ e d' := q ▸ h
theorem Tr.to {e : PySem.Expr} {b b' : Bool} (h : Tr w hb n env ls σ e b) (q : b = b') : Tr w hb n env ls σ e b' := q ▸ h
noncomputable def rangeD (a : Int) (k : Nat) : List D := (List.range k).map fun i : Nat => D.int (a + (i : Int))
theorem rangeD_get {a : Int} {k i : Nat} (h : i < k) : (rangeD a k)[i]? = some (.int (a + i)) := by
  unfold rangeD; rw [List.getElem?_map, List.getElem?_range h]; rfl
theorem rangeD_len {a : Int} {k : Nat} : (rangeD a k).length = k := by simp [rangeD]

theorem walks_bound {prog : Program} {I : Addr} {fp wr : List Addr} {k : Nat} {P : Nat → Value → Prop} {S : Nat → Heap → Prop} (W : Walks prog w A I fp wr k P S) : Walks prog w A I fp wr k (fun i v => i < k ∧ P i v) S where
  sub := W.sub
  frame := W.frame
  item := fun i s Q E hi st hQ => W.item i s Q E hi st fun v h' tk hP => hQ v h' tk ⟨hi, hP⟩
  done := W.done
  self := W.self

theorem wk_range {a b : Int} {r : Addr} {t u v : Tok} {Q : Value → Shared → Prop} (hh : A.handled = none) (i : Inv w hb s) (ow : Own hb σ ad s.heap) (hr : IsRange s.heap r a b 1 t u v)
    (ha : -(2 ^ 62) ≤ a) (ha' : a < 2 ^ 62) (hb' : -(2 ^ 62) ≤ b) (hb'' : b < 2 ^ 62)
    (h : ∀ I fp P S s', Keeps s s' → s.heap.get? I = none → Wk w hb A ad I fp (rangeD a (b - a).toNat) P S s'.heap → (∀ b ∈ fp, b ∉ ad) → Q (.ref I) s') : wpAny (model pg w) A (pyIter (.ref r)) Q E s := by
  refine wpAny_pyIter_range hr (small_one ha ha' hb' hb'') ?_
  have hsz : Builtin.Range.rangeSize a b 1 = ((b - a).toNat : Int) := by rw [rangeSize_one]; split <;> lia
  refine h _ _ _ _ _ (kPush _ _) (fresh_none s) ⟨by rw [rangeD_len]; exact walks_bound (Walks.range hh s.heap.objs.size a 1 (b - a).toNat), ?_, ?_, i.newer (Nat.le_refl _), ?_, ?_⟩ (fun b hm => by replace hm := (List.mem_singleton.mp hm).symm; subst hm; exact ow.fresh)
  · have e1 : a + ((0 : Nat) : Int) * 1 = a := by simp
    have e2 : (((b - a).toNat : Int) - ((0 : Nat) : Int)) = Builtin.Range.rangeSize a b 1 := by rw [hsz]; simp
    rw [e1, e2]; exact Heap.get?_push_size _ rfl
  · intro j h' q; exact ⟨_, _, q, rfl⟩
  · intro h' ad' ex car j v ⟨hj, t, e⟩
    subst e
    refine ⟨_, rangeD_get hj, ?_⟩
    rw [Int.mul_one]; exact .int _ _
  · intro b hm
    replace hm := (List.mem_singleton.mp hm).symm; subst hm
    refine ⟨fun q => ?_, _, Heap.get?_push_size _ rfl, .inr ⟨_, rfl⟩⟩
    obtain ⟨_, _, e, _⟩ := i.tab.fields
    rw [← q, fresh_none] at e; cases e
set_option tactic.hygienic true in
theorem SiP.range1 {np pos : Pos} {e : PySem.Expr} {k : Int} (hn : Ev w hb n env ls σ (.Name "range" np) (.val (.type "range"))) (ha : EvA w hb n env ls σ [e] [.int k]) (h0 : -(2 ^ 62) ≤ k) (h1 : k < 2 ^ 62) :
    SiP w hb n env ls σ (.Call (.Name "range" np) [e] [] pos) (rangeD 0 k.toNat) := fun A s ad c Q E h => by
  refine wpAny_Call_NameR (hn.use c fun v s1 k1 c1 r1 => ?_)
  cases r1
  refine callWith_any Kpr.typ ha c1 fun vs s2 k2 c2 r2 => ?_
  obtain ⟨v, rfl, q2⟩ := r2.one
  cases q2
  rename_i t1
  rw [List.nil_append]
  have k3 : Keeps s2 { s2 with heap := s2.heap.push { cls := .type "range", data := .fields #[.int 0 s2.toks, .int k t1, .int 1 (s2.toks + 1)] }, toks := s2.toks + 1 + 1 } := kOf fun b o e => Heap.get?_push_of_some _ e
  refine call_range_1 (wk_range (ad := ad) c2.rm.handled (c2.inv.keeps k3) (c2.st.own.keeps (kHeap k3)) (IsRange.new ..) (by decide) (by decide) h0 h1 fun I fp P S s4 k4 hnew W hfp => ?_)
  rw [Int.sub_zero] at W
  have k123 := kTrans k1 (kTrans k2 k3)
  exact h I fp P S s4 (kTrans k123 k4) (k123.heap.fresh c.inv.tab hnew) W hfp
set_option tactic.hygienic true in
theorem SiP.range2 {np pos : Pos} {e e' : PySem.Expr} {a b : Int} (hn : Ev w hb n env ls σ (.Name "range" np) (.val (.type "range"))) (ha : EvA w hb n env ls σ [e, e'] [.int a, .int b])
    (h0 : -(2 ^ 62) ≤ a) (h1 : a < 2 ^ 62) (h2 : -(2 ^ 62) ≤ b) (h3 : b < 2 ^ 62) :
    SiP w hb n env ls σ (.Call (.Name "range" np) [e, e'] [] pos) (rangeD a (b - a).toNat) := fun A s ad c Q E h => by
  refine wpAny_Call_NameR (hn.use c fun v s1 k1 c1 r1 => ?_)
  cases r1
  refine callWith_any Kpr.typ ha c1 fun vs s2 k2 c2 r2 => ?_
  obtain ⟨v, u, rfl, q2, q3⟩ := r2.two
  cases q2; cases q3
  rw [List.nil_append]
  rename_i t1 t2
  have k3 : Keeps s2 { s2 with heap := s2.heap.push { cls := .type "range", data := .fields #[.int a t1, .int b t2, .int 1 s2.toks] }, toks := s2.toks + 1 } := kOf fun b o e => Heap.get?_push_of_some _ e
  refine call_range_2 ?_
  refine wk_range (ad := ad) c2.rm.handled (c2.inv.keeps k3) (c2.st.own.keeps (kHeap k3)) (IsRange.new ..) h0 h1 h2 h3 fun I fp P S s4 k4 hnew W hfp => ?_
  have k123 := kTrans k1 (kTrans k2 k3)
  exact h I fp P S s4 (kTrans k123 k4) (k123.heap.fresh c.inv.tab hnew) W hfp

theorem Si.range1 {np pos : Pos} {e : PySem.Expr} {k : Int} (hn : Ev w hb n env ls σ (.Name "range" np) (.val (.type "range"))) (ha : EvA w hb n env ls σ [e] [.int k]) (h0 : -(2 ^ 62) ≤ k) (h1 : k < 2 ^ 62) :
    Si w hb n env ls σ (.Call (.Name "range" np) [e] [] pos) (rangeD 0 k.toNat) := (SiP.range1 hn ha h0 h1).si
-- sum(list of ints)
theorem Fs.sum {d : D} {xs : List Int} (hd : IsL σ d (xs.map .int)) : Fs w hb n (.builtin "sum") [d] σ (.int xs.sum) := fun A s ad vals rm i o r => by
  obtain ⟨v, rfl, r1⟩ := r.one
  refine call_sum_walkG (Src.list hd A.in1 s ad v rm.handled i o r1 _ _ fun I fp P S s2 k2 hnew W => ?_)
  have i2 := i.keeps k2
  have own2 := o.keeps (kHeap k2)
  refine ⟨I, fp, [I], _, P, S, fun j => xs.getD j 0, rfl, W.W, W.st, W.old, fun j v hP => ?_, fun h' tk t' hk => ?_⟩
  · obtain ⟨d, e, rd⟩ := W.val s2.heap [] (Car.refl _ _) j v hP
    rw [List.getElem?_map] at e
    cases q : xs[j]? with
    | none => (first | exact nS q e | exact nS e q | exact nD q e | exact nD e q | cases sE q e | (rw [q] at e; cases e))
    | some x =>
      (first | exact nS q e | exact nS e q | exact nD q e | exact nD e q | cases sE q e | (rw [q] at e; cases e))
      (first | obtain rfl := rd.toV | obtain ⟨t, rfl⟩ := rd.toS | obtain ⟨t, rfl⟩ := rd.toI | obtain rfl := rd.toB | cases rd)
      exact ⟨_, by show _ = Value.int (xs.getD j 0) _; rw [List.getD_eq_getElem?_getD, q]; rfl⟩
  · have e : preSum (fun j => xs.getD j 0) (xs.map D.int).length = xs.sum := by
      rw [List.length_map]
      have gen : ∀ k, k ≤ xs.length → preSum (fun j => xs.getD j 0) k = (xs.take k).sum := by
        intro k
        induction k with
        | zero => intro _; simp [preSum]
        | succ k ih =>
          intro hk
          rw [preSum, ih (by lia), List.take_add_one, List.sum_append, List.getElem?_eq_getElem (by lia), List.getD_eq_getElem?_getD, List.getElem?_eq_getElem (by lia)]
          simp
      rw [gen _ (Nat.le_refl _), List.take_length]
    rw [e]
    refine ⟨?_, .int _ _⟩
    exact ((KeepsX.of k2).trans (keepsI i.bs W.new hk)).drop hnew |>.nil
end
end Mine
end

section
open PySem PySem.W PySem.Calls PyProof.Rows PySem.SeqAt
set_option Elab.async false
set_option tactic.hygienic false
set_option linter.unusedVariables false
namespace Mine
section
variable {w : World} {hb : Heap} {n : Nat} {A : Around} {env : Env} {ls ls' fls : List (Str × D)} {σ : List Ob} {ad : List Addr} {s s' : Shared} {E : Value → Shared → Prop}

-- data of one kind, whose == is the equality
structure EqT {α : Type} [DecidableEq α] (k : Nat) (emb : α → D) : Prop where
  eqs : ∀ (A : Around) (s : Shared) (ad : List Addr) (v u : Value) (x y : α), A.units + k < cLine → Rd s.heap ad v (emb x) → Rd s.heap ad u (emb y) → EqAt A s v u (decide (x = y))
  same : ∀ (h : Heap) (ad : List Addr) (v : Value) (x y : α), Rd h ad v (emb x) → Rd h ad v (emb y) → x = y

set_option tactic.hygienic true in
theorem EqT.str : EqT 0 D.str := ⟨fun A s ad v u x y _ r1 r2 => by
    cases r1; cases r2
    rename_i t1 t2
    have := EqAt.str_str (A := A) (s := s) x t1 y t2
    rwa [show (x == y) = decide (x = y) by rw [Bool.eq_iff_iff]; simp] at this,
  fun h ad v x y r1 r2 => by cases r1; cases r2; rfl⟩
set_option tactic.hygienic true in
theorem EqT.int : EqT 0 D.int := ⟨fun A s ad v u x y _ r1 r2 => by
    cases r1; cases r2
    rename_i t1 t2
    have := EqAt.int_int (A := A) (s := s) x t1 y t2
    rwa [show (x == y) = decide (x = y) by rw [Bool.eq_iff_iff]; simp] at this,
  fun h ad v x y r1 r2 => by cases r1; cases r2; rfl⟩

theorem EqT.sames {α : Type} [DecidableEq α] {k : Nat} {emb : α → D} (e : EqT k emb) {h : Heap} : ∀ {vs : List Value} {xs ys : List α}, RdAll h ad vs (xs.map emb) → RdAll h ad vs (ys.map emb) → xs = ys
  | [], [], [], _, _ => rfl
  | [], _ :: _, _, r, _ => nomatch r
  | [], [], _ :: _, _, r => nomatch r
  | _ :: _, [], _, r, _ => nomatch r
  | _ :: _, _ :: _, [], _, r => nomatch r
  | v :: vs, x :: xs, y :: ys, r1, r2 => by
    cases r1 with
    | cons a1 a2 =>
      cases r2 with
      | cons b1 b2 => rw [e.same h ad v x y a1 b1, e.sames a2 b2]

-- item by item
theorem EqT.each {α : Type} [DecidableEq α] {k : Nat} {emb : α → D} (e : EqT k emb) {vs us : Array Value} {xs ys : List α} (hu : A.units + k < cLine) (r1 : RdAll s.heap ad vs.toList (xs.map emb)) (r2 : RdAll s.heap ad us.toList (ys.map emb)) :
    ∀ j (h1 : j < vs.size) (h2 : j < us.size), EqAt A s vs[j] us[j] (decide (xs[j]? = ys[j]?)) := fun j h1 h2 => by
  obtain ⟨d1, e1, q1⟩ := r1.get j vs[j] (by simp [h1])
  obtain ⟨d2, e2, q2⟩ := r2.get j us[j] (by simp [h2])
  rw [List.getElem?_map] at e1 e2
  cases hx : xs[j]? with
  | none => (first | exact nS hx e1 | exact nS e1 hx | exact nD hx e1 | exact nD e1 hx | cases sE hx e1 | (rw [hx] at e1; cases e1))
  | some x =>
    cases hy : ys[j]? with
    | none => (first | exact nS hy e2 | exact nS e2 hy | exact nD hy e2 | exact nD e2 hy | cases sE hy e2 | (rw [hy] at e2; cases e2))
    | some y =>
      rw [hx] at e1; rw [hy] at e2
      cases e1; cases e2
      have := e.eqs A s ad vs[j] us[j] x y hu q1 q2
      rwa [show decide (some x = some y) = decide (x = y) by simp]
theorem all_range_eq {α : Type} [DecidableEq α] {xs ys : List α} (h : xs.length = ys.length) : (List.range xs.length).all (fun j => decide (xs[j]? = ys[j]?)) = decide (xs = ys) := by
  rw [Bool.eq_iff_iff, List.all_eq_true, decide_eq_true_iff]
  constructor
  · intro q
    refine List.ext_getElem? fun j => ?_
    by_cases hj : j < xs.length
    · simpa using q j (List.mem_range.mpr hj)
    · rw [List.getElem?_eq_none (by lia), List.getElem?_eq_none (by lia)]
  · rintro rfl j _; simp
theorem all_range_eq2 {α : Type} [DecidableEq α] {xs ys : List α} : ((List.range (min xs.length ys.length)).all (fun j => decide (xs[j]? = ys[j]?)) && xs.length == ys.length) = decide (xs = ys) := by
  by_cases h : xs.length = ys.length
  · rw [show (xs.length == ys.length) = true by simpa using h, Bool.and_true, show min xs.length ys.length = xs.length by lia, all_range_eq h]
  · rw [show (xs.length == ys.length) = false by simpa using h, Bool.and_false, eq_comm, decide_eq_false_iff_not]
    exact fun q => h (by rw [q])

theorem EqT.lst {α : Type} [DecidableEq α] {k : Nat} {emb : α → D} (e : EqT k emb) : EqT (k + 1) (fun xs : List α => D.lst (xs.map emb)) := ⟨fun A s ad v u xs ys hu r1 r2 => by
    cases r1 with
    | @lst a o vs m _ h1 h2 h3 h4 h5 h6 =>
      cases r2 with
      | @lst b p us l _ k1 k2 k3 k4 k5 k6 =>
        by_cases hab : a = b
        · subst hab
          (first | exact nS h1 k1 | exact nS k1 h1 | exact nD h1 k1 | exact nD k1 h1 | cases sE h1 k1 | (rw [h1] at k1; cases k1)); (first | exact nS h4 k4 | exact nS k4 h4 | exact nD h4 k4 | exact nD k4 h4 | cases sE h4 k4 | (rw [h4] at k4; cases k4))
          rw [e.sames h6 k6, decide_eq_true rfl]
          exact EqAt.same _
        · have l1 := h6.length; have l2 := k6.length
          rw [Array.length_toList, List.length_map] at l1 l2
          refine EqAt.of_refs hab ?_
          by_cases hsz : vs.size = us.size
          · have := RcAt.lists (A := A) (s := s) (l := a) (b := b) ⟨o, h1, h2, m, h4⟩ ⟨p, k1, k2, l, k4⟩ hsz (by lia) (e.each (A := A.in1) (by show A.units + 1 + k < cLine; lia) h6 k6)
            rwa [l1, all_range_eq (by lia)] at this
          · rw [show decide (xs = ys) = false from decide_eq_false fun q => hsz (by rw [l1, l2, q])]
            exact RcAt.lists_lengths ⟨o, h1, h2, m, h4⟩ ⟨p, k1, k2, l, k4⟩ (by simpa using hsz) (by lia),
  fun h ad v xs ys r1 r2 => by
    cases r1 with
    | lst h1 h2 h3 h4 h5 h6 =>
      cases r2 with
      | lst k1 k2 k3 k4 k5 k6 =>
        (first | exact nS h1 k1 | exact nS k1 h1 | exact nD h1 k1 | exact nD k1 h1 | cases sE h1 k1 | (rw [h1] at k1; cases k1)); (first | exact nS h4 k4 | exact nS k4 h4 | exact nD h4 k4 | exact nD k4 h4 | cases sE h4 k4 | (rw [h4] at k4; cases k4))
        exact e.sames h6 k6⟩
theorem EqT.tup {α : Type} [DecidableEq α] {k : Nat} {emb : α → D} (e : EqT k emb) : EqT (k + 1) (fun xs : List α => D.tup (xs.map emb)) := ⟨fun A s ad v u xs ys hu r1 r2 => by
    cases r1 with
    | @tup a o vs m _ h1 h2 h3 h4 h5 h6 =>
      cases r2 with
      | @tup b p us l _ k1 k2 k3 k4 k5 k6 =>
        by_cases hab : a = b
        · subst hab
          (first | exact nS h1 k1 | exact nS k1 h1 | exact nD h1 k1 | exact nD k1 h1 | cases sE h1 k1 | (rw [h1] at k1; cases k1)); (first | exact nS h4 k4 | exact nS k4 h4 | exact nD h4 k4 | exact nD k4 h4 | cases sE h4 k4 | (rw [h4] at k4; cases k4))
          rw [e.sames h6 k6, decide_eq_true rfl]
          exact EqAt.same _
        · have l1 := h6.length; have l2 := k6.length
          rw [Array.length_toList, List.length_map] at l1 l2
          refine EqAt.of_refs hab ?_
          have := RcAt.tuples (A := A) (s := s) (l := a) (b := b) ⟨o, h1, h2, m, h4⟩ ⟨p, k1, k2, l, k4⟩ (by lia) (e.each (A := A.in1) (by show A.units + 1 + k < cLine; lia) h6 k6)
          rwa [l1, l2, all_range_eq2] at this,
  fun h ad v xs ys r1 r2 => by
    cases r1 with
    | tup h1 h2 h3 h4 h5 h6 =>
      cases r2 with
      | tup k1 k2 k3 k4 k5 k6 =>
        (first | exact nS h1 k1 | exact nS k1 h1 | exact nD h1 k1 | exact nD k1 h1 | cases sE h1 k1 | (rw [h1] at k1; cases k1)); (first | exact nS h4 k4 | exact nS k4 h4 | exact nD h4 k4 | exact nD k4 h4 | cases sE h4 k4 | (rw [h4] at k4; cases k4))
        exact e.sames h6 k6⟩
-- a pair of strs
noncomputable def prD (p : Str × Str) : D := .tup [.str p.1, .str p.2]
theorem EqT.pair : EqT 1 prD := ⟨fun A s ad v u x y hu r1 r2 => by
    have := (EqT.tup EqT.str).eqs A s ad v u [x.1, x.2] [y.1, y.2] hu r1 r2
    rwa [show decide ([x.1, x.2] = [y.1, y.2]) = decide (x = y) by
      obtain ⟨a, b⟩ := x; obtain ⟨c, d⟩ := y; rw [Bool.eq_iff_iff]; simp] at this,
  fun h ad v x y r1 r2 => by
    have := (EqT.tup EqT.str).same h ad v [x.1, x.2] [y.1, y.2] r1 r2
    obtain ⟨a, b⟩ := x; obtain ⟨c, d⟩ := y; simpa using this⟩

theorem Rm.units' {A : Around} {h : Heap} (r : Rm hb n A h) {k : Nat} (hk : k ≤ 800) : A.units + k < cLine := by
  have := r.units
  show _ < 9900
  lia

theorem Co.eqLs {α : Type} [DecidableEq α] {k : Nat} {emb : α → D} (e : EqT k emb) {d1 d2 : D} {xs ys : List α} (h1 : IsL σ d1 (xs.map emb)) (h2 : IsL σ d2 (ys.map emb)) (hk : autoParam (k ≤ 700) Mine.auD) : Co w hb n .Eq σ d1 d2 (decide (xs = ys)) := fun A s ad u v rm i o r1 r2 => by
  obtain ⟨a, ob, vs, m, rfl, e1, e2, e3, e4, e5⟩ := r1.isL h1 o
  obtain ⟨b, ob2, us, m2, rfl, k1, k2, k3, k4, k5⟩ := r2.isL h2 o
  have l1 := e5.length; have l2 := k5.length
  rw [Array.length_toList, List.length_map] at l1 l2
  by_cases hsz : vs.size = us.size
  · refine eq_listAt ⟨ob, e1, e2, m, e4⟩ ⟨ob2, k1, k2, m2, k4⟩ hsz (rm.units' (k := 0) (by decide)) (e.each (A := A.in1) (by have := rm.units' (k := k + 1) (by lia); show A.units + 1 + k < cLine; lia) e5 k5) ⟨kRefl s, ?_⟩
    rw [l1, all_range_eq (by lia)]
  · rw [show decide (xs = ys) = false from decide_eq_false fun q => hsz (by rw [l1, l2, q])]
    exact eq_list_lengthsAt ⟨ob, e1, e2, m, e4⟩ ⟨ob2, k1, k2, m2, k4⟩ (by simpa using hsz) (rm.units' (k := 0) (by decide)) ⟨kRefl s, rfl⟩
theorem Co.neLs {α : Type} [DecidableEq α] {k : Nat} {emb : α → D} (e : EqT k emb) {d1 d2 : D} {xs ys : List α} (h1 : IsL σ d1 (xs.map emb)) (h2 : IsL σ d2 (ys.map emb)) (hk : autoParam (k ≤ 700) Mine.auD) : Co w hb n .NotEq σ d1 d2 (!decide (xs = ys)) := fun A s ad u v rm i o r1 r2 => by
  obtain ⟨a, ob, vs, m, rfl, e1, e2, e3, e4, e5⟩ := r1.isL h1 o
  obtain ⟨b, ob2, us, m2, rfl, k1, k2, k3, k4, k5⟩ := r2.isL h2 o
  have l1 := e5.length; have l2 := k5.length
  rw [Array.length_toList, List.length_map] at l1 l2
  by_cases hsz : vs.size = us.size
  · have := RcNeAt.lists (A := A) (s := s) (l := a) (b := b) ⟨ob, e1, e2, m, e4⟩ ⟨ob2, k1, k2, m2, k4⟩ hsz (rm.units' (k := 0) (by decide)) (e.each (A := A.in1) (by have := rm.units' (k := k + 1) (by lia); show A.units + 1 + k < cLine; lia) e5 k5)
    rw [l1, all_range_eq (by lia)] at this
    exact this pg w _ _ ⟨kRefl s, rfl⟩
  · rw [show decide (xs = ys) = false from decide_eq_false fun q => hsz (by rw [l1, l2, q])]
    exact RcNeAt.lists_lengths (A := A) (s := s) (l := a) (b := b) ⟨ob, e1, e2, m, e4⟩ ⟨ob2, k1, k2, m2, k4⟩ (by simpa using hsz) (rm.units' (k := 0) (by decide)) pg w _ _ ⟨kRefl s, rfl⟩

-- in a list: an item decides
theorem EqT.mem {α : Type} [DecidableEq α] {k : Nat} {emb : α → D} (e : EqT k emb) {vs : Array Value} {ys : List α} {x : α} {u : Value} (hu : A.units + k < cLine) (r1 : RdAll s.heap ad vs.toList (ys.map emb)) (r2 : Rd s.heap ad u (emb x)) :
    ∃ f : Value → Bool, (∀ y, y ∈ vs → EqAt A s y u (f y)) ∧ ∀ (j : Nat) (v : Value), vs[j]? = some v → ∃ y, ys[j]? = some y ∧ f v = decide (y = x) := by
  classical
  refine ⟨fun v => decide (∃ y, Rd s.heap ad v (emb y) ∧ y = x), fun v hv => ?_, fun j v hv => ?_⟩
  · obtain ⟨j, hj, rfl⟩ := Array.mem_iff_getElem.mp hv
    obtain ⟨d, e1, q1⟩ := r1.get j vs[j] (by simp [hj])
    rw [List.getElem?_map] at e1
    cases hy : ys[j]? with
    | none => (first | exact nS hy e1 | exact nS e1 hy | exact nD hy e1 | exact nD e1 hy | cases sE hy e1 | (rw [hy] at e1; cases e1))
    | some y =>
      (first | exact nS hy e1 | exact nS e1 hy | exact nD hy e1 | exact nD e1 hy | cases sE hy e1 | (rw [hy] at e1; cases e1))
      have := e.eqs A s ad vs[j] u y x hu q1 r2
      have q : decide (∃ y, Rd s.heap ad vs[j] (emb y) ∧ y = x) = decide (y = x) := by
        rw [decide_eq_decide]
        exact ⟨fun ⟨y', h1, h2⟩ => (e.same _ _ _ y y' q1 h1).trans h2, fun h => ⟨y, q1, h⟩⟩
      show EqAt A s vs[j] u (decide (∃ y, Rd s.heap ad vs[j] (emb y) ∧ y = x))
      rw [q]; exact this
  · obtain ⟨d, e1, q1⟩ := r1.get j v (by simpa using hv)
    rw [List.getElem?_map] at e1
    cases hy : ys[j]? with
    | none => (first | exact nS hy e1 | exact nS e1 hy | exact nD hy e1 | exact nD e1 hy | cases sE hy e1 | (rw [hy] at e1; cases e1))
    | some y =>
      (first | exact nS hy e1 | exact nS e1 hy | exact nD hy e1 | exact nD e1 hy | cases sE hy e1 | (rw [hy] at e1; cases e1))
      refine ⟨y, rfl, ?_⟩
      rw [decide_eq_decide]
      exact ⟨fun ⟨y', h1, h2⟩ => (e.same _ _ _ y y' q1 h1).trans h2, fun h => ⟨y, q1, h⟩⟩
theorem any_of_get {α : Type} [DecidableEq α] {f : Value → Bool} {vs : Array Value} {ys : List α} {x : α} (hl : vs.size = ys.length) (h : ∀ (j : Nat) (v : Value), vs[j]? = some v → ∃ y, ys[j]? = some y ∧ f v = decide (y = x)) : vs.any f = decide (x ∈ ys) := by
  rw [Bool.eq_iff_iff, Array.any_eq_true, decide_eq_true_iff]
  constructor
  · rintro ⟨j, hj, q⟩
    obtain ⟨y, e, q'⟩ := h j vs[j] (by simp [hj])
    rw [q'] at q
    have : y = x := by simpa using q
    subst this
    exact List.mem_of_getElem? e
  · intro hm
    obtain ⟨j, hj⟩ := List.mem_iff_getElem?.mp hm
    have hlt : j < vs.size := by rw [hl]; exact (List.getElem?_eq_some_iff.mp hj).1
    refine ⟨j, hlt, ?_⟩
    obtain ⟨y, e, q'⟩ := h j vs[j] (by simp [hlt])
    (first | exact nS hj e | exact nS e hj | exact nD hj e | exact nD e hj | cases sE hj e | (rw [hj] at e; cases e))
    rw [q']; simp
theorem Co.notInL {α : Type} [DecidableEq α] {k : Nat} {emb : α → D} (e : EqT k emb) {d : D} {x : α} {ys : List α} (h2 : IsL σ d (ys.map emb)) (hk : autoParam (k ≤ 700) Mine.auD) : Co w hb n .NotIn σ (emb x) d (!decide (x ∈ ys)) := fun A s ad u v rm i o r1 r2 => by
  obtain ⟨b, ob2, us, m2, rfl, k1, k2, k3, k4, k5⟩ := r2.isL h2 o
  have l2 := k5.length
  rw [Array.length_toList, List.length_map] at l2
  obtain ⟨f, hf, hg⟩ := e.mem (A := A.in1) (by have := rm.units' (k := k + 1) (by lia); show A.units + 1 + k < cLine; lia) k5 r1
  refine notIn_listAt f ⟨ob2, k1, k2, m2, k4⟩ hf ⟨kRefl s, ?_⟩
  rw [any_of_get l2 hg]

theorem Fs.count {α : Type} [DecidableEq α] {k : Nat} {emb : α → D} (e : EqT k emb) {d : D} {x : α} {ys : List α} (h2 : IsL σ d (ys.map emb)) (hk : autoParam (k ≤ 700) Mine.auD) : Fs w hb n (.builtin "list.count") [d, emb x] σ (.int (ys.countP fun y => decide (y = x))) := fun A s ad vals rm i o r => by
  obtain ⟨v, u, rfl, r1, r2⟩ := r.two
  obtain ⟨b, ⟨cls, dd, data, sl⟩, us, m2, rfl, k1, k2, k3, k4, k5⟩ := r1.isL h2 o
  simp only at k2 k3 k4
  subst k2 k3 k4
  have l2 := k5.length
  rw [Array.length_toList, List.length_map] at l2
  obtain ⟨f, hf, hg⟩ := e.mem (A := A.in1) (by have := rm.units' (k := k + 1) (by lia); show A.units + 1 + k < cLine; lia) k5 r2
  refine call_meets F.slot_list_count ⟨_, k1, rfl⟩ F.entry_list_count (F.args_list_count_2 _ _) (list_countAt b us m2 _ _ u f) ⟨k1, hf, kToks _ _, ?_⟩
  have : us.toList.countP f = ys.countP fun y => decide (y = x) := by
    have gen : ∀ (l : List Value) (ys : List α), l.length = ys.length → (∀ (j : Nat) (v : Value), l[j]? = some v → ∃ y, ys[j]? = some y ∧ f v = decide (y = x)) → l.countP f = ys.countP fun y => decide (y = x) := by
      intro l
      induction l with
      | nil => intro ys hl _; cases ys; rfl; simp at hl
      | cons v l ih =>
        intro ys hl hg
        cases ys with
        | nil => simp at hl
        | cons y ys =>
          obtain ⟨y', e1, e2⟩ := hg 0 v (by simp)
          simp at e1; subst e1
          rw [List.countP_cons, List.countP_cons, e2, ih ys (by simpa using hl) fun j v hv => by simpa using hg (j + 1) v (by simpa using hv)]
    exact gen _ _ (by simpa using l2) (by simpa using hg)
  rw [this]; exact .int _ _
theorem Fs.index {α : Type} [DecidableEq α] {k : Nat} {emb : α → D} (e : EqT k emb) {d : D} {x : α} {ys : List α} {j : Nat} (h2 : IsL σ d (ys.map emb)) (hj : ys[j]? = some x) (hno : ∀ m, m < j → ys[m]? ≠ some x) (hs : ys.length < 2 ^ 60) (hk : autoParam (k ≤ 700) Mine.auD) :
    Fs w hb n (.builtin "list.index") [d, emb x] σ (.int j) := fun A s ad vals rm i o r => by
  obtain ⟨v, u, rfl, r1, r2⟩ := r.two
  obtain ⟨b, ⟨cls, dd, data, sl⟩, us, m2, rfl, k1, k2, k3, k4, k5⟩ := r1.isL h2 o
  simp only at k2 k3 k4
  subst k2 k3 k4
  have l2 := k5.length
  rw [Array.length_toList, List.length_map] at l2
  obtain ⟨f, hf, hg⟩ := e.mem (A := A.in1) (by have := rm.units' (k := k + 1) (by lia); show A.units + 1 + k < cLine; lia) k5 r2
  have hjl : j < us.size := by rw [l2]; exact (List.getElem?_eq_some_iff.mp hj).1
  refine call_meets F.slot_list_index ⟨_, k1, rfl⟩ F.entry_list_index (F.args_list_index_2 _ _) (list_indexAt b us m2 _ _ u f j hjl (by lia) ?_ ?_) ⟨k1, hf, kToks _ _, .int _ _⟩
  · obtain ⟨y, e1, e2⟩ := hg j us[j] (by simp [hjl])
    (first | exact nS hj e1 | exact nS e1 hj | exact nD hj e1 | exact nD e1 hj | cases sE hj e1 | (rw [hj] at e1; cases e1)); rw [e2]; simp
  · intro m hm hmj
    obtain ⟨y, e1, e2⟩ := hg m us[m] (by simp [hm])
    rw [e2]
    refine decide_eq_false fun q => hno m hmj ?_
    rw [e1, q]
end
end Mine
end

section
open PySem PySem.W PySem.Calls PyProof.Rows PySem.SeqAt
open AutoSeq1 (wpAny_loadPart')
open MeetsSeq MeetsSeq2 MeetsSeq3 SeqRoads2
set_option Elab.async false
set_option tactic.hygienic false
set_option linter.unusedVariables false
namespace Mine
noncomputable def ltL {α : Type} [DecidableEq α] (lt : α → α → Bool) : List α → List α → Bool
  | [], [] => false
  | [], _ :: _ => true
  | _ :: _, [] => false
  | x :: xs, y :: ys => if x = y then ltL lt xs ys else lt x y
-- data of one kind with an order
structure OrdT {α : Type} [DecidableEq α] (k : Nat) (emb : α → D) (lt : α → α → Bool) : Prop extends EqT k emb where
  lts : ∀ (prog : Program) (w : World) (A : Around) (s : Shared) (ad : List Addr) (v u : Value) (x y : α) (Q E : Value → Shared → Prop), A.units + k < cLine → Rd s.heap ad v (emb x) → Rd s.heap ad u (emb y) → Q (.bool (lt x y)) s → wpAny (model prog w) A (richCompare .Lt v u) Q E s
  gts : ∀ (prog : Program) (w : World) (A : Around) (s : Shared) (ad : List Addr) (v u : Value) (x y : α) (Q E : Value → Shared → Prop), A.units + k < cLine → Rd s.heap ad v (emb x) → Rd s.heap ad u (emb y) → Q (.bool (lt y x)) s → wpAny (model prog w) A (richCompare .Gt v u) Q E s
theorem EqT.at {α : Type} [DecidableEq α] {k : Nat} {emb : α → D} (e : EqT k emb) {A : Around} {s : Shared} {ad : List Addr} {v u : Value} {x y : α} {Q : Bool → Shared → Prop} {E : Value → Shared → Prop} {prog : Program} {w : World} (hu : A.units + k < cLine) (r1 : Rd s.heap ad v (emb x)) (r2 : Rd s.heap ad u (emb y)) (h : Q (decide (x = y)) s) :
    wpAny (model prog w) A (eqBool v u) Q E s := e.eqs A s ad v u x y hu r1 r2 prog w E Q h

theorem lt_loop {α : Type} [DecidableEq α] {prog : Program} {w : World} {k : Nat} {emb : α → D} {lt : α → α → Bool} (e : OrdT k emb lt) {A : Around} {ad : List Addr} {R : Result → Shared → Prop} (l b : Addr) (items items2 : Array Value) (n n2 : Nat) (xs ys : List α) (hu : A.units + 1 + k < cLine) {s : Shared}
    (hl : s.heap.get? l = some { cls := .type "list", dict := none, data := .seq items n, slots := #[] } ∨ ∃ sl, s.heap.get? l = some { cls := .type "list", dict := none, data := .seq items n, slots := sl })
    (hb : ∃ sl, s.heap.get? b = some { cls := .type "list", dict := none, data := .seq items2 n2, slots := sl })
    (r1 : RdAll s.heap ad items.toList (xs.map emb)) (r2 : RdAll s.heap ad items2.toList (ys.map emb)) :
    ∀ (j i : Nat), items.size - i = j → i ≤ items.size → i ≤ items2.size → R (.ok (.ret (.bool (ltL lt (xs.drop i) (ys.drop i))))) s → codeAny (model prog w) A (.builtin "list.__eq__.loop" ⟨[.ref l, .ref b, rawInt i, rawInt 0], []⟩) R s := by
  have hl : ∃ sl, s.heap.get? l = some { cls := .type "list", dict := none, data := .seq items n, slots := sl } := hl.elim (fun q => ⟨_, q⟩) id
  obtain ⟨sl, hl⟩ := hl
  obtain ⟨sl2, hb⟩ := hb
  obtain ⟨hp, g, d, tk, os⟩ := s
  have l1 := r1.length; have l2 := r2.length
  rw [Array.length_toList, List.length_map] at l1 l2
  intro j
  induction j with
  | zero =>
    intro i hk hm1 hm2 h
    refine codeAny_builtin entry_eq_loop ?_
    rw [Around.under_plainId plain_eq_loop _]
    wp_walk using wpAny_loadPart' hl, wpAny_loadPart' hb
    have hi1 : items[((i : Nat) : Int).toNat]? = none := by simp; lia
    have hd : xs.drop i = [] := by simp; lia
    rw [hd] at h
    rw [hi1]
    wp_walk using wpAny_loadPart' hl, wpAny_loadPart' hb
    show R (.ok (.ret (.bool (decide (items.size < items2.size)))) ) _
    cases hy : ys.drop i with
    | nil =>
      rw [hy] at h
      have : ys.length ≤ i := by simpa using hy
      by_cases hz : items.size < items2.size
      · lia
      · rw [decide_eq_false hz]; exact h
    | cons y r =>
      rw [hy] at h
      have : i < ys.length := by
        have := congrArg List.length hy
        simp at this; lia
      rw [decide_eq_true (by lia)]; exact h
  | succ j ih =>
    intro i hk hm1 hm2 h
    refine codeAny_builtin entry_eq_loop ?_
    rw [Around.under_plainId plain_eq_loop _]
    wp_walk using wpAny_loadPart' hl, wpAny_loadPart' hb
    have hlt : i < items.size := by lia
    have hi1 : items[((i : Nat) : Int).toNat]? = some items[i] := by simp [hlt]
    have hc : ((i : Int) + 1) = ((i + 1 : Nat) : Int) := by push_cast; rfl
    rw [hi1]
    by_cases hlt2 : i < items2.size
    · have hi2 : items2[((i : Nat) : Int).toNat]? = some items2[i] := by simp [hlt2]
      have hx : xs.drop i = xs[i] :: xs.drop (i + 1) := by rw [List.drop_eq_getElem_cons (by lia)]
      have hy : ys.drop i = ys[i] :: ys.drop (i + 1) := by rw [List.drop_eq_getElem_cons (by lia)]
      rw [hx, hy] at h
      rw [hi2]
      obtain ⟨d1, e1, q1⟩ := r1.get i items[i] (by simp [hlt])
      obtain ⟨d2, e2, q2⟩ := r2.get i items2[i] (by simp [hlt2])
      rw [List.getElem?_map, List.getElem?_eq_getElem (by lia)] at e1 e2
      cases e1; cases e2
      refine wpAny_bind (e.toEqT.at (ad := ad) (by show A.units + 1 + k < cLine; lia) q1 q2 ?_)
      by_cases hxy : xs[i] = ys[i]
      · rw [decide_eq_true hxy]
        wp_walk
        rw [hc]
        refine ⟨plainId_quiet plain_eq_loop _, ih (i + 1) (by lia) (by lia) (by lia) ?_⟩
        unfold ltL at h
        rw [if_pos hxy] at h
        exact h
      · rw [decide_eq_false hxy]
        wp_walk using wpAny_loadPart' hl, wpAny_loadPart' hb
        rw [hi1, hi2]
        refine wpAny_bind (e.lts _ _ _ _ ad _ _ _ _ _ _ (by show A.units + 1 + k < cLine; lia) q1 q2 ?_)
        wp_walk
        unfold ltL at h
        rw [if_neg hxy] at h
        exact h
    · have hi2 : items2[((i : Nat) : Int).toNat]? = none := by simp; lia
      have hx : xs.drop i = xs[i] :: xs.drop (i + 1) := by rw [List.drop_eq_getElem_cons (by lia)]
      have hy : ys.drop i = [] := by simp; lia
      rw [hx, hy] at h
      rw [hi2]
      wp_walk using wpAny_loadPart' hl, wpAny_loadPart' hb
      show R (.ok (.ret (.bool (decide (items.size < items2.size)))) ) _
      rw [decide_eq_false (by lia)]; exact h

theorem gt_loop {α : Type} [DecidableEq α] {prog : Program} {w : World} {k : Nat} {emb : α → D} {lt : α → α → Bool} (e : OrdT k emb lt) {A : Around} {ad : List Addr} {R : Result → Shared → Prop} (l b : Addr) (items items2 : Array Value) (n n2 : Nat) (xs ys : List α) (hu : A.units + 1 + k < cLine) {s : Shared}
    (hl : s.heap.get? l = some { cls := .type "list", dict := none, data := .seq items n, slots := #[] } ∨ ∃ sl, s.heap.get? l = some { cls := .type "list", dict := none, data := .seq items n, slots := sl })
    (hb : ∃ sl, s.heap.get? b = some { cls := .type "list", dict := none, data := .seq items2 n2, slots := sl })
    (r1 : RdAll s.heap ad items.toList (xs.map emb)) (r2 : RdAll s.heap ad items2.toList (ys.map emb)) :
    ∀ (j i : Nat), items.size - i = j → i ≤ items.size → i ≤ items2.size → R (.ok (.ret (.bool (ltL lt (ys.drop i) (xs.drop i))))) s → codeAny (model prog w) A (.builtin "list.__eq__.loop" ⟨[.ref l, .ref b, rawInt i, rawInt 4], []⟩) R s := by
  have hl : ∃ sl, s.heap.get? l = some { cls := .type "list", dict := none, data := .seq items n, slots := sl } := hl.elim (fun q => ⟨_, q⟩) id
  obtain ⟨sl, hl⟩ := hl
  obtain ⟨sl2, hb⟩ := hb
  obtain ⟨hp, g, d, tk, os⟩ := s
  have l1 := r1.length; have l2 := r2.length
  rw [Array.length_toList, List.length_map] at l1 l2
  intro j
  induction j with
  | zero =>
    intro i hk hm1 hm2 h
    refine codeAny_builtin entry_eq_loop ?_
    rw [Around.under_plainId plain_eq_loop _]
    wp_walk using wpAny_loadPart' hl, wpAny_loadPart' hb
    have hi1 : items[((i : Nat) : Int).toNat]? = none := by simp; lia
    have hd : xs.drop i = [] := by simp; lia
    rw [hd] at h
    rw [hi1]
    wp_walk using wpAny_loadPart' hl, wpAny_loadPart' hb
    show R (.ok (.ret (.bool (decide (items.size > items2.size)))) ) _
    cases hy : ys.drop i with
    | nil =>
      rw [hy] at h
      have : ys.length ≤ i := by simpa using hy
      by_cases hz : items.size > items2.size
      · lia
      · rw [decide_eq_false hz]; exact h
    | cons y r =>
      rw [hy] at h
      have : i < ys.length := by
        have := congrArg List.length hy
        simp at this; lia
      rw [decide_eq_false (by lia)]; exact h
  | succ j ih =>
    intro i hk hm1 hm2 h
    refine codeAny_builtin entry_eq_loop ?_
    rw [Around.under_plainId plain_eq_loop _]
    wp_walk using wpAny_loadPart' hl, wpAny_loadPart' hb
    have hlt : i < items.size := by lia
    have hi1 : items[((i : Nat) : Int).toNat]? = some items[i] := by simp [hlt]
    have hc : ((i : Int) + 1) = ((i + 1 : Nat) : Int) := by push_cast; rfl
    rw [hi1]
    by_cases hlt2 : i < items2.size
    · have hi2 : items2[((i : Nat) : Int).toNat]? = some items2[i] := by simp [hlt2]
      have hx : xs.drop i = xs[i] :: xs.drop (i + 1) := by rw [List.drop_eq_getElem_cons (by lia)]
      have hy : ys.drop i = ys[i] :: ys.drop (i + 1) := by rw [List.drop_eq_getElem_cons (by lia)]
      rw [hx, hy] at h
      rw [hi2]
      obtain ⟨d1, e1, q1⟩ := r1.get i items[i] (by simp [hlt])
      obtain ⟨d2, e2, q2⟩ := r2.get i items2[i] (by simp [hlt2])
      rw [List.getElem?_map, List.getElem?_eq_getElem (by lia)] at e1 e2
      cases e1; cases e2
      refine wpAny_bind (e.toEqT.at (ad := ad) (by show A.units + 1 + k < cLine; lia) q1 q2 ?_)
      by_cases hxy : xs[i] = ys[i]
      · rw [decide_eq_true hxy]
        wp_walk
        rw [hc]
        refine ⟨plainId_quiet plain_eq_loop _, ih (i + 1) (by lia) (by lia) (by lia) ?_⟩
        unfold ltL at h
        rw [if_pos hxy.symm] at h
        exact h
      · rw [decide_eq_false hxy]
        wp_walk using wpAny_loadPart' hl, wpAny_loadPart' hb
        rw [hi1, hi2]
        refine wpAny_bind (e.gts _ _ _ _ ad _ _ _ _ _ _ (by show A.units + 1 + k < cLine; lia) q1 q2 ?_)
        wp_walk
        unfold ltL at h
        rw [if_neg fun q => hxy q.symm] at h
        exact h
    · have hi2 : items2[((i : Nat) : Int).toNat]? = none := by simp; lia
      have hx : xs.drop i = xs[i] :: xs.drop (i + 1) := by rw [List.drop_eq_getElem_cons (by lia)]
      have hy : ys.drop i = [] := by simp; lia
      rw [hx, hy] at h
      rw [hi2]
      wp_walk using wpAny_loadPart' hl, wpAny_loadPart' hb
      show R (.ok (.ret (.bool (decide (items.size > items2.size)))) ) _
      rw [decide_eq_true (by lia)]; exact h

theorem OrdT.int : OrdT 0 D.int (fun a b => decide (a < b)) := ⟨EqT.int,
  fun prog w A s ad v u x y Q E _ r1 r2 h => by (first | obtain rfl := r1.toV | obtain ⟨t, rfl⟩ := r1.toS | obtain ⟨t, rfl⟩ := r1.toI | obtain rfl := r1.toB | cases r1); (first | obtain rfl := r2.toV | obtain ⟨t, rfl⟩ := r2.toS | obtain ⟨t, rfl⟩ := r2.toI | obtain rfl := r2.toB | cases r2); exact P.lt_int h,
  fun prog w A s ad v u x y Q E _ r1 r2 h => by (first | obtain rfl := r1.toV | obtain ⟨t, rfl⟩ := r1.toS | obtain ⟨t, rfl⟩ := r1.toI | obtain rfl := r1.toB | cases r1); (first | obtain rfl := r2.toV | obtain ⟨t, rfl⟩ := r2.toS | obtain ⟨t, rfl⟩ := r2.toI | obtain rfl := r2.toB | cases r2); exact P.gt_int h⟩
noncomputable def strLt (a b : Str) : Bool := decide (a.cps.toList < b.cps.toList)
theorem OrdT.str : OrdT 0 D.str strLt := ⟨EqT.str,
  fun prog w A s ad v u x y Q E _ r1 r2 h => by (first | obtain rfl := r1.toV | obtain ⟨t, rfl⟩ := r1.toS | obtain ⟨t, rfl⟩ := r1.toI | obtain rfl := r1.toB | cases r1); (first | obtain rfl := r2.toV | obtain ⟨t, rfl⟩ := r2.toS | obtain ⟨t, rfl⟩ := r2.toI | obtain rfl := r2.toB | cases r2); exact P.lt_str h,
  fun prog w A s ad v u x y Q E _ r1 r2 h => by (first | obtain rfl := r1.toV | obtain ⟨t, rfl⟩ := r1.toS | obtain ⟨t, rfl⟩ := r1.toI | obtain rfl := r1.toB | cases r1); (first | obtain rfl := r2.toV | obtain ⟨t, rfl⟩ := r2.toS | obtain ⟨t, rfl⟩ := r2.toI | obtain rfl := r2.toB | cases r2); exact P.gt_str h⟩

theorem lt_meets {α : Type} [DecidableEq α] {k : Nat} {emb : α → D} {lt : α → α → Bool} (e : OrdT k emb lt) (l b : Addr) (items items2 : Array Value) (n n2 : Nat) (sl sl2 : Array (Option Value)) (xs ys : List α) :
    Meets (Builtin.«list.__lt__» ⟨[.ref l, .ref b], []⟩) (fun A R s => s.heap.get? l = some { cls := .type "list", dict := none, data := .seq items n, slots := sl } ∧ s.heap.get? b = some { cls := .type "list", dict := none, data := .seq items2 n2, slots := sl2 } ∧
      A.units + 1 + k < cLine ∧ (∃ ad, RdAll s.heap ad items.toList (xs.map emb) ∧ RdAll s.heap ad items2.toList (ys.map emb)) ∧ R (.ok (.ret (.bool (ltL lt xs ys)))) s) := by
  intro prog w A R s h
  obtain ⟨hp, g, d, tk, os⟩ := s; obtain ⟨hl, hb, hu, ⟨ad, r1, r2⟩, h⟩ := h
  have f3 := AutoSeq1.sub_list_list
  wp_walk using wpAny_loadPart' hl, wpAny_loadPart' hb
  exact ⟨plainId_quiet plain_eq_loop _, lt_loop e (ad := ad) l b items items2 n n2 xs ys hu (.inr ⟨sl, hl⟩) ⟨sl2, hb⟩ r1 r2 _ 0 rfl (Nat.zero_le _) (Nat.zero_le _) h⟩

theorem gt_meets {α : Type} [DecidableEq α] {k : Nat} {emb : α → D} {lt : α → α → Bool} (e : OrdT k emb lt) (l b : Addr) (items items2 : Array Value) (n n2 : Nat) (sl sl2 : Array (Option Value)) (xs ys : List α) :
    Meets (Builtin.«list.__gt__» ⟨[.ref l, .ref b], []⟩) (fun A R s => s.heap.get? l = some { cls := .type "list", dict := none, data := .seq items n, slots := sl } ∧ s.heap.get? b = some { cls := .type "list", dict := none, data := .seq items2 n2, slots := sl2 } ∧
      A.units + 1 + k < cLine ∧ (∃ ad, RdAll s.heap ad items.toList (xs.map emb) ∧ RdAll s.heap ad items2.toList (ys.map emb)) ∧ R (.ok (.ret (.bool (ltL lt ys xs)))) s) := by
  intro prog w A R s h
  obtain ⟨hp, g, d, tk, os⟩ := s; obtain ⟨hl, hb, hu, ⟨ad, r1, r2⟩, h⟩ := h
  have f3 := AutoSeq1.sub_list_list
  wp_walk using wpAny_loadPart' hl, wpAny_loadPart' hb
  exact ⟨plainId_quiet plain_eq_loop _, gt_loop e (ad := ad) l b items items2 n n2 xs ys hu (.inr ⟨sl, hl⟩) ⟨sl2, hb⟩ r1 r2 _ 0 rfl (Nat.zero_le _) (Nat.zero_le _) h⟩

theorem OrdT.lst {α : Type} [DecidableEq α] {k : Nat} {emb : α → D} {lt : α → α → Bool} (e : OrdT k emb lt) : OrdT (k + 1) (fun xs : List α => D.lst (xs.map emb)) (ltL lt) := ⟨e.toEqT.lst,
  fun prog w A s ad v u xs ys Q E hu r1 r2 h => by
    cases r1 with
    | @lst a o vs m _ h1 h2 h3 h4 h5 h6 =>
      cases r2 with
      | @lst b p us l _ k1 k2 k3 k4 k5 k6 =>
        obtain ⟨cls, dd, data, sl⟩ := o; obtain ⟨cls2, dd2, data2, sl2⟩ := p
        simp only at h2 h3 h4 k2 k3 k4
        subst h2 h3 h4 k2 k3 k4
        exact richCompare_meets_room (op := .Lt) ⟨_, h1, rfl⟩ ⟨_, k1, rfl⟩ F.slot_list_lt F.entry_list_lt (F.args_list_lt_2 _ _) (lt_meets e a b vs us m l sl sl2 xs ys)
          ⟨h1, k1, by show A.units + 1 + k < cLine; lia, ⟨ad, h6, k6⟩, show Value.bool (ltL lt xs ys) ≠ Value.notImplemented ∧ Q (.bool (ltL lt xs ys)) s from ⟨(fun x => nomatch x), h⟩⟩ (by lia),
  fun prog w A s ad v u xs ys Q E hu r1 r2 h => by
    cases r1 with
    | @lst a o vs m _ h1 h2 h3 h4 h5 h6 =>
      cases r2 with
      | @lst b p us l _ k1 k2 k3 k4 k5 k6 =>
        obtain ⟨cls, dd, data, sl⟩ := o; obtain ⟨cls2, dd2, data2, sl2⟩ := p
        simp only at h2 h3 h4 k2 k3 k4
        subst h2 h3 h4 k2 k3 k4
        exact richCompare_meets_room (op := .Gt) ⟨_, h1, rfl⟩ ⟨_, k1, rfl⟩ F.slot_list_gt F.entry_list_gt (F.args_list_gt_2 _ _) (gt_meets e a b vs us m l sl sl2 xs ys)
          ⟨h1, k1, by show A.units + 1 + k < cLine; lia, ⟨ad, h6, k6⟩, show Value.bool (ltL lt ys xs) ≠ Value.notImplemented ∧ Q (.bool (ltL lt ys xs)) s from ⟨(fun x => nomatch x), h⟩⟩ (by lia)⟩

end Mine
end

section
open PySem PySem.W PySem.Calls PyProof.Rows PySem.SeqAt
set_option Elab.async false
set_option tactic.hygienic false
set_option linter.unusedVariables false
set_option maxRecDepth 100000
namespace Mine
noncomputable def minBy {α : Type} (lt : α → α → Bool) (b : α) (xs : List α) : α := xs.foldl (fun b y => if lt y b then y else b) b
noncomputable def maxBy {α : Type} (lt : α → α → Bool) (b : α) (xs : List α) : α := xs.foldl (fun b y => if lt b y then y else b) b
theorem Car.step {h h' h'' : Heap} {ad ex X : List Addr} (x : Car h h' ad ad ex) (k : ∀ b o, b ∉ X → h'.get? b = some o → h''.get? b = some o)
    (hX : ∀ b ∈ X, b ∈ ad ∨ ((∀ o, h.get? b = some o → ∀ vs n, o.data ≠ .seq vs n) ∧ ∀ t, ¬ h.Ns b (accNs t))) : Car h h'' ad ad (ex ++ X) :=
  ⟨fun b o hb' e => by
    rw [List.mem_append, not_or] at hb'
    obtain ⟨o', e', m⟩ := x.keep b o hb'.1 e
    exact ⟨o', k b o' hb'.2 e', m⟩, fun b hm => by
    rcases List.mem_append.mp hm with hm | hm
    · exact x.sub b hm
    · exact hX b hm, fun _ _ e => e, fun _ e => .inl e⟩
theorem fresh_nd {h : Heap} {b : Addr} (e : h.get? b = none) : (∀ o, h.get? b = some o → ∀ vs n, o.data ≠ .seq vs n) ∧ ∀ t, ¬ h.Ns b (accNs t) :=
  ⟨fun o q => (by (first | exact nS e q | exact nS q e | exact nD e q | exact nD q e | cases sE e q | (rw [e] at q; cases q))), fun t q => by obtain ⟨o, _, _, q, _⟩ := q; (first | exact nS e q | exact nS q e | exact nD e q | exact nD q e | cases sE e q | (rw [e] at q; cases q))⟩
section
variable {w : World} {hb : Heap} {n : Nat} {A : Around} {env : Env} {ls ls' fls : List (Str × D)} {σ : List Ob} {ad : List Addr} {s s' : Shared} {E : Value → Shared → Prop}

theorem min_loop {α : Type} [DecidableEq α] {k : Nat} {emb : α → D} {lt : α → α → Bool} (e : OrdT k emb lt) {I : Addr} {fp : List Addr} {xs : List α} {P : Nat → Value → Prop} {S : Nat → Heap → Prop} {h0 : Heap} {R : Result → Shared → Prop}
    (W : Wk w hb A.in1 ad I fp (xs.map emb) P S h0) (Sd : Addr) (hSf : Sd ∉ fp) (hSn : h0.get? Sd = none) (hSb : hb.get? Sd = none) (hu : A.units + 1 + k < cLine) :
    ∀ (m j : Nat) (s : Shared) (vb : Value) (jb : Nat) (b : α) (c : Nat) (ex : List Addr), xs.length - j = m → j ≤ xs.length → Inv w hb s → S j s.heap → Car h0 s.heap ad ad ex → P jb vb → xs[jb]? = some b →
    s.heap.get? Sd = some { cls := .type "list", dict := none, data := .seq #[vb, vb] c, slots := #[] } →
    (∀ v s', KeepsX [I, Sd] s s' → Rd s'.heap ad v (emb (minBy lt b (xs.drop j))) → R (.ok (.ret v)) s') →
    codeAny (model pg w) A (.builtin "min.loop" ⟨[.ref I, .none, .ref Sd], []⟩) R s := by
  have hSw : Sd ∉ [I] := fun h => hSf (W.W.sub _ h)
  have hISd : I ≠ Sd := fun q => hSw (by simp [q])
  have hname : (toString "min" ++ toString ".loop" : String) = "min.loop" := by decide
  have ndI : ∀ b ∈ [I, Sd], b ∈ ad ∨ ((∀ o, h0.get? b = some o → ∀ vs n, o.data ≠ .seq vs n) ∧ ∀ t, ¬ h0.Ns b (accNs t)) := by
    intro b hm
    replace hm := mem2f hm
    rcases hm with rfl | rfl
    · obtain ⟨o, vs, q1, q2⟩ := W.obj 0 _ W.st
      exact .inr (nd_fields q1 q2)
    · exact .inr (fresh_nd hSn)
  have kx : ∀ (s : Shared) (h' : Heap) (tk : Nat), Inv w hb s → (∀ b o, b ∉ [I, Sd] → s.heap.get? b = some o → h'.get? b = some o) → KeepsX [I, Sd] s { s with heap := h', toks := tk } := fun s h' tk i kk =>
    ⟨fun b o hb' e _ => kk b o hb' e, tabKeeps fun b o q e => kk b o (fun hm => by
      have hn : hb.get? b = none := by
        replace hm := mem2f hm
        rcases hm with rfl | rfl
        · exact W.new
        · exact hSb
      rcases q with rfl | rfl
      · (first | exact nS i.bs.tbl hn | exact nS hn i.bs.tbl | exact nD i.bs.tbl hn | exact nD hn i.bs.tbl | cases sE i.bs.tbl hn | (rw [i.bs.tbl] at hn; cases hn))
      · (first | exact nS (i.bs.k 173 _ rfl) hn | exact nS hn (i.bs.k 173 _ rfl) | exact nD (i.bs.k 173 _ rfl) hn | exact nD hn (i.bs.k 173 _ rfl) | cases sE (i.bs.k 173 _ rfl) hn | (rw [i.bs.k 173 _ rfl] at hn; cases hn))) e, id, rfl⟩
  have hbX : ∀ b ∈ [I, Sd], hb.get? b = none := fun b hm => by
    replace hm := mem2f hm
    rcases hm with rfl | rfl
    · exact W.new
    · exact hSb
  intro m
  induction m with
  | zero =>
    intro j s vb jb b c ex hk hj i hst car hPb hjb hS hR
    have hin : j = (xs.map emb).length := by rw [List.length_map]; lia
    refine codeAny_builtin F.entry_min_loop ?_
    rw [Around.under_plainId F.plain_min_loop _]
    show wpAny _ A.in1 (seqItems? (.ref Sd) >>= _) _ _ s
    refine wpAny_bind (wpAny_seqItems hS rfl ?_)
    show wpAny _ A.in1 (tryCatch (pyNext (.ref I)) _ >>= _) _ _ s
    refine wpAny_bind (wpAny_tryCatch (W.W.done s _ _ (hin ▸ hst) fun h' tk hk' => ?_))
    have hS' := hk' Sd _ hSw hS
    show wpAny _ A.in1 (updateSeq Sd (fun _ => #[]) >>= _) _ _ _
    refine wpAny_bind ?_
    refine wpAny_updateSeq hS' rfl (wpAny_bind (wpAny_letGo (wpAny_pure ?_)))
    have kk : ∀ b o, b ∉ [I, Sd] → s.heap.get? b = some o → (h'.update Sd (Obj.mapSeq fun _ => #[])).get? b = some o := fun b o hb' e => by
      (first | replace hb' := nmem2 hb' | simp only [List.mem_cons, List.not_mem_nil, or_false, not_or] at hb')
      exact (Heap.get?_update_other _ _ (Ne.symm hb'.2)).trans (hk' b o (by simpa using hb'.1) e)
    refine hR vb _ (kx s _ tk i kk) ?_
    rw [List.drop_of_length_le (by lia)]
    obtain ⟨d, e1, q⟩ := W.val _ _ (car.step kk ndI) jb vb hPb
    rw [List.getElem?_map, hjb] at e1; cases e1
    exact q
  | succ m ih =>
    intro j s vb jb b c ex hk hj i hst car hPb hjb hS hR
    have hlt : j < xs.length := by lia
    refine codeAny_builtin F.entry_min_loop ?_
    rw [Around.under_plainId F.plain_min_loop _]
    show wpAny _ A.in1 (seqItems? (.ref Sd) >>= _) _ _ s
    refine wpAny_bind (wpAny_seqItems hS rfl ?_)
    show wpAny _ A.in1 (tryCatch (pyNext (.ref I)) _ >>= _) _ _ s
    refine wpAny_bind (wpAny_tryCatch (W.W.item j s _ _ (by rw [List.length_map]; exact hlt) hst fun v h' tk hP hst' hk' => ?_))
    have hS' := hk' Sd _ hSw hS
    have kk1 : ∀ b o, b ∉ [I, Sd] → s.heap.get? b = some o → h'.get? b = some o := fun b o hb' e => by
      (first | replace hb' := nmem2 hb' | simp only [List.mem_cons, List.not_mem_nil, or_false, not_or] at hb')
      exact hk' b o (by simpa using hb'.1) e
    have car1 := car.step kk1 ndI
    obtain ⟨d1, e1, q1⟩ := W.val _ _ car1 j v hP
    rw [List.getElem?_map, List.getElem?_eq_getElem hlt] at e1; cases e1
    obtain ⟨d2, e2, q2⟩ := W.val _ _ car1 jb vb hPb
    rw [List.getElem?_map, hjb] at e2; cases e2
    have hd : xs.drop j = xs[j] :: xs.drop (j + 1) := List.drop_eq_getElem_cons hlt
    have k1 := kx s h' tk i kk1
    show wpAny _ A.in1 (tryCatch (holding [v, v] (richCompare .Lt v vb >>= _)) _ >>= _) _ _ _
    refine wpAny_bind (wpAny_tryCatch (wpAny_holding (wpAny_bind (e.lts pg w A.in1 { s with heap := h', toks := tk } ad v vb xs[j] b _ _ hu q1 q2 ?_))))
    refine wpAny_bind (wpAny_holding (wpAny_truthy_bool ?_))
    refine wpAny_bind (wpAny_letGo (wpAny_pure ?_))
    have fS : ∀ (f : Array Value → Array Value), S (j + 1) (h'.update Sd (Obj.mapSeq f)) := fun f => W.W.frame _ _ _ hst' fun b hbf o e => (Heap.get?_update_other _ _ (fun h : Sd = b => hSf (by rw [h]; exact hbf))).trans e
    cases hc : lt xs[j] b with
    | true =>
      simp only [if_true]
      refine wpAny_bind ?_
      refine wpAny_updateSeq hS' rfl (wpAny_bind (wpAny_letGo ?_))
      rw [hname]
      have kk2 : ∀ b o, b ∉ [I, Sd] → s.heap.get? b = some o → (h'.update Sd (Obj.mapSeq fun _ => #[v, v])).get? b = some o := fun b o hb' e => by
        have q := kk1 b o hb' e
        (first | replace hb' := nmem2 hb' | simp only [List.mem_cons, List.not_mem_nil, or_false, not_or] at hb')
        exact (Heap.get?_update_other _ _ (Ne.symm hb'.2)).trans q
      have k2 := kx s _ tk i kk2
      refine wpAny_pure ⟨plainId_quiet F.plain_min_loop _, ih (j + 1) _ v j xs[j] _ _ (by lia) hlt (k2.inv i hbX) (fS _) (car.step kk2 ndI) hP (List.getElem?_eq_getElem hlt) (Heap.get?_update_self _ hS' rfl)
        fun v' s'' hk'' hr => ?_⟩
      refine hR v' s'' (k2.trans hk'') ?_
      rw [hd]
      unfold minBy at hr ⊢
      rw [List.foldl_cons, if_pos (by first | exact hc)]
      exact hr
    | false =>
      simp only [Bool.false_eq_true, if_false]
      refine wpAny_bind (wpAny_letGo ?_)
      rw [hname]
      refine wpAny_pure ⟨plainId_quiet F.plain_min_loop _, ih (j + 1) _ vb jb b c _ (by lia) hlt (k1.inv i hbX) hst' car1 hPb hjb hS' fun v' s'' hk'' hr => ?_⟩
      refine hR v' s'' (k1.trans hk'') ?_
      rw [hd]
      unfold minBy at hr ⊢
      rw [List.foldl_cons, if_neg (by rw [hc]; decide)]
      exact hr

theorem min_first {α : Type} [DecidableEq α] {k : Nat} {emb : α → D} {lt : α → α → Bool} (e : OrdT k emb lt) {I : Addr} {fp : List Addr} {x : α} {xs : List α} {P : Nat → Value → Prop} {S : Nat → Heap → Prop} {R : Result → Shared → Prop}
    (W : Wk w hb A.in1 ad I fp ((x :: xs).map emb) P S s.heap) (i : Inv w hb s) (hu : A.units + 1 + k < cLine)
    (hR : ∀ v s', KeepsX [I] s s' → Rd s'.heap ad v (emb (minBy lt x xs)) → R (.ok (.ret v)) s') :
    codeAny (model pg w) A (.builtin "min.loop" ⟨[.ref I, .none, .ref s.heap.objs.size], []⟩) R { s with heap := s.heap.push { cls := .type "list", data := .seq #[] } } := by
  generalize hSd : s.heap.objs.size = Sd
  have hSf : Sd ∉ fp := fun hm => by have := W.old _ hm; rw [← hSd] at this; exact Nat.lt_irrefl _ this
  have hSn : s.heap.get? Sd = none := hSd ▸ fresh_none s
  have hSb : hb.get? Sd = none := i.newer (by rw [hSd]; exact Nat.le_refl _)
  have hSw : Sd ∉ [I] := fun h => hSf (W.W.sub _ h)
  have hname : (toString "min" ++ toString ".loop" : String) = "min.loop" := by decide
  have hS : (s.heap.push { cls := .type "list", data := .seq #[] }).get? Sd = some { cls := .type "list", data := .seq #[] } := by rw [← hSd]; exact Heap.get?_push_size _ rfl
  refine codeAny_builtin F.entry_min_loop ?_
  rw [Around.under_plainId F.plain_min_loop _]
  show wpAny _ A.in1 (seqItems? (.ref Sd) >>= _) _ _ _
  refine wpAny_bind (wpAny_seqItems hS rfl ?_)
  show wpAny _ A.in1 (tryCatch (pyNext (.ref I)) _ >>= _) _ _ _
  refine wpAny_bind (wpAny_tryCatch (W.W.item 0 _ _ _ (by simp) (W.W.frame _ _ _ W.st fun b _ o e => Heap.get?_push_of_some _ e) fun v h' tk hP hst' hk' => ?_))
  have hS' := hk' Sd _ hSw hS
  show wpAny _ A.in1 (updateSeq Sd (fun _ => #[v, v]) >>= _) _ _ _
  refine wpAny_bind ?_
  refine wpAny_updateSeq hS' rfl ?_
  rw [hname]
  have kk : ∀ b o, b ∉ [I, Sd] → s.heap.get? b = some o → (h'.update Sd (Obj.mapSeq fun _ => #[v, v])).get? b = some o := fun b o hb' e => by
    (first | replace hb' := nmem2 hb' | simp only [List.mem_cons, List.not_mem_nil, or_false, not_or] at hb')
    exact (Heap.get?_update_other _ _ (Ne.symm hb'.2)).trans (hk' b o (by simpa using hb'.1) (Heap.get?_push_of_some _ e))
  have kk' : ∀ b o, b ∉ [I] → s.heap.get? b = some o → (h'.update Sd (Obj.mapSeq fun _ => #[v, v])).get? b = some o := fun b o hb' e => by
    have hbS : b ≠ Sd := fun q => by (first | exact nSg q hSn e | cases sEg q hSn e | (rw [q, hSn] at e; cases e))
    exact (Heap.get?_update_other _ _ (Ne.symm hbS)).trans (hk' b o hb' (Heap.get?_push_of_some _ e))
  have kI : KeepsX [I] s { s with heap := h'.update Sd (Obj.mapSeq fun _ => #[v, v]), toks := tk } := keepsI i.bs W.new kk'
  obtain ⟨oI, vI, eI, dI⟩ := W.obj 0 _ W.st
  refine wpAny_pure ⟨plainId_quiet F.plain_min_loop _, min_loop e W Sd hSf hSn hSb hu _ 1 { s with heap := h'.update Sd (Obj.mapSeq fun _ => #[v, v]), toks := tk } v 0 x _ _ rfl (by simp) (kI.inv i (by simpa using W.new))
    (W.W.frame _ _ _ hst' fun b hbf o e => (Heap.get?_update_other _ _ (fun h : Sd = b => hSf (by rw [h]; exact hbf))).trans e) (Car.skip kI i.tab eI dI) hP (by simp) (Heap.get?_update_self _ hS' rfl) fun v' s'' hk'' hr => ?_⟩
  refine hR v' s'' ⟨fun b o hb' e q => ?_, fun t => hk''.tab (kI.tab t), fun t => hk''.bare (kI.bare t), hk''.os.trans kI.os⟩ hr
  have hbS : b ≠ Sd := fun q => by (first | exact nSg q hSn e | cases sEg q hSn e | (rw [q, hSn] at e; cases e))
  exact hk''.get b o (by simp only [List.mem_cons, List.not_mem_nil, or_false, not_or]; exact ⟨by simpa using hb', hbS⟩) (kI.get b o hb' e q) q

theorem Fs.minL {α : Type} [DecidableEq α] {k : Nat} {emb : α → D} {lt : α → α → Bool} (e : OrdT k emb lt) {d : D} {x : α} {xs : List α} (hd : IsL σ d ((x :: xs).map emb)) (hk : autoParam (k ≤ 700) Mine.auD) : Fs w hb n (.builtin "min") [d] σ (emb (minBy lt x xs)) := fun A s ad vals rm i o r => by
  obtain ⟨v, rfl, r1⟩ := r.one
  have hname : (toString "min" ++ toString ".loop" : String) = "min.loop" := by decide
  refine call_function_tree F.kind_min F.plain_min F.entry_min (F.args_min1 _) ?_
  show wpAny _ A.in1 (Builtin.Builtins.bindParams "min" ["key", "default"] 0 ⟨[], []⟩ >>= _) _ _ s
  refine wpAny_bind (wpAny_of_eq (show Builtin.Builtins.bindParams "min" ["key", "default"] 0 ⟨[], []⟩ = pure [none, none] from rfl) ?_)
  refine wpAny_bind (wpAny_pure ?_)
  refine wpAny_bind (Src.list hd A.in1 s ad v rm.handled i o r1 _ _ fun I fp P S s2 k2 hnew W => ?_)
  refine wpAny_bind (wpAny_newObj_type ?_)
  rw [hname]
  refine wpAny_pure ⟨plainId_quiet F.plain_min_loop _, min_first e W (i.keeps k2) (by have := rm.units' (k := k + 1) (by lia); lia) fun v' s' hk' hr => ?_⟩
  exact ⟨(((KeepsX.of k2).trans hk').drop hnew).nil, hr⟩

theorem Fs.min2 {α : Type} [DecidableEq α] {k : Nat} {emb : α → D} {lt : α → α → Bool} (e : OrdT k emb lt) {x y : α} (hk : autoParam (k ≤ 700) Mine.auD) : Fs w hb n (.builtin "min") [emb x, emb y] σ (emb (minBy lt x [y])) := fun A s ad vals rm i o r => by
  obtain ⟨a, b, rfl, r1, r2⟩ := r.two
  have hname : (toString "min" ++ toString ".loop" : String) = "min.loop" := by decide
  refine call_function_tree F.kind_min F.plain_min F.entry_min (F.args_min2 _ _) ?_
  show wpAny _ A.in1 (Builtin.Builtins.bindParams "min" ["key", "default"] 0 ⟨[], []⟩ >>= _) _ _ s
  refine wpAny_bind (wpAny_of_eq (show Builtin.Builtins.bindParams "min" ["key", "default"] 0 ⟨[], []⟩ = pure [none, none] from rfl) ?_)
  show wpAny _ A.in1 (newTuple [a, b] >>= _) _ _ s
  refine wpAny_bind (wpAny_newObj_type ?_)
  have k1 : Keeps s { s with heap := s.heap.push { cls := .type "tuple", data := .seq #[a, b] } } := kPush _ _
  have rt := rd_newTuple (s := s) (vs := [a, b]) (ds := [emb x, emb y]) (.cons r1 (.cons r2 .nil)) o
  refine wpAny_bind (Src.tup (σ := σ) A.in1 { s with heap := s.heap.push { cls := .type "tuple", data := .seq #[a, b] } } ad _ rm.handled (i.keeps k1) (o.keeps k1.heap) rt _ _ fun I fp P S s2 k2 hnew W => ?_)
  refine wpAny_bind (wpAny_newObj_type ?_)
  rw [hname]
  refine wpAny_pure ⟨plainId_quiet F.plain_min_loop _, min_first (x := x) (xs := [y]) e W ((i.keeps k1).keeps k2) (by have := rm.units' (k := k + 1) (by lia); lia) fun v' s' hk' hr => ?_⟩
  exact ⟨(((KeepsX.of (kTrans k1 k2)).trans hk').drop (k1.heap.fresh i.tab hnew)).nil, hr⟩

theorem max_loop {α : Type} [DecidableEq α] {k : Nat} {emb : α → D} {lt : α → α → Bool} (e : OrdT k emb lt) {I : Addr} {fp : List Addr} {xs : List α} {P : Nat → Value → Prop} {S : Nat → Heap → Prop} {h0 : Heap} {R : Result → Shared → Prop}
    (W : Wk w hb A.in1 ad I fp (xs.map emb) P S h0) (Sd : Addr) (hSf : Sd ∉ fp) (hSn : h0.get? Sd = none) (hSb : hb.get? Sd = none) (hu : A.units + 1 + k < cLine) :
    ∀ (m j : Nat) (s : Shared) (vb : Value) (jb : Nat) (b : α) (c : Nat) (ex : List Addr), xs.length - j = m → j ≤ xs.length → Inv w hb s → S j s.heap → Car h0 s.heap ad ad ex → P jb vb → xs[jb]? = some b →
    s.heap.get? Sd = some { cls := .type "list", dict := none, data := .seq #[vb, vb] c, slots := #[] } →
    (∀ v s', KeepsX [I, Sd] s s' → Rd s'.heap ad v (emb (maxBy lt b (xs.drop j))) → R (.ok (.ret v)) s') →
    codeAny (model pg w) A (.builtin "max.loop" ⟨[.ref I, .none, .ref Sd], []⟩) R s := by
  have hSw : Sd ∉ [I] := fun h => hSf (W.W.sub _ h)
  have hISd : I ≠ Sd := fun q => hSw (by simp [q])
  have hname : (toString "max" ++ toString ".loop" : String) = "max.loop" := by decide
  have ndI : ∀ b ∈ [I, Sd], b ∈ ad ∨ ((∀ o, h0.get? b = some o → ∀ vs n, o.data ≠ .seq vs n) ∧ ∀ t, ¬ h0.Ns b (accNs t)) := by
    intro b hm
    replace hm := mem2f hm
    rcases hm with rfl | rfl
    · obtain ⟨o, vs, q1, q2⟩ := W.obj 0 _ W.st
      exact .inr (nd_fields q1 q2)
    · exact .inr (fresh_nd hSn)
  have kx : ∀ (s : Shared) (h' : Heap) (tk : Nat), Inv w hb s → (∀ b o, b ∉ [I, Sd] → s.heap.get? b = some o → h'.get? b = some o) → KeepsX [I, Sd] s { s with heap := h', toks := tk } := fun s h' tk i kk =>
    ⟨fun b o hb' e _ => kk b o hb' e, tabKeeps fun b o q e => kk b o (fun hm => by
      have hn : hb.get? b = none := by
        replace hm := mem2f hm
        rcases hm with rfl | rfl
        · exact W.new
        · exact hSb
      rcases q with rfl | rfl
      · (first | exact nS i.bs.tbl hn | exact nS hn i.bs.tbl | exact nD i.bs.tbl hn | exact nD hn i.bs.tbl | cases sE i.bs.tbl hn | (rw [i.bs.tbl] at hn; cases hn))
      · (first | exact nS (i.bs.k 173 _ rfl) hn | exact nS hn (i.bs.k 173 _ rfl) | exact nD (i.bs.k 173 _ rfl) hn | exact nD hn (i.bs.k 173 _ rfl) | cases sE (i.bs.k 173 _ rfl) hn | (rw [i.bs.k 173 _ rfl] at hn; cases hn))) e, id, rfl⟩
  have hbX : ∀ b ∈ [I, Sd], hb.get? b = none := fun b hm => by
    replace hm := mem2f hm
    rcases hm with rfl | rfl
    · exact W.new
    · exact hSb
  intro m
  induction m with
  | zero =>
    intro j s vb jb b c ex hk hj i hst car hPb hjb hS hR
    have hin : j = (xs.map emb).length := by rw [List.length_map]; lia
    refine codeAny_builtin F.entry_max_loop ?_
    rw [Around.under_plainId F.plain_max_loop _]
    show wpAny _ A.in1 (seqItems? (.ref Sd) >>= _) _ _ s
    refine wpAny_bind (wpAny_seqItems hS rfl ?_)
    show wpAny _ A.in1 (tryCatch (pyNext (.ref I)) _ >>= _) _ _ s
    refine wpAny_bind (wpAny_tryCatch (W.W.done s _ _ (hin ▸ hst) fun h' tk hk' => ?_))
    have hS' := hk' Sd _ hSw hS
    show wpAny _ A.in1 (updateSeq Sd (fun _ => #[]) >>= _) _ _ _
    refine wpAny_bind ?_
    refine wpAny_updateSeq hS' rfl (wpAny_bind (wpAny_letGo (wpAny_pure ?_)))
    have kk : ∀ b o, b ∉ [I, Sd] → s.heap.get? b = some o → (h'.update Sd (Obj.mapSeq fun _ => #[])).get? b = some o := fun b o hb' e => by
      (first | replace hb' := nmem2 hb' | simp only [List.mem_cons, List.not_mem_nil, or_false, not_or] at hb')
      exact (Heap.get?_update_other _ _ (Ne.symm hb'.2)).trans (hk' b o (by simpa using hb'.1) e)
    refine hR vb _ (kx s _ tk i kk) ?_
    rw [List.drop_of_length_le (by lia)]
    obtain ⟨d, e1, q⟩ := W.val _ _ (car.step kk ndI) jb vb hPb
    rw [List.getElem?_map, hjb] at e1; cases e1
    exact q
  | succ m ih =>
    intro j s vb jb b c ex hk hj i hst car hPb hjb hS hR
    have hlt : j < xs.length := by lia
    refine codeAny_builtin F.entry_max_loop ?_
    rw [Around.under_plainId F.plain_max_loop _]
    show wpAny _ A.in1 (seqItems? (.ref Sd) >>= _) _ _ s
    refine wpAny_bind (wpAny_seqItems hS rfl ?_)
    show wpAny _ A.in1 (tryCatch (pyNext (.ref I)) _ >>= _) _ _ s
    refine wpAny_bind (wpAny_tryCatch (W.W.item j s _ _ (by rw [List.length_map]; exact hlt) hst fun v h' tk hP hst' hk' => ?_))
    have hS' := hk' Sd _ hSw hS
    have kk1 : ∀ b o, b ∉ [I, Sd] → s.heap.get? b = some o → h'.get? b = some o := fun b o hb' e => by
      (first | replace hb' := nmem2 hb' | simp only [List.mem_cons, List.not_mem_nil, or_false, not_or] at hb')
      exact hk' b o (by simpa using hb'.1) e
    have car1 := car.step kk1 ndI
    obtain ⟨d1, e1, q1⟩ := W.val _ _ car1 j v hP
    rw [List.getElem?_map, List.getElem?_eq_getElem hlt] at e1; cases e1
    obtain ⟨d2, e2, q2⟩ := W.val _ _ car1 jb vb hPb
    rw [List.getElem?_map, hjb] at e2; cases e2
    have hd : xs.drop j = xs[j] :: xs.drop (j + 1) := List.drop_eq_getElem_cons hlt
    have k1 := kx s h' tk i kk1
    show wpAny _ A.in1 (tryCatch (holding [v, v] (richCompare .Gt v vb >>= _)) _ >>= _) _ _ _
    refine wpAny_bind (wpAny_tryCatch (wpAny_holding (wpAny_bind (e.gts pg w A.in1 { s with heap := h', toks := tk } ad v vb xs[j] b _ _ hu q1 q2 ?_))))
    refine wpAny_bind (wpAny_holding (wpAny_truthy_bool ?_))
    refine wpAny_bind (wpAny_letGo (wpAny_pure ?_))
    have fS : ∀ (f : Array Value → Array Value), S (j + 1) (h'.update Sd (Obj.mapSeq f)) := fun f => W.W.frame _ _ _ hst' fun b hbf o e => (Heap.get?_update_other _ _ (fun h : Sd = b => hSf (by rw [h]; exact hbf))).trans e
    cases hc : lt b xs[j] with
    | true =>
      simp only [if_true]
      refine wpAny_bind ?_
      refine wpAny_updateSeq hS' rfl (wpAny_bind (wpAny_letGo ?_))
      rw [hname]
      have kk2 : ∀ b o, b ∉ [I, Sd] → s.heap.get? b = some o → (h'.update Sd (Obj.mapSeq fun _ => #[v, v])).get? b = some o := fun b o hb' e => by
        have q := kk1 b o hb' e
        (first | replace hb' := nmem2 hb' | simp only [List.mem_cons, List.not_mem_nil, or_false, not_or] at hb')
        exact (Heap.get?_update_other _ _ (Ne.symm hb'.2)).trans q
      have k2 := kx s _ tk i kk2
      refine wpAny_pure ⟨plainId_quiet F.plain_max_loop _, ih (j + 1) _ v j xs[j] _ _ (by lia) hlt (k2.inv i hbX) (fS _) (car.step kk2 ndI) hP (List.getElem?_eq_getElem hlt) (Heap.get?_update_self _ hS' rfl)
        fun v' s'' hk'' hr => ?_⟩
      refine hR v' s'' (k2.trans hk'') ?_
      rw [hd]
      unfold maxBy at hr ⊢
      rw [List.foldl_cons, if_pos (by first | exact hc)]
      exact hr
    | false =>
      simp only [Bool.false_eq_true, if_false]
      refine wpAny_bind (wpAny_letGo ?_)
      rw [hname]
      refine wpAny_pure ⟨plainId_quiet F.plain_max_loop _, ih (j + 1) _ vb jb b c _ (by lia) hlt (k1.inv i hbX) hst' car1 hPb hjb hS' fun v' s'' hk'' hr => ?_⟩
      refine hR v' s'' (k1.trans hk'') ?_
      rw [hd]
      unfold maxBy at hr ⊢
      rw [List.foldl_cons, if_neg (by rw [hc]; decide)]
      exact hr

theorem max_first {α : Type} [DecidableEq α] {k : Nat} {emb : α → D} {lt : α → α → Bool} (e : OrdT k emb lt) {I : Addr} {fp : List Addr} {x : α} {xs : List α} {P : Nat → Value → Prop} {S : Nat → Heap → Prop} {R : Result → Shared → Prop}
    (W : Wk w hb A.in1 ad I fp ((x :: xs).map emb) P S s.heap) (i : Inv w hb s) (hu : A.units + 1 + k < cLine)
    (hR : ∀ v s', KeepsX [I] s s' → Rd s'.heap ad v (emb (maxBy lt x xs)) → R (.ok (.ret v)) s') :
    codeAny (model pg w) A (.builtin "max.loop" ⟨[.ref I, .none, .ref s.heap.objs.size], []⟩) R { s with heap := s.heap.push { cls := .type "list", data := .seq #[] } } := by
  generalize hSd : s.heap.objs.size = Sd
  have hSf : Sd ∉ fp := fun hm => by have := W.old _ hm; rw [← hSd] at this; exact Nat.lt_irrefl _ this
  have hSn : s.heap.get? Sd = none := hSd ▸ fresh_none s
  have hSb : hb.get? Sd = none := i.newer (by rw [hSd]; exact Nat.le_refl _)
  have hSw : Sd ∉ [I] := fun h => hSf (W.W.sub _ h)
  have hname : (toString "max" ++ toString ".loop" : String) = "max.loop" := by decide
  have hS : (s.heap.push { cls := .type "list", data := .seq #[] }).get? Sd = some { cls := .type "list", data := .seq #[] } := by rw [← hSd]; exact Heap.get?_push_size _ rfl
  refine codeAny_builtin F.entry_max_loop ?_
  rw [Around.under_plainId F.plain_max_loop _]
  show wpAny _ A.in1 (seqItems? (.ref Sd) >>= _) _ _ _
  refine wpAny_bind (wpAny_seqItems hS rfl ?_)
  show wpAny _ A.in1 (tryCatch (pyNext (.ref I)) _ >>= _) _ _ _
  refine wpAny_bind (wpAny_tryCatch (W.W.item 0 _ _ _ (by simp) (W.W.frame _ _ _ W.st fun b _ o e => Heap.get?_push_of_some _ e) fun v h' tk hP hst' hk' => ?_))
  have hS' := hk' Sd _ hSw hS
  show wpAny _ A.in1 (updateSeq Sd (fun _ => #[v, v]) >>= _) _ _ _
  refine wpAny_bind ?_
  refine wpAny_updateSeq hS' rfl ?_
  rw [hname]
  have kk : ∀ b o, b ∉ [I, Sd] → s.heap.get? b = some o → (h'.update Sd (Obj.mapSeq fun _ => #[v, v])).get? b = some o := fun b o hb' e => by
    (first | replace hb' := nmem2 hb' | simp only [List.mem_cons, List.not_mem_nil, or_false, not_or] at hb')
    exact (Heap.get?_update_other _ _ (Ne.symm hb'.2)).trans (hk' b o (by simpa using hb'.1) (Heap.get?_push_of_some _ e))
  have kk' : ∀ b o, b ∉ [I] → s.heap.get? b = some o → (h'.update Sd (Obj.mapSeq fun _ => #[v, v])).get? b = some o := fun b o hb' e => by
    have hbS : b ≠ Sd := fun q => by (first | exact nSg q hSn e | cases sEg q hSn e | (rw [q, hSn] at e; cases e))
    exact (Heap.get?_update_other _ _ (Ne.symm hbS)).trans (hk' b o hb' (Heap.get?_push_of_some _ e))
  have kI : KeepsX [I] s { s with heap := h'.update Sd (Obj.mapSeq fun _ => #[v, v]), toks := tk } := keepsI i.bs W.new kk'
  obtain ⟨oI, vI, eI, dI⟩ := W.obj 0 _ W.st
  refine wpAny_pure ⟨plainId_quiet F.plain_max_loop _, max_loop e W Sd hSf hSn hSb hu _ 1 { s with heap := h'.update Sd (Obj.mapSeq fun _ => #[v, v]), toks := tk } v 0 x _ _ rfl (by simp) (kI.inv i (by simpa using W.new))
    (W.W.frame _ _ _ hst' fun b hbf o e => (Heap.get?_update_other _ _ (fun h : Sd = b => hSf (by rw [h]; exact hbf))).trans e) (Car.skip kI i.tab eI dI) hP (by simp) (Heap.get?_update_self _ hS' rfl) fun v' s'' hk'' hr => ?_⟩
  refine hR v' s'' ⟨fun b o hb' e q => ?_, fun t => hk''.tab (kI.tab t), fun t => hk''.bare (kI.bare t), hk''.os.trans kI.os⟩ hr
  have hbS : b ≠ Sd := fun q => by (first | exact nSg q hSn e | cases sEg q hSn e | (rw [q, hSn] at e; cases e))
  exact hk''.get b o (by simp only [List.mem_cons, List.not_mem_nil, or_false, not_or]; exact ⟨by simpa using hb', hbS⟩) (kI.get b o hb' e q) q

theorem Fs.maxL {α : Type} [DecidableEq α] {k : Nat} {emb : α → D} {lt : α → α → Bool} (e : OrdT k emb lt) {d : D} {x : α} {xs : List α} (hd : IsL σ d ((x :: xs).map emb)) (hk : autoParam (k ≤ 700) Mine.auD) : Fs w hb n (.builtin "max") [d] σ (emb (maxBy lt x xs)) := fun A s ad vals rm i o r => by
  obtain ⟨v, rfl, r1⟩ := r.one
  have hname : (toString "max" ++ toString ".loop" : String) = "max.loop" := by decide
  refine call_function_tree F.kind_max F.plain_max F.entry_max (F.args_max1 _) ?_
  show wpAny _ A.in1 (Builtin.Builtins.bindParams "max" ["key", "default"] 0 ⟨[], []⟩ >>= _) _ _ s
  refine wpAny_bind (wpAny_of_eq (show Builtin.Builtins.bindParams "max" ["key", "default"] 0 ⟨[], []⟩ = pure [none, none] from rfl) ?_)
  refine wpAny_bind (wpAny_pure ?_)
  refine wpAny_bind (Src.list hd A.in1 s ad v rm.handled i o r1 _ _ fun I fp P S s2 k2 hnew W => ?_)
  refine wpAny_bind (wpAny_newObj_type ?_)
  rw [hname]
  refine wpAny_pure ⟨plainId_quiet F.plain_max_loop _, max_first e W (i.keeps k2) (by have := rm.units' (k := k + 1) (by lia); lia) fun v' s' hk' hr => ?_⟩
  exact ⟨(((KeepsX.of k2).trans hk').drop hnew).nil, hr⟩
end
end Mine
end

section
open PySem PySem.W PySem.Calls PyProof.Rows PySem.SeqAt
open AutoSeq1 (wpAny_loadPart')
set_option Elab.async false
set_option tactic.hygienic false
set_option linter.unusedVariables false
set_option maxRecDepth 100000
namespace Mine
/-! map -/
theorem owner_map : Manifest.owners.lookup (String.ofList ['p', 'a', 'm'].reverse) = some Manifest.sig_map := by kernel_rfl
theorem slot_map_iter : Slot "map" "__iter__" "map.__iter__" :=
  .of (owner := "map") (n := "__iter__") (by rw [typeLookup_type, builtinLookup_eq_fast]; kernel_rfl) (by decide +kernel) (by decide +kernel) (by decide +kernel)
    (by first | exact .inl (by decide +kernel) | exact .inr (by decide +kernel)) (by rw [isSubtype_type]; kernel_rfl)
theorem args_map_iter_1 (a : Value) : argsOk "map.__iter__" ⟨[a], []⟩ := by
  unfold argsOk; rw [signature?_of (id := "map.__iter__") (n := ['_', '_', 'r', 'e', 't', 'i', '_', '_']) (o := ['p', 'a', 'm']) (by kernel_rfl) owner_map]; kernel_rfl
theorem slot_map_next : Slot "map" "__next__" "map.__next__" :=
  .of (owner := "map") (n := "__next__") (by rw [typeLookup_type, builtinLookup_eq_fast]; kernel_rfl) (by decide +kernel) (by decide +kernel) (by decide +kernel)
    (by first | exact .inl (by decide +kernel) | exact .inr (by decide +kernel)) (by rw [isSubtype_type]; kernel_rfl)
theorem entry_map_next : entryFor table "map.__next__" = some Builtin.«map.__next__» := entryFor_of_tree (by kernel_rfl)
theorem args_map_next_1 (a : Value) : argsOk "map.__next__" ⟨[a], []⟩ := by
  unfold argsOk; rw [signature?_of (id := "map.__next__") (n := ['_', '_', 't', 'x', 'e', 'n', '_', '_']) (o := ['p', 'a', 'm']) (by kernel_rfl) owner_map]; kernel_rfl
theorem entry_map_iter : entryFor table "map.__iter__" = some Builtin.«dict_keyiterator.__iter__» :=
  entryFor_alias (id' := "dict_keyiterator.__iter__") (by kernel_rfl) (by first | rfl | decide +kernel | (unfold String.splitOn; simp +decide [String.splitOnAux])) (by decide +kernel) (by kernel_rfl)
theorem slot_map_init : Slot "map" "__init__" "object.__init__" :=
  .of (owner := "object") (n := "__init__") (by rw [typeLookup_type, builtinLookup_eq_fast]; kernel_rfl) (by decide +kernel) (by decide +kernel) (by decide +kernel)
    (by first | exact .inl (by decide +kernel) | exact .inr (by decide +kernel)) (by rw [isSubtype_type]; kernel_rfl)
theorem mro_map : mroOf (.type "map") = pure [.type "map", .type "object"] := by rw [mroOf_type]; kernel_rfl
theorem lookup_map_new : typeLookup (.type "map") "__new__" = pure (some (.builtin "map.__new__")) := by rw [typeLookup_type, builtinLookup_eq_fast]; kernel_rfl
theorem called_map : TypeCalled "map" "map.__new__" "object.__init__" :=
  ⟨by decide +kernel, by decide +kernel, ⟨_, _, mro_map⟩, madeBy_type mro_map lookup_map_new (by decide +kernel), by decide +kernel, by rw [isSubtype_type]; kernel_rfl, slot_map_init⟩
theorem typeCall_map_2 (a b : Value) : checkTypeCall "map" ⟨[a, b], []⟩ = pure () := by kernel_rfl
theorem newCall_map_2 (a b : Value) : checkBuiltinCall "map.__new__" ⟨[.type "map", a, b], []⟩ = pure () := by kernel_rfl
theorem entry_map_new : entryFor table "map.__new__" = some Builtin.«map.__new__» := entryFor_of_tree (by kernel_rfl)
theorem sub_map : isSubtype (.type "map") (.type "map") = pure true := by rw [isSubtype_type]; kernel_rfl
theorem nolen_map : typeLookup (.type "map") "__len__" = pure none := by rw [typeLookup_type, builtinLookup_eq_fast]; kernel_rfl
theorem nohint_map : typeLookup (.type "map") "__length_hint__" = pure none := by rw [typeLookup_type, builtinLookup_eq_fast]; kernel_rfl

noncomputable abbrev IsMap (h : Heap) (m t : Addr) (f : Value) : Prop := h.get? m = some { cls := .type "map", dict := none, data := .fields #[.ref t, f], slots := #[] }

theorem meets_map_new (f : Value) (l : Addr) (items : Array Value) (n : Nat) (dct : Option Addr) (sl : Array (Option Value)) :
    Meets (Builtin.«map.__new__» ⟨[.type "map", f, .ref l], []⟩) (fun _ R s => s.heap.get? l = some { cls := .type "list", dict := dct, data := .seq items n, slots := sl } ∧
      R (.ok (.ret (.ref (s.heap.objs.size + 2))))
        { s with heap := ((s.heap.push { cls := .type "list_iterator", data := .fields #[.ref l, .int 0 0] }).push { cls := .type "tuple", data := .seq #[.ref s.heap.objs.size] }).push { cls := .type "map", data := .fields #[.ref (s.heap.objs.size + 1), f] } }) :=
  .of_wp fun prog w A R s h => by
    obtain ⟨hp, g, d, tk, os⟩ := s; obtain ⟨hl, h⟩ := h
    have hsub := sub_map
    have hL : Heap.IsList (Shared.heap ⟨hp, g, d, tk, os⟩) l items := ⟨_, hl, rfl, n, rfl⟩
    wp_walk using wpAny_pyIter_list hL
    simp only [Heap.size_push]
    exact ⟨_, rfl, h⟩

section
variable {prog : Program} {w : World} {A : Around} {E : Value → Shared → Prop} {s : Shared}
theorem map_next_item {m t I l : Addr} {f x : Value} {i : Nat} {items : Array Value} {ot : Obj} {nt : Nat} {Q : Value → Shared → Prop}
    (hm : IsMap s.heap m t f) (ht : s.heap.get? t = some ot) (hdt : ot.data = .seq #[.ref I] nt) (hit : s.heap.IsListIter I l i) (hl : s.heap.IsList l items) (hx : items[i]? = some x) (hne : m ≠ I)
    (hQ : ∀ h', h'.IsListIter I l (i + 1) → Heap.SameBut I s.heap h' → wpAny (model prog w) A (call f [x]) Q E { s with heap := h' }) :
    wpAny (model prog w) A (Builtin.«map.__next__» ⟨[.ref m], []⟩) (fun fin s' => ∃ v, fin = .done (.ret v) ∧ Q v s') E s := by
  obtain ⟨hp, g, d, tk, os⟩ := s
  show wpAny _ _ (field (.ref m) 0 >>= _) _ _ _
  refine wpAny_bind (wpAny_field hm rfl (x := .ref t) rfl ?_)
  show wpAny _ _ (seqItems? (.ref t) >>= _) _ _ _
  refine wpAny_bind (wpAny_seqItems ht hdt ?_)
  simp only []
  rw [← Array.forIn_toList]
  simp only [List.forIn_cons, List.forIn_nil]
  refine wpAny_bind (wpAny_bind (wpAny_bind (wpAny_holding (wpAny_nextOf_list_item hit hl hx fun h' hit' hs' => ?_))))
  refine wpAny_pure (wpAny_pure ?_)
  have hm' : IsMap h' m t f := (hs'.2 m hne).trans hm
  show wpAny _ _ (field (.ref m) 1 >>= _) _ _ _
  refine wpAny_bind (wpAny_field hm' rfl (x := f) rfl ?_)
  refine wpAny_bind (wpAny_holding (wpAny_mono (hQ h' hit' hs') (fun v s' q => ?_) fun _ _ e => e))
  refine wpAny_bind (wpAny_letGo (wpAny_pure ⟨v, rfl, q⟩))
theorem map_next_end {m t I l : Addr} {f : Value} {i : Nat} {items : Array Value} {ot : Obj} {nt : Nat} {Q : Fin → Shared → Prop} (hh : A.handled = none)
    (hm : IsMap s.heap m t f) (ht : s.heap.get? t = some ot) (hdt : ot.data = .seq #[.ref I] nt) (hit : s.heap.IsListIter I l i) (hl : s.heap.IsList l items) (hx : items[i]? = none)
    (hE : ∀ h' e, Heap.ExtBut I s.heap h' → (∃ o, h'.get? e = some o ∧ o.cls = .type "StopIteration") → E (.ref e) { s with heap := h' }) :
    wpAny (model prog w) A (Builtin.«map.__next__» ⟨[.ref m], []⟩) Q E s := by
  obtain ⟨hp, g, d, tk, os⟩ := s
  show wpAny _ _ (field (.ref m) 0 >>= _) _ _ _
  refine wpAny_bind (wpAny_field hm rfl (x := .ref t) rfl ?_)
  show wpAny _ _ (seqItems? (.ref t) >>= _) _ _ _
  refine wpAny_bind (wpAny_seqItems ht hdt ?_)
  simp only []
  rw [← Array.forIn_toList]
  simp only [List.forIn_cons, List.forIn_nil]
  exact wpAny_bind (wpAny_bind (wpAny_bind (wpAny_holding (wpAny_nextOf_list_end hh hit hl hx hE))))
theorem pyNext_map_item {m t I l : Addr} {f x : Value} {i : Nat} {items : Array Value} {ot : Obj} {nt : Nat} {Q : Option Value → Shared → Prop}
    (hm : IsMap s.heap m t f) (ht : s.heap.get? t = some ot) (hdt : ot.data = .seq #[.ref I] nt) (hit : s.heap.IsListIter I l i) (hl : s.heap.IsList l items) (hx : items[i]? = some x) (hne : m ≠ I)
    (hQ : ∀ h', h'.IsListIter I l (i + 1) → Heap.SameBut I s.heap h' → wpAny (model prog w) A.in1 (call f [x]) (fun v s' => Q (some v) s') (fun _ _ => False) { s with heap := h' }) :
    wpAny (model prog w) A (pyNext (.ref m)) Q E s := by
  have hT : s.TypeIs (.ref m) "map" := ⟨_, hm, rfl⟩
  unfold pyNext
  refine wpAny_bind (wpAny_attempt (wpAny_callSpecial?_slot (name := Str.ofString "__next__") hT slot_map_next
    (wpAny_call_entry slot_map_next hT entry_map_next ?_ (args_map_next_1 _))))
  refine wpAny_mono (map_next_item (Q := fun v s' => Q (some v) s') (E := fun _ _ => False) hm ht hdt hit hl hx hne hQ) (fun fin s' q => ?_) fun _ _ f => f.elim
  obtain ⟨v, rfl, q⟩ := q
  exact ⟨v, rfl, wpAny_pure q⟩
theorem pyNext_map_end {m t I l : Addr} {f : Value} {i : Nat} {items : Array Value} {ot : Obj} {nt : Nat} {Q : Option Value → Shared → Prop} (hh : A.handled = none)
    (hm : IsMap s.heap m t f) (ht : s.heap.get? t = some ot) (hdt : ot.data = .seq #[.ref I] nt) (hit : s.heap.IsListIter I l i) (hl : s.heap.IsList l items) (hx : items[i]? = none)
    (hQ : ∀ h', Heap.ExtBut I s.heap h' → Q none { s with heap := h' }) :
    wpAny (model prog w) A (pyNext (.ref m)) Q E s := by
  have hT : s.TypeIs (.ref m) "map" := ⟨_, hm, rfl⟩
  unfold pyNext
  refine wpAny_bind (wpAny_attempt (wpAny_callSpecial?_slot (name := Str.ofString "__next__") hT slot_map_next
    (wpAny_call_entry slot_map_next hT entry_map_next ?_ (args_map_next_1 _))))
  refine map_next_end (by exact hh) hm ht hdt hit hl hx fun h' e he ⟨o, ho, hc⟩ => ?_
  refine wpAny_bind (wpAny_isInstance (T := "StopIteration") (b := true) ⟨o, ho, hc⟩ isSubtype_stop ?_)
  exact wpAny_pure (hQ h' he)
theorem pyIter_map {m t : Addr} {f : Value} {Q : Value → Shared → Prop} (hm : IsMap s.heap m t f) (h : Q (.ref m) s) : wpAny (model prog w) A (pyIter (.ref m)) Q E s := by
  have hT : s.TypeIs (.ref m) "map" := ⟨_, hm, rfl⟩
  refine wpAny_pyIter_slot hT slot_map_iter (wpAny_call_entry slot_map_iter hT entry_map_iter ?_ (args_map_iter_1 _))
  show wpAny _ _ (ret (.ref m)) _ _ s
  exact wpAny_pure ⟨_, rfl, "map", _, hT, slot_map_next.lookup, h⟩
end
end Mine
end

section
open PySem PySem.W PySem.Calls PyProof.Rows PySem.SeqAt
open AutoSeq1 (wpAny_loadPart')
set_option Elab.async false
set_option tactic.hygienic false
set_option linter.unusedVariables false
set_option maxRecDepth 100000
namespace Mine
section
variable {w : World} {hb : Heap} {n : Nat} {A A' : Around} {env : Env} {ls ls' fls : List (Str × D)} {σ : List Ob} {ad : List Addr} {s s' : Shared} {E : Value → Shared → Prop}
theorem RdAll.strs {h h' : Heap} {ad ad' : List Addr} {vs : List Value} {xs : List Str} (r : RdAll h ad vs (xs.map .str)) : RdAll h' ad' vs (xs.map .str) :=
  RdAll.ind (P := fun vs ds => ∀ xs : List Str, ds = xs.map .str → RdAll h' ad' vs ds) (fun _ _ => .nil) (fun h1 _ ih xs e => by
    cases xs with
    | nil => cases e
    | cons x xs =>
      obtain ⟨e1, e2⟩ := List.cons.inj e
      obtain ⟨t, rfl⟩ := (e1 ▸ h1).toS
      exact e1 ▸ .cons (.str _ _) (ih xs e2)) r xs rfl
theorem Rm.near {h : Heap} (r : Rm hb (n + 1) A h) (h1 : A'.handled = A.handled) (h2 : A'.depth ≤ A.depth + 1) (h3 : A'.units ≤ A.units + 20) (h4 : A'.frames = A.frames) : Rm hb n A' h := by
  refine ⟨h1.trans r.handled, ?_, ?_, h4 ▸ r.frames⟩
  · have := r.depth; lia
  · have := r.units; lia

theorem Rm.near' {h : Heap} (r : Rm hb n A h) (h1 : A'.handled = A.handled) (h2 : A'.depth = A.depth) (h3 : A'.units ≤ A.units) (h4 : A'.frames = A.frames) : Rm hb n A' h := by
  refine ⟨h1.trans r.handled, ?_, ?_, h4 ▸ r.frames⟩
  · have := r.depth; lia
  · have := r.units; lia
theorem extend_map {m t I l S : Addr} {f : Value} {g : Str → Str} {xs : List Str} {items : Array Value} {ot : Obj} {nt : Nat} {s₀ : Shared} {R : Result → Shared → Prop}
    (hf : ∀ x ∈ xs, Fs w hb n f [.str x] σ (.str (g x))) (rm : Rm hb n A.in1.in1 s₀.heap) (hh : A.in1.in1.handled = none) (i0 : Inv w hb s₀) (o0 : Own hb σ ad s₀.heap) (hl : s₀.heap.IsList l items) (hr : RdAll s₀.heap ad items.toList (xs.map .str))
    (fI : s₀.heap.get? I = none) (fm : s₀.heap.get? m = none) (ft : s₀.heap.get? t = none) (fS : s₀.heap.get? S = none) (hmI : m ≠ I) (hmS : m ≠ S) (htI : t ≠ I) (htS : t ≠ S) (hIS : I ≠ S) (hsz : xs.length ≤ 16777216)
    (nt1 : hb.get? I = none) (nt2 : hb.get? m = none) (nt3 : hb.get? t = none) (nt4 : hb.get? S = none) :
    ∀ (k i : Nat) (s : Shared) (acc : Array Value) (c : Nat), items.size - i = k → i ≤ items.size → Keeps s₀ s → IsMap s.heap m t f → s.heap.get? t = some ot → ot.data = .seq #[.ref I] nt → s.heap.IsListIter I l i →
      s.heap.get? S = some { cls := .type "list", dict := none, data := .seq acc c, slots := #[] } → acc.size = i → RdAll s.heap ad acc.toList ((xs.take i).map fun x => .str (g x)) →
      (∀ s' acc' c', Keeps s₀ s' → s'.heap.get? S = some { cls := .type "list", dict := none, data := .seq acc' c', slots := #[] } → acc'.size = items.size → RdAll s'.heap ad acc'.toList (xs.map fun x => .str (g x)) → R (.ok (.ret (.ref S))) s') →
      codeAny (model pg w) A (.builtin "list.extend.loop" ⟨[.ref S, .ref m, .ref S], []⟩) R s := by
  have l1 := hr.length
  rw [Array.length_toList, List.length_map] at l1
  intro k
  induction k with
  | zero =>
    intro i s acc c hk hi ks hm ht hdt hit hS hacc hrd hR
    have hin : i = items.size := by lia
    refine codeAny_builtin F.entry_extend_loop ?_
    rw [Around.under_plainId F.plain_extend_loop _]
    show wpAny _ A.in1 (pyNext (.ref m) >>= _) _ _ s
    have hl' : s.heap.IsList l items := by
      obtain ⟨o, e, hc, n', hd⟩ := hl
      exact ⟨o, ks.heap.seq e hd, hc, n', hd⟩
    refine wpAny_bind (pyNext_map_end hh hm ht hdt hit hl' (by simp; lia) fun h' he => ?_)
    refine wpAny_pure (hR _ acc c ?_ (he S _ (Ne.symm hIS) hS) (by lia) ?_)
    · refine ⟨⟨fun b o e q => he b o (fun q' => by (first | exact nSg q' fI e | cases sEg q' fI e | (rw [q', fI] at e; cases e))) (ks.heap.get b o e q), fun tt => ?_⟩, ks.bare, ks.os⟩
      refine tabKeeps (fun b o q e => he b o (fun q' => ?_) e) (ks.heap.tab tt)
      rcases q with rfl | rfl
      · rw [← q', i0.bs.tbl] at nt1; cases nt1
      · rw [← q', i0.bs.k 173 _ rfl] at nt1; cases nt1
    · rw [List.take_of_length_le (by lia)] at hrd
      rw [show (xs.map fun x => D.str (g x)) = (xs.map g).map D.str by rw [List.map_map]; rfl] at hrd ⊢
      exact hrd.strs
  | succ k ih =>
    intro i s acc c hk hi ks hm ht hdt hit hS hacc hrd hR
    have hlt : i < items.size := by lia
    refine codeAny_builtin F.entry_extend_loop ?_
    rw [Around.under_plainId F.plain_extend_loop _]
    show wpAny _ A.in1 (pyNext (.ref m) >>= _) _ _ s
    have hl' : s.heap.IsList l items := by
      obtain ⟨o, e, hc, n', hd⟩ := hl
      exact ⟨o, ks.heap.seq e hd, hc, n', hd⟩
    refine wpAny_bind (pyNext_map_item hm ht hdt hit hl' (x := items[i]) (by simp [hlt]) hmI fun h' hit' hs' => ?_)
    have k1 : Keeps s₀ { s with heap := h' } := by
      refine ⟨⟨fun b o e q => hs'.extBut b o (fun q' => by (first | exact nSg q' fI e | cases sEg q' fI e | (rw [q', fI] at e; cases e))) (ks.heap.get b o e q), fun tt => ?_⟩, ks.bare, ks.os⟩
      refine tabKeeps (fun b o q e => hs'.extBut b o (fun q' => ?_) e) (ks.heap.tab tt)
      rcases q with rfl | rfl
      · rw [← q', i0.bs.tbl] at nt1; cases nt1
      · rw [← q', i0.bs.k 173 _ rfl] at nt1; cases nt1
    obtain ⟨d, e1, q1⟩ := hr.get i items[i] (by simp [hlt])
    rw [List.getElem?_map, List.getElem?_eq_getElem (by lia)] at e1; cases e1
    refine wpAny_mono (hf xs[i] (List.getElem_mem (by lia)) _ { s with heap := h' } ad [items[i]] (rm.keeps k1.heap) (i0.keeps k1) (o0.keeps k1.heap) (.cons (q1.keeps k1.heap) .nil)) (fun v s2 q => ?_) fun _ _ f => f.elim
    obtain ⟨k2, rv⟩ := q
    have hS1 : h'.get? S = some { cls := .type "list", dict := none, data := .seq acc c, slots := #[] } := hs'.extBut S _ (Ne.symm hIS) hS
    have hS2 := k2.heap.seq hS1 rfl
    show wpAny _ A.in1 (updateSeq S (·.push v) >>= _) _ _ _
    refine wpAny_bind ?_
    have other : ∀ b o, b ≠ S → s2.heap.get? b = some o → (s2.heap.update S (Obj.mapSeq fun x => x.push v)).get? b = some o := fun b o hb e => (Heap.get?_update_other _ _ (Ne.symm hb)).trans e
    have k3 : Keeps s₀ { s2 with heap := s2.heap.update S (Obj.mapSeq fun x => x.push v) } := by
      have k12 := kTrans k1 k2
      refine ⟨⟨fun b o e q => other b o (fun q' => by (first | exact nSg q' fS e | cases sEg q' fS e | (rw [q', fS] at e; cases e))) (k12.heap.get b o e q), fun tt => ?_⟩, k12.bare, k12.os⟩
      refine tabKeeps (fun b o q e => other b o (fun q' => ?_) e) (k12.heap.tab tt)
      rcases q with rfl | rfl
      · rw [← q', i0.bs.tbl] at nt4; cases nt4
      · rw [← q', i0.bs.k 173 _ rfl] at nt4; cases nt4
    have hm2 : s2.heap.get? m = _ := k2.heap.new i0.bs (hs'.extBut m _ hmI hm) nt2
    have ht2 : s2.heap.get? t = _ := k2.heap.new i0.bs (hs'.extBut t _ htI ht) nt3
    have hit2 : s2.heap.IsListIter I l (i + 1) := by
      obtain ⟨o, e, r⟩ := hit'
      exact ⟨o, k2.heap.new i0.bs e nt1, r⟩
    refine wpAny_updateSeq hS2 rfl (wpAny_pure ⟨plainId_quiet F.plain_extend_loop _, ih (i + 1) _ (acc.push v) _ (by lia) (by lia) k3 (other m _ hmS hm2) (other t _ htS ht2) hdt ?_ (Heap.get?_update_self _ hS2 rfl) (by rw [Array.size_push]; lia) ?_ hR⟩)
      (by rw [hacc]; show i ≤ 16777216; lia) (by show (acc.push v).size ≤ 16777216 + 1; rw [Array.size_push, hacc]; lia)
    · obtain ⟨o, e, r⟩ := hit2
      exact ⟨o, other I _ hIS e, r⟩
    · rw [Array.toList_push, List.take_add_one, List.getElem?_eq_getElem (by lia), Option.toList_some, List.map_append]
      (first | obtain rfl := rv.toV | obtain ⟨t, rfl⟩ := rv.toS | obtain ⟨t, rfl⟩ := rv.toI | obtain rfl := rv.toB | cases rv)
      refine RdAll.append ?_ (.cons (.str _ _) .nil)
      rw [show ((xs.take i).map fun x => D.str (g x)) = ((xs.take i).map g).map D.str by rw [List.map_map]; rfl] at hrd ⊢
      exact hrd.strs

theorem collect_map {m t I l : Addr} {f : Value} {g : Str → Str} {xs : List Str} {items : Array Value} {ot : Obj} {nt : Nat} {s₀ : Shared} {Q : List Value → Shared → Prop}
    (hf : ∀ x ∈ xs, Fs w hb n f [.str x] σ (.str (g x))) (rm : Rm hb n A.in1.in1.in1 s₀.heap) (hh : A.handled = none) (i0 : Inv w hb s₀) (o0 : Own hb σ ad s₀.heap) (hl : s₀.heap.IsList l items) (hr : RdAll s₀.heap ad items.toList (xs.map .str))
    (fI : s₀.heap.get? I = none) (fm : s₀.heap.get? m = none) (ft : s₀.heap.get? t = none) (hmI : m ≠ I) (htI : t ≠ I) (hsz : xs.length ≤ 16777216)
    (nt1 : hb.get? I = none) (nt2 : hb.get? m = none) (nt3 : hb.get? t = none) (ks : Keeps s₀ s) (hm : IsMap s.heap m t f) (ht : s.heap.get? t = some ot) (hdt : ot.data = .seq #[.ref I] nt) (hit : s.heap.IsListIter I l 0)
    (hQ : ∀ s' acc, Keeps s₀ s' → acc.length = xs.length → RdAll s'.heap ad acc (xs.map fun x => .str (g x)) → Q acc s') : wpAny (model pg w) A (collect (.ref m)) Q E s := by
  have l1 := hr.length
  rw [Array.length_toList, List.length_map] at l1
  have hTy : s.TypeIs (.ref m) "map" := ⟨_, hm, rfl⟩
  have is := i0.keeps ks
  unfold collect
  refine wpAny_bind (wpAny_runValue (codeAny_builtin F.entry_proto_collect ?_))
  rw [Around.under_plainId F.plain_proto_collect _]
  show wpAny _ A.in1 (newList [] >>= fun l => again (.builtin "list.__iadd__" ⟨[l, .ref m], []⟩)) _ _ s
  refine wpAny_bind (wpAny_newObj_type ?_)
  refine wpAny_pure ⟨plainId_quiet F.plain_list_iadd _, codeAny_builtin F.entry_list_iadd ?_⟩
  rw [Around.under_plainId F.plain_list_iadd _]
  generalize hSd : s.heap.objs.size = S
  have fS : s.heap.get? S = none := hSd ▸ fresh_none s
  have fS0 : s₀.heap.get? S = none := ks.heap.fresh i0.tab fS
  have nt4 : hb.get? S = none := is.newer (by rw [hSd]; exact Nat.le_refl _)
  have hmS : m ≠ S := fun q => by rw [IsMap, q, fS] at hm; cases hm
  have htS : t ≠ S := fun q => by (first | exact nSg q fS ht | cases sEg q fS ht | (rw [q, fS] at ht; cases ht))
  have hIS : I ≠ S := fun q => by obtain ⟨o, e, _⟩ := hit; (first | exact nSg q fS e | cases sEg q fS e | (rw [q, fS] at e; cases e))
  have hSm : S ≠ m := Ne.symm hmS
  generalize hH : s.heap.push { cls := .type "list", data := .seq ([] : List Value).toArray } = H
  have old : ∀ b o, s.heap.get? b = some o → H.get? b = some o := fun b o e => hH ▸ Heap.get?_push_of_some _ e
  have hS₁ : H.get? S = some { cls := .type "list", data := .seq ([] : List Value).toArray } := by rw [← hH, ← hSd]; exact Heap.get?_push_size _ rfl
  have hTy₁ : Shared.TypeIs { s with heap := H } (.ref m) "map" := ⟨_, old _ _ hm, rfl⟩
  show wpAny _ A.in1 (Builtin.List.listExtendWith (.ref S) (.ref m) (.ref S)) _ _ _
  unfold Builtin.List.listExtendWith
  refine wpAny_bind (wpAny_typeOf hTy₁ ?_)
  have h1 : Builtin.List.listSameRef (.ref S) (.ref m) = false := by simp [Builtin.List.listSameRef, hSm]
  have h2 : (Value.type "map" == Value.type "list") = false := by decide
  have h3 : (Value.type "map" == Value.type "tuple") = false := by decide
  simp only [h1, h2, h3, Bool.or_false, Bool.false_eq_true, if_false]
  refine wpAny_bind (pyIter_map (old _ _ hm) ?_)
  refine wpAny_bind (wpAny_holding ?_)
  unfold Builtin.List.listLengthHint
  refine wpAny_bind (wpAny_specialOf hTy₁ nolen_map ?_)
  show wpAny _ A.in1 (specialOf (Value.ref m) (Str.ofString "__length_hint__") >>= _) _ _ _
  refine wpAny_bind (wpAny_specialOf hTy₁ nohint_map ?_)
  refine wpAny_pure ?_
  show wpAny _ A.in1 (rule "list.extend.makes-room" >>= fun _ => Builtin.List.listTouch (.ref S) >>= fun _ =>
    again (.builtin "list.extend.loop" ⟨[.ref S, .ref m, .ref S], []⟩)) _ _ _
  refine wpAny_bind (wpAny_rule ?_)
  refine wpAny_bind ?_
  show wpAny _ A.in1 (updateSeq S (·.push .none) >>= fun _ => updateSeq S (·.pop)) _ _ _
  refine wpAny_bind (wpAny_updateSeq hS₁ rfl ?_)
  have hS₂ := Heap.get?_update_self (Obj.mapSeq (·.push Value.none)) hS₁ rfl
  refine wpAny_updateSeq hS₂ rfl ?_
  have hS₃ := Heap.get?_update_self (Obj.mapSeq (·.pop)) hS₂ rfl
  have oth : ∀ b o, b ≠ S → H.get? b = some o → ((H.update S (Obj.mapSeq (·.push Value.none))).update S (Obj.mapSeq (·.pop))).get? b = some o :=
    fun b o hb e => (Heap.get?_update_other _ _ (Ne.symm hb)).trans ((Heap.get?_update_other _ _ (Ne.symm hb)).trans e)
  have kS : Keeps s { s with heap := (H.update S (Obj.mapSeq (·.push Value.none))).update S (Obj.mapSeq (·.pop)) } := kOfh fun b o e => oth b o (fun q => by (first | exact nSg q fS e | cases sEg q fS e | (rw [q, fS] at e; cases e))) (old b o e)
  refine wpAny_pure ⟨plainId_quiet F.plain_extend_loop _, extend_map (A := A) (ad := ad) hf (rm.near' rfl rfl (by show A.units + 1 + 1 ≤ A.units + 1 + 1 + 1; lia) rfl) hh i0 o0 hl hr fI fm ft fS0 hmI hmS htI htS hIS hsz nt1 nt2 nt3 nt4 _ 0 _ _ _ rfl (Nat.zero_le _) (kTrans ks kS)
    (oth m _ hmS (old _ _ hm)) (oth t _ htS (old _ _ ht)) hdt ?_ hS₃ (by simp) (by simpa using RdAll.nil) fun s' acc' c' k' hS' hz hr' => ?_⟩
  · obtain ⟨o, e, r⟩ := hit
    exact ⟨o, oth I _ hIS (old _ _ e), r⟩
  · show wpAny _ A (load S >>= _) _ _ s'
    refine wpAny_bind (wpAny_load hS' ?_)
    exact wpAny_pure (hQ s' acc'.toList k' (by rw [Array.length_toList]; lia) hr')

theorem tuple_new_map {m : Addr} {Q₁ : Value → Shared → Prop} (hT : s.TypeIs (.ref m) "map")
    (h : wpAny (model pg w) A.in1 (collect (.ref m)) (fun acc s' => acc.length ≤ 16777216 ∧ Q₁ (.ref s'.heap.objs.size) { s' with heap := s'.heap.push { cls := .type "tuple", data := .seq acc.toArray } }) E s) :
    codeAny (model pg w) A (.call (.builtin "tuple.__new__") ⟨[.type "tuple", .ref m], []⟩) (wants Q₁ E) s := by
  refine codeAny_of_tree ?_
  show wpAny _ A.in1 (do checkBuiltinCall "tuple.__new__" ⟨[.type "tuple", .ref m], []⟩; again (.builtin "tuple.__new__" ⟨[.type "tuple", .ref m], []⟩)) _ _ s
  refine wpAny_bind (wpAny_of_eq (F.newCall_tuple_1 _) (wpAny_pure ⟨plainId_quiet F.plain_tuple_new _, codeAny_builtin F.entry_tuple_new ?_⟩))
  rw [Around.under_plainId F.plain_tuple_new _]
  have hsub := sub_tuple_self
  have hinit := init_tuple_lookup
  have hmh := madeHere_tuple
  have hc : ∀ (Q' : List Value → Shared → Prop) (E' : Value → Shared → Prop), (∀ e s', E e s' → E' e s') → (∀ acc s', acc.length ≤ 16777216 → Q₁ (.ref s'.heap.objs.size) { s' with heap := s'.heap.push { cls := .type "tuple", data := .seq acc.toArray } } → Q' acc s') → wpAny (model pg w) A.in1 (collect (.ref m)) Q' E' s :=
    fun Q' E' h1 h2 => wpAny_mono h (fun acc s' q => h2 acc s' q.1 q.2) h1
  wp_walk using wpAny_typeOf hT, hc _ _ (fun _ _ e => e)
  intro acc s' hl hq
  show wpAny _ _ (Builtin.Tuple.tupleExact acc.toArray >>= fun v => ret v) _ _ _
  unfold Builtin.Tuple.tupleExact
  refine wpAny_bind (wpAny_newObj_type ?_ (by show acc.toArray.size ≤ 16777216; simpa using hl))
  exact wpAny_pure hq
theorem call_tuple_map {m : Addr} {Q : Value → Shared → Prop} (hT : s.TypeIs (.ref m) "map")
    (h : wpAny (model pg w) A.in1.in1 (collect (.ref m)) (fun acc s' => acc.length ≤ 16777216 ∧ Q (.ref s'.heap.objs.size) { s' with heap := s'.heap.push { cls := .type "tuple", data := .seq acc.toArray } }) E s) :
    wpAny (model pg w) A (call (.type "tuple") [.ref m]) Q E s := by
  refine callType_codes (Q₁ := fun obj s₁ => s₁.TypeIs obj "tuple" ∧ Q obj s₁) F.called_tuple (F.typeCall_tuple_1 _) F.entry_object_init
    (tuple_new_map hT (wpAny_mono h (fun acc s' q => ⟨q.1, ⟨_, Heap.get?_push_size _ rfl, rfl⟩, q.2⟩) fun _ _ e => e)) fun obj s₁ h₁ => ?_
  exact ⟨h₁.1, F.args_object_init_2 obj _, object_init_meets F.called_tuple.init.lookup F.called_tuple.made (by decide) pg w A.in1 _ s₁ ⟨h₁.1, rfl, h₁.2⟩⟩

-- tuple(map(f, e))
theorem Ev.tupleMap {np np2 pos pos2 : Pos} {fe e : PySem.Expr} {f : Value} {d : D} {g : Str → Str} {xs : List Str} (h1 : Ev w hb (n + 1) env ls σ (.Name "tuple" np) (.val (.type "tuple"))) (h2 : Ev w hb (n + 1) env ls σ (.Name "map" np2) (.val (.type "map")))
    (h3 : EvA w hb (n + 1) env ls σ [fe, e] [.val f, d]) (hd : IsL σ d (xs.map .str)) (hf : ∀ x ∈ xs, Fs w hb n f [.str x] σ (.str (g x))) (hsz : xs.length ≤ 16777216)
    (hse : autoParam (starEach [.Call (.Name "map" np2) [fe, e] [] pos2] env = [(false, eval (.Call (.Name "map" np2) [fe, e] [] pos2) env)]) Mine.auR) :
    Ev w hb (n + 1) env ls σ (.Call (.Name "tuple" np) [.Call (.Name "map" np2) [fe, e] [] pos2] [] pos) (.tup (xs.map fun x => .str (g x))) := fun A s ad c => by
  refine wpAny_Call_NameR (h1.use c fun v s1 k1 c1 r1 => ?_)
  (first | obtain rfl := r1.toV | obtain ⟨t, rfl⟩ := r1.toS | obtain ⟨t, rfl⟩ := r1.toI | obtain rfl := r1.toB | cases r1)
  rw [hse]
  refine PySem.callWith_type rfl (Calls.evalArgs_plain (Calls.spliced_cons ?_))
  refine wpAny_Call_NameR (h2.use c1 fun v s2 k2 c2 r2 => ?_)
  (first | obtain rfl := r2.toV | obtain ⟨t, rfl⟩ := r2.toS | obtain ⟨t, rfl⟩ := r2.toI | obtain rfl := r2.toB | cases r2)
  refine callWith_any Kpr.typ h3 c2 fun vs s3 k3 c3 r3 => ?_
  obtain ⟨v1, v2, rfl, q1, q2⟩ := r3.two
  cases q1
  obtain ⟨l, ⟨cls, dd, data, sl⟩, items, ni, rfl, e1, e2, e3, e4, e5⟩ := q2.isL hd c3.st.own
  simp only at e2 e3 e4
  subst e2 e3 e4
  rw [List.nil_append]
  have l1 := e5.length
  rw [Array.length_toList, List.length_map] at l1
  refine callType_new called_map (by decide) (typeCall_map_2 _ _) (newCall_map_2 _ _) (fun obj => F.initArgs_range_2 obj _ _) entry_map_new (meets_map_new f l items ni _ _) ⟨e1, ⟨{ cls := .type "map", data := .fields #[.ref (s3.heap.objs.size + 1), f] }, ?_, rfl⟩, ?_⟩
  · have := Heap.get?_push_size ((s3.heap.push { cls := .type "list_iterator", data := .fields #[.ref l, .int 0 0] }).push { cls := .type "tuple", data := .seq #[.ref s3.heap.objs.size] }) (o := { cls := .type "map", data := .fields #[.ref (s3.heap.objs.size + 1), f] }) rfl
    rw [Heap.size_push, Heap.size_push] at this
    exact this
  refine Calls.spliced_nil ?_
  show wpAny (model pg w) A (PySem.call (Value.type "tuple") [Value.ref (s3.heap.objs.size + 2)]) _ _ _
  generalize hz : s3.heap.objs.size = z
  have hI : s3.heap.get? z = Option.none := hz ▸ fresh_none s3
  have ht : s3.heap.get? (z + 1 : Nat) = Option.none := new_none (s := s3) (b := (z + 1 : Nat)) (by rw [hz]; exact Nat.le_succ z)
  have hm : s3.heap.get? (z + 2 : Nat) = Option.none := new_none (s := s3) (b := (z + 2 : Nat)) (by rw [hz]; exact Nat.le_add_right z 2)
  have nI : hb.get? z = Option.none := c3.inv.newer (by rw [hz]; exact Nat.le_refl _)
  have nt : hb.get? (z + 1 : Nat) = Option.none := c3.inv.newer (a := (z + 1 : Nat)) (by rw [hz]; exact Nat.le_succ z)
  have nm : hb.get? (z + 2 : Nat) = Option.none := c3.inv.newer (a := (z + 2 : Nat)) (by rw [hz]; exact Nat.le_add_right z 2)
  generalize hH1 : s3.heap.push { cls := .type "list_iterator", data := .fields #[.ref l, .int 0 0] } = H1
  have z1 : H1.objs.size = z + 1 := by rw [← hH1, Heap.size_push, hz]
  have g1 : H1.get? z = some { cls := .type "list_iterator", data := .fields #[.ref l, .int 0 0] } := by rw [← hH1, ← hz]; exact Heap.get?_push_size _ rfl
  have o1 : ∀ b o, s3.heap.get? b = some o → H1.get? b = some o := fun b o e => hH1 ▸ Heap.get?_push_of_some _ e
  generalize hH2 : H1.push { cls := .type "tuple", data := .seq #[.ref z] } = H2
  have z2 : H2.objs.size = z + 2 := by rw [← hH2, Heap.size_push, z1]
  have g2 : H2.get? (z + 1 : Nat) = some { cls := .type "tuple", data := .seq #[.ref z] } := by rw [← hH2, ← z1]; exact Heap.get?_push_size _ rfl
  have o2 : ∀ b o, H1.get? b = some o → H2.get? b = some o := fun b o e => hH2 ▸ Heap.get?_push_of_some _ e
  generalize hH3 : H2.push { cls := .type "map", data := .fields #[.ref (z + 1 : Nat), f] } = H3
  have g3 : H3.get? (z + 2 : Nat) = some { cls := .type "map", data := .fields #[.ref (z + 1 : Nat), f] } := by rw [← hH3, ← z2]; exact Heap.get?_push_size _ rfl
  have o3 : ∀ b o, H2.get? b = some o → H3.get? b = some o := fun b o e => hH3 ▸ Heap.get?_push_of_some _ e
  have k4 : Keeps s3 { s3 with heap := H3 } := kOfh fun b o e => o3 b o (o2 b o (o1 b o e))
  refine call_tuple_map ⟨_, g3, rfl⟩ (collect_map (A := A.in1.in1) (ad := ad) (s₀ := s3) (I := z) (t := (z + 1 : Nat)) hf (c3.rm.near rfl (by show A.depth ≤ A.depth + 1; lia) (by show A.units + 1 + 1 + 1 + 1 + 1 ≤ A.units + 20; lia) rfl) c3.rm.handled c3.inv c3.st.own ⟨_, e1, rfl, ni, rfl⟩ e5 hI hm ht (fun q => ?_) (fun q => ?_) hsz nI nm nt k4 g3 (o3 _ _ g2) rfl
    ⟨_, o3 _ _ (o2 _ _ g1), rfl, rfl⟩ fun s5 acc k5 hl hr => ?_)
  · have q' : @Eq Nat (z + 2) z := q
    lia
  · have q' : @Eq Nat (z + 1) z := q
    lia
  · refine ⟨by lia, kTrans k1 (kTrans k2 (kTrans k3 (kTrans k5 (kPush _ _)))), ?_⟩
    exact rd_newTuple hr (c3.st.own.keeps k5.heap)
end
end Mine
end

section
open PySem PySem.W PySem.Calls PyProof.Rows PySem.SeqAt
open AutoSeq1 (wpAny_loadPart')
set_option Elab.async false
set_option tactic.hygienic false
set_option linter.unusedVariables false
set_option maxRecDepth 100000
namespace Mine
/-! a set of one bool -/
noncomputable def tb1 (led : Bool) : SetTable := { mask := 7, place := #[1], dummies := #[], finger := 0, led := led, moves := 0, plain := true }
theorem lay1 (led : Bool) : layNew (.fresh 0 0 led) #[] 1 (.bool true) = (#[(1, .bool true)], tb1 led, false, false) := by
  cases led <;> rfl
section
variable {prog : Program} {w : World} {A : Around} {E : Value → Shared → Prop} {s : Shared}
theorem pyHash_true {Q : Int → Shared → Prop} (h : Q 1 { s with toks := s.toks + 1 }) : wpAny (model prog w) A (pyHash (.bool true)) Q E s := by
  have hT : s.TypeIs (.bool true) "bool" := rfl
  unfold pyHash
  have hv : [Value.bool true].any Value.onHeap = false := rfl
  refine wpAny_bind ?_
  rw [cRoomFor, if_neg (by rw [hv]; exact Bool.false_ne_true)]; refine wpAny_pure ?_
  refine wpAny_bind (wpAny_specialOf hT F.slot_bool_hash.lookup ?_)
  show wpAny _ _ (if (some (Value.builtin "int.__hash__") == some Value.none) = true then _ else _) Q E s
  rw [if_neg (by rw [beq_builtin_none]; exact Bool.false_ne_true)]
  refine wpAny_bind (wpAny_specialOf hT F.slot_bool_hash.lookup ?_)
  show wpAny _ _ (callSpecialIfBoundUnlessNone? (.bool true) "__hash__" _ >>= _) Q E s
  refine wpAny_bind (wpAny_callSpecialIfBoundUnlessNone?_slot hT F.slot_bool_hash
    (wpAny_call_entry F.slot_bool_hash hT entry_int_hash ?_ (args_int_hash _)))
  wp_walk
  exact ⟨.int 1 s.toks, rfl, wpAny_pure h⟩
noncomputable abbrev IsSet0 (h : Heap) (a : Addr) (led : Bool) : Prop := h.get? a = some { cls := .type "set", dict := none, data := .set #[] 0 (.fresh 0 0 led), slots := #[] }
noncomputable abbrev IsSet1 (h : Heap) (a : Addr) (led : Bool) : Prop := h.get? a = some { cls := .type "set", dict := none, data := .set #[(1, .bool true)] 1 (tb1 led), slots := #[] }
theorem setState_of {a : Addr} {o : Obj} {es : Array (Int × Value)} {ep : Nat} {t : SetTable} {Q : (Array (Int × Value) × Nat × SetTable) → Shared → Prop}
    (ho : s.heap.get? a = some o) (hd : o.data = .set es ep t) (hf : t.fits es.size = true) (h : Q (es, ep, t) s) : wpAny (model prog w) A (setState a) Q E s := wpAny_setState_of ho hd hf h
theorem set_add_1 {a : Addr} {led : Bool} {Q : Value → Shared → Prop} (hS : IsSet0 s.heap a led)
    (h : ∀ h', Heap.SameBut a s.heap h' → IsSet1 h' a led → Q .none { s with heap := h', toks := s.toks + 1 }) :
    wpAny (model prog w) A (call (.builtin "set.add") [.ref a, .bool true]) Q E s := by
  have hT : s.TypeIs (.ref a) "set" := ⟨_, hS, rfl⟩
  refine wpAny_call_entry F.slot_set_add hT F.entry_set_add ?_ (F.args_set_add_2 _ _)
  unfold Builtin.«set.add» Builtin.Frozenset.oneOther
  simp only [List.isEmpty_nil, bind_assoc]
  unfold Builtin.Frozenset.addrOf setAdd
  refine wpAny_bind (wpAny_pure ?_)
  try dsimp only
  refine wpAny_bind (wpAny_pure ?_)
  try dsimp only
  refine wpAny_bind ?_
  refine wpAny_holding ?_
  refine wpAny_bind (pyHash_true ?_)
  unfold setAddHashed
  refine wpAny_holding ?_
  unfold setAddHashedIn
  refine wpAny_bind (setState_of hS rfl rfl ?_)
  simp only []
  rw [if_pos (by simp [byScan, Value.scannable, scanBound])]
  refine wpAny_bind ?_
  unfold setAddByScan
  refine wpAny_bind (wpAny_rule ?_)
  show wpAny _ _ (pure ScanMet.absent >>= _) _ _ _
  refine wpAny_bind (wpAny_pure ?_)
  simp only [lay1]
  show wpAny _ _ (pure () >>= _) _ _ _
  refine wpAny_bind (wpAny_pure ?_)
  rw [if_pos (by rfl)]
  show wpAny _ _ (pure true >>= _) _ _ _
  refine wpAny_bind (wpAny_pure ?_)
  simp only [if_true]
  refine wpAny_bind (wpAny_storeSet_of hS rfl ?_ (fits_of_scanBound (by simp [scanBound])))
  rw [if_neg (by cases led <;> decide)]
  refine wpAny_pure (wpAny_pure (wpAny_pure ⟨_, rfl, h _ (Heap.SameBut.update ..) ?_⟩))
  have := Heap.get?_update_self (Obj.putSet #[(1, Value.bool true)] (tb1 led)) hS (by rw [putSet_of _ _ rfl]; rfl)
  rw [putSet_of _ _ rfl] at this; exact this
theorem set_add_2 {a : Addr} {led : Bool} {Q : Value → Shared → Prop} (hS : IsSet1 s.heap a led) (h : Q .none { s with toks := s.toks + 1 }) :
    wpAny (model prog w) A (call (.builtin "set.add") [.ref a, .bool true]) Q E s := by
  have hT : s.TypeIs (.ref a) "set" := ⟨_, hS, rfl⟩
  refine wpAny_call_entry F.slot_set_add hT F.entry_set_add ?_ (F.args_set_add_2 _ _)
  unfold Builtin.«set.add» Builtin.Frozenset.oneOther
  simp only [List.isEmpty_nil, bind_assoc]
  unfold Builtin.Frozenset.addrOf setAdd
  refine wpAny_bind (wpAny_pure ?_)
  try dsimp only
  refine wpAny_bind (wpAny_pure ?_)
  try dsimp only
  refine wpAny_bind ?_
  refine wpAny_holding ?_
  refine wpAny_bind (pyHash_true ?_)
  unfold setAddHashed
  refine wpAny_holding ?_
  unfold setAddHashedIn
  have hf : (tb1 led).fits 1 = true := by cases led <;> decide
  refine wpAny_bind (setState_of hS rfl hf ?_)
  simp only []
  rw [if_pos (by simp [byScan, Value.scannable, scanBound])]
  refine wpAny_bind ?_
  unfold setAddByScan
  refine wpAny_bind (wpAny_rule ?_)
  refine wpAny_bind (m := setScan a (.bool true) 1 true #[(1, .bool true)]) ?_
  show wpAny _ _ (setScanFrom a (.bool true) 1 true [(1, .bool true)] 0) _ _ _
  unfold setScanFrom
  rw [if_pos (by rfl)]
  unfold setEpoch
  refine wpAny_bind (wpAny_bind (setState_of hS rfl hf (wpAny_pure ?_)))
  refine wpAny_bind (EqAt.same (A := A.in1) (s := { s with toks := s.toks + 1 }) (.bool true) prog w _ _ ?_)
  simp only [Bool.and_self, if_true]
  refine wpAny_pure ?_
  exact wpAny_pure (wpAny_pure (wpAny_pure ⟨_, rfl, h⟩))
end
end Mine
end

section
open PySem PySem.W PySem.Calls PyProof.Rows PySem.SeqAt
open AutoSeq1 (wpAny_loadPart')
set_option Elab.async false
set_option tactic.hygienic false
set_option linter.unusedVariables false
set_option maxRecDepth 100000
namespace Mine
theorem entry_set_iter' : entryFor table "set.__iter__" = some Builtin.«frozenset.__iter__» :=
  entryFor_alias (id' := "frozenset.__iter__") (by kernel_rfl) rfl (by decide +kernel) (by kernel_rfl)
theorem owner_setit : Manifest.owners.lookup (String.ofList "set_iterator".toList.reverse.reverse) = some Manifest.sig_set_iterator := by kernel_rfl
theorem slot_setit_next : Slot "set_iterator" "__next__" "set_iterator.__next__" :=
  .of (owner := "set_iterator") (n := "__next__") (by rw [typeLookup_type, builtinLookup_eq_fast]; kernel_rfl) (by decide +kernel) (by decide +kernel) (by decide +kernel)
    (by first | exact .inl (by decide +kernel) | exact .inr (by decide +kernel)) (by rw [isSubtype_type]; kernel_rfl)
theorem entry_setit_next : entryFor table "set_iterator.__next__" = some Builtin.«set_iterator.__next__» := entryFor_of_tree (by kernel_rfl)
theorem args_setit_next_1 (a : Value) : argsOk "set_iterator.__next__" ⟨[a], []⟩ := by
  unfold argsOk; rw [signature?_of (id := "set_iterator.__next__") (n := ['_', '_', 't', 'x', 'e', 'n', '_', '_']) (o := ['r', 'o', 't', 'a', 'r', 'e', 't', 'i', '_', 't', 'e', 's']) (by kernel_rfl) owner_setit]; kernel_rfl
section
variable {prog : Program} {w : World} {A : Around} {E : Value → Shared → Prop} {s : Shared}
noncomputable abbrev IsSetIter (h : Heap) (it a : Addr) (slot i : Int) : Prop := h.get? it = some { cls := .type "set_iterator", dict := none, data := .fields #[rawInt slot, rawInt i, .ref a, rawInt 1, rawInt 1], slots := #[] }
theorem pyIter_set1 {a : Addr} {led : Bool} {Q : Value → Shared → Prop} (hS : IsSet1 s.heap a led)
    (hQ : Q (.ref s.heap.objs.size) { s with heap := s.heap.push { cls := .type "set_iterator", data := .fields #[rawInt 0, rawInt 0, .ref a, rawInt 1, rawInt 1] } }) :
    wpAny (model prog w) A (pyIter (.ref a)) Q E s := by
  have hT : s.TypeIs (.ref a) "set" := ⟨_, hS, rfl⟩
  have hf : (tb1 led).fits 1 = true := by cases led <;> decide
  refine wpAny_pyIter_slot hT F.slot_set_iter (wpAny_call_entry F.slot_set_iter hT entry_set_iter' ?_ (F.args_set_iter_1 _))
  unfold Builtin.«frozenset.__iter__»
  wp_walk using wpAny_loadPart' hS, setState_of hS rfl hf
  refine wpAny_askSetting (wpAny_pure (wpAny_pure ?_))
  have hd : ∀ x : Bool, (!x && (!(tb1 led).plain && decide ((#[((1 : Int), Value.bool true)] : Array (Int × Value)).size > 1))) = false := by intro x; cases x <;> cases led <;> rfl
  dsimp only
  rw [if_neg (fun q => by have := hd (w.params.followText "set-order"); exact absurd (q.symm.trans this) (by decide))]
  refine wpAny_bind (wpAny_pure ?_)
  unfold setEpoch
  refine wpAny_bind (wpAny_bind (setState_of hS rfl hf (wpAny_pure ?_)))
  wp_walk
  exact ⟨_, rfl, "set_iterator", _, ⟨_, Heap.get?_push_size _ rfl, rfl⟩, slot_setit_next.lookup, hQ⟩
theorem pick1 (f : Nat → Nat) (x : Int × Value) : pickOrder f #[x] = #[x] := by
  unfold pickOrder
  show pickOrder.go f 1 0 [x] #[] = _
  unfold pickOrder.go
  have : f 0 % [x].length = 0 := Nat.mod_one _
  rw [this]
  rfl
theorem setNext_one {a : Addr} {led : Bool} {Q : Option (Value × Nat) → Shared → Prop} (hS : IsSet1 s.heap a led) (hled : led = !w.params.followText "set-order")
    (h : ∀ nx : Nat, (w.params.followText "set-order" = true ∨ nx = 2) → Q (some (.bool true, nx)) s) : wpAny (model prog w) A (setNext a 0 0 1) Q E s := by
  have hf : (tb1 led).fits 1 = true := by cases led <;> decide
  unfold setNext
  refine wpAny_bind (setState_of hS rfl hf ?_)
  simp only []
  unfold setsByText
  refine wpAny_bind (wpAny_bind (wpAny_askSetting (wpAny_pure ?_)))
  dsimp only
  cases hb : w.params.followText "set-order" with
  | true =>
    rw [hb] at h
    rw [if_pos (show (model prog w).w.params.followText "set-order" = true from hb)]
    rw [if_neg (by decide)]
    refine wpAny_bind ?_
    unfold setWalk
    refine wpAny_bind (setState_of hS rfl hf ?_)
    simp only []
    unfold setsByText
    refine wpAny_bind (wpAny_bind (wpAny_askSetting (wpAny_pure ?_)))
    dsimp only
    rw [if_pos (show (model prog w).w.params.followText "set-order" = true from hb)]
    refine wpAny_bind (wpAny_askSetting (wpAny_pure ?_))
    rw [pick1]
    exact wpAny_pure (h 0 (.inl rfl))
  | false =>
    rw [hb] at h hled
    rw [if_neg (show ¬ (model prog w).w.params.followText "set-order" = true from fun q => by have q' : w.params.followText "set-order" = true := q; (first | exact nS hb q' | exact nS q' hb | exact nD hb q' | exact nD q' hb | cases sE hb q' | (rw [hb] at q'; cases q')))]
    subst hled
    exact wpAny_pure (h 2 (.inr rfl))
theorem setNext_end {a : Addr} {led : Bool} {slot : Nat} {Q : Option (Value × Nat) → Shared → Prop} (hS : IsSet1 s.heap a led) (hled : led = !w.params.followText "set-order") (hs : w.params.followText "set-order" = true ∨ slot = 2)
    (h : Q none s) : wpAny (model prog w) A (setNext a slot 1 1) Q E s := by
  have hf : (tb1 led).fits 1 = true := by cases led <;> decide
  unfold setNext
  refine wpAny_bind (setState_of hS rfl hf ?_)
  simp only []
  unfold setsByText
  refine wpAny_bind (wpAny_bind (wpAny_askSetting (wpAny_pure ?_)))
  dsimp only
  cases hb : w.params.followText "set-order" with
  | true =>
    rw [if_pos (show (model prog w).w.params.followText "set-order" = true from hb)]
    rw [if_neg (by decide)]
    refine wpAny_bind ?_
    unfold setWalk
    refine wpAny_bind (setState_of hS rfl hf ?_)
    simp only []
    unfold setsByText
    refine wpAny_bind (wpAny_bind (wpAny_askSetting (wpAny_pure ?_)))
    dsimp only
    rw [if_pos (show (model prog w).w.params.followText "set-order" = true from hb)]
    refine wpAny_bind (wpAny_askSetting (wpAny_pure ?_))
    rw [pick1]
    exact wpAny_pure h
  | false =>
    rw [hb] at hled hs
    have : slot = 2 := by rcases hs with q | q; cases q; exact q
    subst this
    rw [if_neg (show ¬ (model prog w).w.params.followText "set-order" = true from fun q => by have q' : w.params.followText "set-order" = true := q; (first | exact nS hb q' | exact nS q' hb | exact nD hb q' | exact nD q' hb | cases sE hb q' | (rw [hb] at q'; cases q')))]
    subst hled
    exact wpAny_pure h
theorem pyNext_set_item {it a : Addr} {led : Bool} {Q : Option Value → Shared → Prop} (hS : IsSet1 s.heap a led) (hled : led = !w.params.followText "set-order") (hit : IsSetIter s.heap it a 0 0) (hne : it ≠ a)
    (hQ : ∀ h' (slot : Nat), Heap.SameBut it s.heap h' → (w.params.followText "set-order" = true ∨ slot = 2) → IsSetIter h' it a slot 1 → Q (some (.bool true)) { s with heap := h' }) :
    wpAny (model prog w) A (pyNext (.ref it)) Q E s := by
  have hT : s.TypeIs (.ref it) "set_iterator" := ⟨_, hit, rfl⟩
  have hf : (tb1 led).fits 1 = true := by cases led <;> decide
  unfold pyNext
  refine wpAny_bind (wpAny_attempt (wpAny_callSpecial?_slot (name := Str.ofString "__next__") hT slot_setit_next
    (wpAny_call_entry slot_setit_next hT entry_setit_next ?_ (args_setit_next_1 _))))
  unfold Builtin.«set_iterator.__next__»
  have hsn : ∀ (Q : Option (Value × Nat) → Shared → Prop) (E : Value → Shared → Prop), (∀ nx : Nat, (w.params.followText "set-order" = true ∨ nx = 2) → Q (some (.bool true, nx)) s) → wpAny (model prog w) A.in1 (setNext a (Int.toNat 0) (Int.toNat 0) (Int.toNat 1)) Q E s := fun Q E h => setNext_one hS hled h
  wp_walk using wpAny_loadPart' hit, setState_of hS rfl hf, hsn _ _
  intro nx hnx
  show wpAny _ _ (setField (.ref it) 0 (rawInt nx) >>= _) _ _ _
  refine wpAny_bind (wpAny_setField_rec hit (by simp) fun h1 e1 s1 => ?_)
  show wpAny _ _ (setField (.ref it) 1 (rawInt (0 + 1)) >>= _) _ _ _
  refine wpAny_bind (wpAny_setField_rec (s := { s with heap := h1 }) e1 (by simp) fun h2 e2 s2 => ?_)
  refine wpAny_pure ⟨_, rfl, wpAny_pure (hQ h2 nx (s1.trans s2) hnx ?_)⟩
  simpa using e2
theorem pyNext_set_end {it a : Addr} {led : Bool} {slot : Nat} {Q : Option Value → Shared → Prop} (hh : A.handled = none) (hS : IsSet1 s.heap a led) (hled : led = !w.params.followText "set-order") (hs : w.params.followText "set-order" = true ∨ slot = 2)
    (hit : IsSetIter s.heap it a slot 1) (hne : it ≠ a)
    (hQ : ∀ h', Heap.ExtBut it s.heap h' → Q none { s with heap := h' }) :
    wpAny (model prog w) A (pyNext (.ref it)) Q E s := by
  have hT : s.TypeIs (.ref it) "set_iterator" := ⟨_, hit, rfl⟩
  have hf : (tb1 led).fits 1 = true := by cases led <;> decide
  unfold pyNext
  refine wpAny_bind (wpAny_attempt (wpAny_callSpecial?_slot (name := Str.ofString "__next__") hT slot_setit_next
    (wpAny_call_entry slot_setit_next hT entry_setit_next ?_ (args_setit_next_1 _))))
  unfold Builtin.«set_iterator.__next__»
  have hsn : ∀ (Q : Option (Value × Nat) → Shared → Prop) (E : Value → Shared → Prop), Q none s → wpAny (model prog w) A.in1 (setNext a (Int.toNat slot) (Int.toNat 1) (Int.toNat 1)) Q E s := fun Q E h => setNext_end (slot := slot) hS hled hs h
  wp_walk using wpAny_loadPart' hit, setState_of hS rfl hf, hsn _ _
  simp only [raiseNew]
  refine wpAny_bind (wpAny_handled ?_)
  rw [show A.in1.handled = none from hh]
  refine wpAny_bind (wpAny_pure (wpAny_throw ?_))
  refine wpAny_bind (wpAny_isInstance (T := "StopIteration") (b := true) ⟨_, Heap.get?_push_size _ rfl, rfl⟩ isSubtype_stop ?_)
  exact wpAny_pure (hQ _ (((Heap.SameBut.update ..).extBut.push _).push _))

theorem unpack_set1 {a : Addr} {led : Bool} {Q : List Value → Shared → Prop} (hh : A.handled = none) (hS : IsSet1 s.heap a led) (hled : led = !w.params.followText "set-order")
    (hQ : ∀ h', (∀ b o, s.heap.get? b = some o → h'.get? b = some o) → Q [.bool true] { s with heap := h' }) : wpAny (model prog w) A (unpackItems (.ref a) 1 none) Q E s := by
  have hT : s.TypeIs (.ref a) "set" := ⟨_, hS, rfl⟩
  unfold unpackItems notIterableAtAll
  refine wpAny_bind (wpAny_bind (wpAny_specialOf hT F.slot_set_iter.lookup (wpAny_pure ?_)))
  simp only [Bool.false_eq_true, if_false]
  generalize hz : s.heap.objs.size = it
  have hne : it ≠ a := fun q => by have := Heap.lt_size hS; rw [← q, hz] at this; exact Nat.lt_irrefl _ this
  refine wpAny_bind (wpAny_holding (pyIter_set1 hS ?_))
  rw [hz]
  generalize hH : s.heap.push { cls := .type "set_iterator", data := .fields #[rawInt 0, rawInt 0, .ref a, rawInt 1, rawInt 1] } = H
  have old : ∀ b o, s.heap.get? b = some o → H.get? b = some o := fun b o e => hH ▸ Heap.get?_push_of_some _ e
  have hit : H.get? it = some { cls := .type "set_iterator", data := .fields #[rawInt 0, rawInt 0, .ref a, rawInt 1, rawInt 1] } := by rw [← hH, ← hz]; exact Heap.get?_push_size _ rfl
  refine wpAny_bind (wpAny_holding ?_)
  show wpAny _ _ (pyNext (.ref it) >>= _) _ _ _
  refine wpAny_bind (pyNext_set_item (s := { s with heap := H }) (old _ _ hS) hled hit hne fun h1 slot s1 hs hit1 => ?_)
  refine wpAny_bind (wpAny_holding (wpAny_pure (wpAny_pure ?_)))
  simp only [List.length_singleton, Nat.lt_irrefl, if_false]
  refine wpAny_bind (wpAny_holding (pyNext_set_end (s := { s with heap := h1 }) hh (s1.extBut a _ (Ne.symm hne) (old _ _ hS)) hled hs hit1 hne fun h2 e2 => ?_))
  simp only [Option.isSome_none, Bool.false_eq_true, if_false]
  refine wpAny_pure (hQ h2 fun b o e => ?_)
  have hb : b ≠ it := fun q => by have := Heap.lt_size e; rw [q, ← hz] at this; exact Nat.lt_irrefl _ this
  exact e2 b o hb (s1.extBut b o hb (old b o e))
end
end Mine
end

section
open PySem PySem.W PySem.Calls PyProof.Rows PySem.SeqAt
set_option Elab.async false
set_option tactic.hygienic false
set_option linter.unusedVariables false
set_option maxRecDepth 100000
namespace Mine
section
variable {prog : Program} {w : World} {A : Around} {E : Value → Shared → Prop} {s : Shared} {R : Result → Shared → Prop}
theorem newSet_ok {Q : Value → Shared → Prop}
    (h : ∀ led : Bool, led = !w.params.followText "set-order" → Q (.ref s.heap.objs.size) { s with heap := s.heap.push { cls := .type "set", dict := none, data := .set #[] 0 (.fresh 0 0 led) } }) :
    wpAny (model prog w) A (newSet (.type "set")) Q E s := by
  unfold newSet setsByText
  refine wpAny_bind (wpAny_bind (wpAny_askSetting (wpAny_pure ?_)))
  dsimp only
  simp only [newObj]
  exact wpAny_bind (wpAny_alloc (wpAny_pure (h _ rfl)))
theorem compTurn_set1 (elt target iter : PySem.Expr) (scope : Scope) (pos : Pos) (it acc : Value) (env : Env) :
    compTurn (.SetComp elt [⟨target, iter, [], 0⟩] scope pos) 0 it acc env = (standAt iter.pos >>= fun _ => pyNext it >>= fun r => match r with
      | none => pure (.done .next)
      | some v => letOwnedTupleGo target it v >>= fun _ => PySem.assign target env v >>= fun _ =>
        (eval elt env >>= fun x => standAt elt.pos >>= fun _ => call (.builtin "set.add") [acc, x] >>= fun _ => pure ()) >>= fun _ =>
          again (.compLoop (.SetComp elt [⟨target, iter, [], 0⟩] scope pos) 0 it acc env)) := by rfl
theorem compLoop_set {elt target iter : PySem.Expr} {scope : Scope} {pos : Pos} {it acc : Value} {env : Env} (I : Nat → Shared → Prop)
    (turn : ∀ n s, I n s → wpAny (model prog w) A (pyNext it) (fun r s₁ => match r with
      | none => R (.ok .next) s₁
      | some v => wpAny (model prog w) A (PySem.assign target env v) (fun _ s₂ => wpAny (model prog w) A (eval elt env) (fun x s₃ =>
          wpAny (model prog w) A (call (.builtin "set.add") [acc, x]) (fun _ s₄ => ∃ m, m < n ∧ I m s₄) (notedBy (model prog w) A env fun e s' => R (.error e) s') s₃)
            (notedBy (model prog w) A env fun e s' => R (.error e) s') s₂) (notedBy (model prog w) A env fun e s' => R (.error e) s') s₁) (notedBy (model prog w) A env fun e s' => R (.error e) s') s)
    (n : Nat) (h : I n s) (ht : autoParam (∀ v, letOwnedTupleGo target it v = pure ()) Mine.auI) :
    codeAny (model prog w) A (.compLoop (.SetComp elt [⟨target, iter, [], 0⟩] scope pos) 0 it acc env) R s := by
  refine codeAny_loop rfl I (fun n s hI => ?_) n h
  show wpAny _ A ((compTurn (.SetComp elt [⟨target, iter, [], 0⟩] scope pos) 0 it acc env).onRaise (fun x => do noteFrame x env; theTreesLotGoes x)) _ _ s
  refine wpAny_noted ?_
  rw [compTurn_set1]
  refine wpAny_bind (wpAny_standAt (wpAny_bind (wpAny_mono (turn n s hI) (fun r s₁ h₁ => ?_) fun _ _ h' => h')))
  cases r with
  | none => exact wpAny_pure h₁
  | some v =>
    refine wpAny_bind (wpAny_of_eq (ht v) ?_)
    refine wpAny_bind (wpAny_mono h₁ (fun _ s₂ h₂ => ?_) fun _ _ h' => h')
    exact wpAny_bind (wpAny_bind (wpAny_mono h₂ (fun x s₄ h₄ => wpAny_bind (wpAny_standAt (wpAny_bind (wpAny_mono h₄ (fun _ s₅ h₅ => wpAny_pure (wpAny_pure ⟨rfl, h₅⟩)) fun _ _ h' => h')))) fun _ _ h' => h'))
theorem compStart_set {elt target iter ifs rest scope pos it acc env}
    (h0 : codeAny (model prog w) A (.compLoop (.SetComp elt (⟨target, iter, ifs, 0⟩ :: rest) scope pos) 0 it acc env) R s)
    (h : wpAny (model prog w) A (pyIter it) (fun it' s' => codeAny (model prog w) A (.compLoop (.SetComp elt (⟨target, iter, ifs, 0⟩ :: rest) scope pos) 0 it' acc env) R s')
      (notedBy (model prog w) A env fun x s' => R (.error x) s') s) :
    codeAny (model prog w) A (.compStart (.SetComp elt (⟨target, iter, ifs, 0⟩ :: rest) scope pos) 0 it acc env) R s := by
  refine codeAny_of_tree ?_
  show wpAny _ _ ((compStart (.SetComp elt (⟨target, iter, ifs, 0⟩ :: rest) scope pos) 0 it acc env).onRaise (fun x => do noteFrame x env; standAt theWindowsPlace)) _ _ s
  refine wpAny_notedAt ?_
  unfold compStart
  show wpAny _ _ (ask >>= _) _ _ s
  refine wpAny_bind (wpAny_askSetting (wpAny_ite ?_))
  split
  · first
      | exact wpAny_bind (wpAny_pure (wpAny_pure (And.intro rfl h0)))
      | exact wpAny_pure (And.intro rfl h0)
  · first
      | exact wpAny_bind (wpAny_rule (wpAny_bind (wpAny_standAt (wpAny_bind (wpAny_mono h (fun it' s' h' => wpAny_pure (And.intro rfl h')) fun _ _ x => x)))))
      | (refine wpAny_bind (wpAny_rule ?_); show wpAny _ _ (standAt iter.pos >>= _) _ _ s; exact wpAny_bind (wpAny_standAt (wpAny_bind (wpAny_mono h (fun it' s' h' => wpAny_pure (And.intro rfl h')) fun _ _ x => x))))
end
end Mine
end

section
open PySem PySem.W PySem.Calls PyProof.Rows PySem.SeqAt
set_option Elab.async false
set_option tactic.hygienic false
set_option linter.unusedVariables false
set_option maxRecDepth 100000
namespace Mine
section
variable {w : World} {hb : Heap} {n : Nat} {A : Around} {env : Env} {ls ls' fls : List (Str × D)} {σ : List Ob} {ad : List Addr} {s s' : Shared} {E : Value → Shared → Prop}

theorem setcomp_block {elt iter : PySem.Expr} {x : Str} {px pos : Pos} {scope : Scope} {cl : List (Str × Addr)} {s₂ : Shared} {I : Addr} {fp : List Addr} {xs : List D} {P : Nat → Value → Prop} {S : Nat → Heap → Prop}
    {RR : Value → Addr → Result → Shared → Prop} (c : Cx w hb n A env ls σ ad s) (k2 : Keeps s s₂) (hnew : s.heap.get? I = none) (W : Wk w hb A ad I fp xs P S s₂.heap)
    (hf : Free env scope cl x ls fls) (hclos : closureFor scope env = pure cl) (hkind : scope.kind = .function) (hx : scope.names.lookup x = some .local) (hcell : ∀ y ∈ scope.names, y.2 ≠ .cell) (hxi : x ≠ "_initial_size")
    (he : ∀ C e, e ∈ xs → Ev w hb n (compEnvC scope cl C env) ((x, e) :: fls) σ elt (.bool true)) (hne : xs ≠ [])
    (hRR : ∀ Dd C s' m led, Keeps s s' → s.heap.get? Dd = none → s.heap.get? C = none → Dd ≠ C → s'.heap.Ns C m → m "_initial_size" = none → IsSet1 s'.heap Dd led → led = (!w.params.followText "set-order") → Dd ∉ ad → hb.get? Dd = none → RR (.ref Dd) C (.ok .next) s') :
    wpAny (model pg w) A (newSet (.type "set")) (fun acc s₃ => wpAny (model pg w) A (newFunctionEnv scope env.globals cl [] env.qual none .none (some env)) (fun cenv s₄ =>
      codeAny (model pg w) A (.compStart (.SetComp elt [⟨.Name x px, iter, [], 0⟩] scope pos) 0 (.ref I) acc { cenv with scope := relabel scope env }) (RR acc cenv.locals) s₄) E s₃) E s₂ := by
  have c2 := c.keeps k2
  have hcl := closure_in hclos
  refine newSet_ok fun led hled => wpAny_newFunctionEnv hcell (by intro y hy; simp at hy) (fun h₁ hns₁ hsb₁ => ?_) hkind
  dsimp only at hns₁ hsb₁ ⊢
  generalize hH2 : s₂.heap.push { cls := .type "set", dict := none, data := .set #[] 0 (.fresh 0 0 led) } = H2 at hns₁ hsb₁ ⊢
  have hC : H2.objs.size = s₂.heap.objs.size + 1 := by rw [← hH2, Heap.size_push]
  have hDC : s₂.heap.objs.size ≠ H2.objs.size := by rw [hC]; exact Nat.ne_of_lt (Nat.lt_succ_self _)
  have below : ∀ b, b < s₂.heap.objs.size → b ≠ H2.objs.size ∧ b ≠ s₂.heap.objs.size := fun b hb => ⟨by rw [hC]; exact Nat.ne_of_lt (Nat.lt_succ_of_lt hb), Nat.ne_of_lt hb⟩
  have old : ∀ b o, s₂.heap.get? b = some o → h₁.get? b = some o := fun b o e => hsb₁.extBut b o (below b (Heap.lt_size e)).1 (Heap.get?_push_of_some _ (hH2 ▸ Heap.get?_push_of_some _ e))
  have hacc : IsSet0 h₁ s₂.heap.objs.size led := hsb₁.extBut _ _ hDC (Heap.get?_push_of_some _ (hH2 ▸ Heap.get?_push_size _ rfl))
  have fresh : ∀ a, s₂.heap.objs.size ≤ a → s₂.heap.get? a = none := fun a ha => new_none ha
  have freshs : ∀ a, s₂.heap.get? a = none → s.heap.get? a = none := fun a ha => k2.heap.fresh c.inv.tab ha
  have k02 : KeepsX [I] s₂ { s₂ with heap := h₁, toks := s₂.toks + ([] : List (Str × Value)).length } := KeepsX.of (kOf old)
  generalize hCe : H2.objs.size = C at *
  generalize hDe : s₂.heap.objs.size = Dd at *
  have fD : s₂.heap.get? Dd = none := fresh Dd (Nat.le_refl _)
  have fC : s₂.heap.get? C = none := fresh C (by rw [hC]; exact Nat.le_succ _)
  have hI2 : ∃ o vs, s₂.heap.get? I = some o ∧ o.data = .fields vs := W.obj 0 _ W.st
  have hID : I ≠ Dd := fun q => by obtain ⟨o, _, e, _⟩ := hI2; (first | exact nSg q fD e | cases sEg q fD e | (rw [q, fD] at e; cases e))
  have hIC : I ≠ C := fun q => by obtain ⟨o, _, e, _⟩ := hI2; (first | exact nSg q fC e | cases sEg q fC e | (rw [q, fC] at e; cases e))
  have hbD : hb.get? Dd = none := c2.inv.newer (by rw [hDe]; exact Nat.le_refl _)
  have hbC : hb.get? C = none := c2.inv.newer (by rw [hDe, hC]; exact Nat.le_succ _)
  have adlt : ∀ a ∈ ad, a < Dd := fun a ha => hDe ▸ c2.st.own.old ha
  have hDad : Dd ∉ ad := fun hm => Nat.lt_irrefl _ (adlt Dd hm)
  have hCad : C ∉ ad := fun hm => by have := adlt C hm; rw [hC] at this; exact Nat.lt_irrefl _ (Nat.lt_of_succ_lt this)
  have hCc : ∀ nm a, (nm, a) ∈ env.cells → a ≠ C := fun nm a hm q => by
    obtain ⟨_, _, _, v, o, e, _⟩ := c2.st.cel nm a hm
    (first | exact nSg q fC e | cases sEg q fC e | (rw [q, fC] at e; cases e))
  have fpD : ∀ b ∈ fp, b ≠ Dd ∧ b ≠ C := fun b hb' => by have := W.old b hb'; rw [hDe] at this; exact ⟨(below b this).2, (below b this).1⟩
  have hfpI : ∀ b ∈ fp, b ≠ tb := fun b hb' => (W.seqs b hb').1
  have cxAt : ∀ (s' : Shared), KeepsX [I] s₂ s' → Cx w hb n A env ls σ ad s' := fun s' k => by
    obtain ⟨o, us, e, d⟩ := hI2
    exact c2.skip W.new e d k
  have carAt : ∀ (s' : Shared), KeepsX [I] s₂ s' → Car s₂.heap s'.heap ad ad [I, tb] := fun s' k => by
    obtain ⟨o, vs, e, d⟩ := hI2
    exact Car.skip k c2.inv.tab e d
  have hDtb : Dd ≠ tb := fun q => by (first | exact nSg q c.inv.bs.tbl hbD | cases sEg q c.inv.bs.tbl hbD | (rw [q, c.inv.bs.tbl] at hbD; cases hbD))
  have h173 : ∀ b, b = tb ∨ b = 173 → b ≠ C ∧ b ≠ Dd := fun b q => by
    have : ∃ o, hb.get? b = some o := by
      rcases q with rfl | rfl
      · exact ⟨_, c.inv.bs.tbl⟩
      · exact ⟨_, c.inv.bs.k 173 _ rfl⟩
    obtain ⟨o, e⟩ := this
    exact ⟨fun q => (by (first | exact nSg q hbC e | cases sEg q hbC e | (rw [q, hbC] at e; cases e))), fun q => (by (first | exact nSg q hbD e | cases sEg q hbD e | (rw [q, hbD] at e; cases e)))⟩
  have loop : ∀ s₃ : Shared, s₃ = { s₂ with heap := h₁, toks := s₂.toks + ([] : List (Str × Value)).length } →
      codeAny (model pg w) A (.compLoop (.SetComp elt [⟨.Name x px, iter, [], 0⟩] scope pos) 0 (.ref I) (.ref Dd) (compEnvC scope cl C env)) (RR (.ref Dd) C) s₃ := by
    rintro s₃ rfl
    refine hideI (I := fun k s' => ∃ i m, i ≤ xs.length ∧ k = xs.length + 1 - i ∧ S i s'.heap ∧ s'.heap.Ns C m ∧ m "_initial_size" = none ∧ KeepsX [I] s₂ s' ∧ ((i = 0 ∧ IsSet0 s'.heap Dd led) ∨ (0 < i ∧ IsSet1 s'.heap Dd led))) fun J hJ => ?_
    refine compLoop_set J ?_ (xs.length + 1) ((hJ _ _).mpr ⟨0, _, Nat.zero_le _, rfl, W.W.frame _ _ _ W.st (fun b _ o e => old b o e), hns₁, rfl, k02, .inl ⟨rfl, hacc⟩⟩)
    intro k s₄ hk
    refine Classical.byContradiction fun hN => ?_
    obtain ⟨i, m, hil, hk0, hS, hnC, hmi, keep, hset⟩ := (hJ _ _).mp hk
    refine hN ?_
    clear hN
    subst hk0
    obtain ⟨oI, vsI, eI, dI⟩ := W.obj i _ hS
    by_cases hlt : i < xs.length
    · refine W.W.item i _ _ _ hlt hS fun v h5 tk5 hP hS5 keep5 => ?_
      have k5 : ∀ b o, b ≠ I → s₄.heap.get? b = some o → h5.get? b = some o := fun b o hb' e => keep5 b o (by simpa using hb') e
      have kI : KeepsX [I] s₄ { s₄ with heap := h5, toks := tk5 } := keepsI c.inv.bs W.new keep5
      have nC5 : h5.Ns C m := hnC.at' fun o e => k5 C o (Ne.symm hIC) e
      refine wpAny_assign_Name (wpAny_storeName_local (env := compEnvC scope cl C env) (lookup_relabel_local hx) nC5 (fun h6 nC6 sb6 => ?_) (by simp [compEnvC, relabel, hkind]))
      have k6 : KeepsX [I] s₂ { s₄ with heap := h6, toks := tk5 + 1 } := by
        refine ⟨fun b o hb' e q => sb6.extBut b o (fun q' => by rw [show b = C from q', fC] at e; cases e) (kI.get b o hb' (keep.get b o hb' e q) q), fun t => ?_, keep.bare, keep.os⟩
        exact tabKeeps (fun b o q e => sb6.extBut b o (h173 b q).1 e) (kI.tab (keep.tab t))
      have setAt6 : ∀ o, s₄.heap.get? Dd = some o → h6.get? Dd = some o := fun o e => sb6.extBut Dd o hDC (k5 Dd o (Ne.symm hID) e)
      have cx6 := cxAt { s₄ with heap := h6, toks := tk5 + 1 } k6
      obtain ⟨e, hxe, re⟩ := W.val h6 _ (carAt _ k6) i v hP
      have hmem : e ∈ xs := List.mem_of_getElem? hxe
      have ce := comp_st (s := { s₄ with heap := h6, toks := tk5 + 1 }) cx6 hf hcl hkind hx hbC hCad hCc nC6 (by simp) re
      have hS6 : S (i + 1) h6 := W.W.frame _ _ _ hS5 fun b hb' o e' => sb6.extBut b o (fpD b hb').2 e'
      have hmi6 : (fun y => if y = x then some v else m y) ("_initial_size" : Str) = none := by simp only [hxi.symm, if_false]; exact hmi
      refine (he C e hmem).use ce fun y s8 k8 ce8 ry => ?_
      (first | obtain rfl := ry.toV | obtain ⟨t, rfl⟩ := ry.toS | obtain ⟨t, rfl⟩ := ry.toI | obtain rfl := ry.toB | cases ry)
      have kh8 := kHeap k8
      have hS8 : S (i + 1) s8.heap := W.W.frame _ _ _ hS6 fun b hb' o e' => kh8.other e' (hfpI b hb')
      have k28 : KeepsX [I] s₂ s8 := k6.trans (.of k8)
      have nC8 := kh8.ns nC6
      rcases hset with ⟨h0, hz⟩ | ⟨h0, hz⟩
      · have hz8 : IsSet0 s8.heap Dd led := kh8.other (setAt6 _ hz) hDtb
        refine set_add_1 hz8 fun h9 sb9 hz9 => ?_
        refine ⟨xs.length + 1 - (i + 1), by lia, (hJ _ _).mpr ⟨i + 1, _, by lia, rfl, ?_, nC8.sameBut sb9 (Ne.symm hDC), hmi6, ?_, .inr ⟨by lia, hz9⟩⟩⟩
        · exact W.W.frame _ _ _ hS8 fun b hb' o e' => sb9.extBut b o (fpD b hb').1 e'
        · refine ⟨fun b o hb' e' q => sb9.extBut b o (fun q' => by (first | exact nSg q' fD e' | cases sEg q' fD e' | (rw [q', fD] at e'; cases e'))) (k28.get b o hb' e' q), fun t => ?_, k28.bare, k28.os⟩
          exact tabKeeps (fun b o q e => sb9.extBut b o (h173 b q).2 e) (k28.tab t)
      · have hz8 : IsSet1 s8.heap Dd led := kh8.other (setAt6 _ hz) hDtb
        refine set_add_2 hz8 ⟨xs.length + 1 - (i + 1), by lia, (hJ _ _).mpr ⟨i + 1, _, by lia, rfl, hS8, nC8, hmi6, ?_, .inr ⟨by lia, hz8⟩⟩⟩
        exact k28.trans (.of (kToks _ _))
    · have hin : i = xs.length := by lia
      subst hin
      refine W.W.done _ _ _ hS fun h5 tk5 keep5 => ?_
      have k5 : ∀ b o, b ≠ I → s₄.heap.get? b = some o → h5.get? b = some o := fun b o hb' e => keep5 b o (by simpa using hb') e
      have kI : KeepsX [I] s₄ { s₄ with heap := h5, toks := tk5 } := keepsI c.inv.bs W.new keep5
      have hz : IsSet1 s₄.heap Dd led := by
        rcases hset with ⟨h0, _⟩ | ⟨_, hz⟩
        · exact absurd (List.length_eq_zero_iff.mp h0) hne
        · exact hz
      exact hRR Dd C _ m led (((KeepsX.of k2).trans (keep.trans kI)).drop hnew).nil (freshs Dd fD) (freshs C fC) hDC (hnC.at' fun o e => k5 C o (Ne.symm hIC) e) hmi (k5 Dd _ (Ne.symm hID) hz) hled hDad hbD
  exact compStart_set (loop _ rfl) (W.W.self 0 _ _ _ (W.W.frame _ _ _ W.st (fun b _ o e => old b o e)) (loop _ rfl))

-- y, = {elt for x in iter}, where every elt is True
theorem Ex.setOne {elt iter : PySem.Expr} {x y : Str} {k : Nat} {px py pos tpos spos : Pos} {scope : Scope} {xs : List D}
    (hsi : Si w hb n env ls σ iter xs) (hf : Free env scope (closOf scope env) x ls fls)
    (he : ∀ C e, e ∈ xs → Ev w hb n (compEnvC scope (closOf scope env) C env) ((x, e) :: fls) σ elt (.bool true)) (hne : xs ≠ []) (hy : Stor env y)
    (hfree : autoParam ((scope.names.all fun x => !(x.2 == NameKind.free) || (env.cells.lookup x.1).isSome) = true) Mine.auR) (hkind : autoParam (scope.kind = .function) Mine.auR) (hx : autoParam (scope.names.lookup x = some .local) Mine.auR) (hcell : autoParam (∀ y ∈ scope.names, y.2 ≠ .cell) Mine.auD) (hxi : autoParam (x ≠ "_initial_size") Mine.auD)
    (hnames : autoParam (∀ y ∈ scope.names, y.2 = .local → scope.names.lookup y.1 = some .local) Mine.auD) (hs : autoParam (∀ x, foldedSetIterable iter env x = pure x) Mine.auI)
    (hsw : autoParam (swapsWithSole [.Tuple [.Name y py] k tpos] (.SetComp elt [⟨.Name x px, iter, [], 0⟩] scope pos) spos.line env = pure false) Mine.auR)
    (hst : autoParam (swappedStores [.Tuple [.Name y py] k tpos] (.SetComp elt [⟨.Name x px, iter, [], 0⟩] scope pos) env = pure Option.none) Mine.auR) :
    Ex w hb n env ls σ (.Assign [.Tuple [.Name y py] k tpos] (.SetComp elt [⟨.Name x px, iter, [], 0⟩] scope pos) spos) (.next ((y, .bool true) :: ls)) := fun A s ad c => by
  have hclos := closOf_ok hfree
  refine Assign_Tuple ?_ hsw hst
  rw [arm_eval_SetComp]
  refine wpAny_comprehension_free (use := Option.none) rfl hs hclos hkind hnames (hsi A s ad c.cx _ _ fun I fp P S s2 k2 hnew W => ?_)
  refine setcomp_block (RR := fun acc C => compPost (model pg w) A (fun _ _ => False) Option.none _ acc C) c.cx k2 hnew W hf hclos hkind hx hcell hxi he hne ?_
  intro Dd C s3 m led k3 f1 f2 f3 hn hm hset hled hD hbD
  refine ⟨m, hn, fun h' hs' => ?_⟩
  have k4 : Keeps s { s3 with heap := h' } := by
    refine ⟨⟨fun b o e q => hs'.extBut b o (fun q' => by (first | exact nSg q' f2 e | cases sEg q' f2 e | (rw [q', f2] at e; cases e))) (k3.heap.get b o e q), fun t => tabKeeps (fun b o q e => hs'.extBut b o (fun q' => ?_) e) (k3.heap.tab t)⟩, k3.bare, k3.os⟩
    have : ∃ o, s.heap.get? b = some o := by
      rcases q with rfl | rfl
      · obtain ⟨o, _, e, _⟩ := c.cx.inv.tab.fields; exact ⟨o, e⟩
      · exact ⟨_, c.cx.kin 173 _ rfl⟩
    obtain ⟨o', e'⟩ := this
    (first | exact nSg q' f2 e' | cases sEg q' f2 e' | (rw [q', f2] at e'; cases e'))
  have c4 := c.keeps k4
  show wpAny _ A (PySem.assign (.Tuple [.Name y py] k tpos) env (.ref Dd)) _ _ _
  rw [arm_assign_Tuple]
  refine wpAny_bind (wpAny_standAt ?_)
  show wpAny _ A (unpack (.ref Dd) (assignEach [.Name y py] env)) _ _ _
  unfold unpack
  refine wpAny_bind (wpAny_holding (unpack_set1 c4.cx.rm.handled (hs'.extBut Dd _ f3 hset) hled fun h5 k5 => ?_))
  have kk5 : Keeps { s3 with heap := h' } { s3 with heap := h5 } := kOfh k5
  have c5 := c4.keeps kk5
  show wpAny _ _ (assignInOrder [PySem.assign (.Name y py) env] [.bool true]) _ _ _
  unfold assignInOrder
  refine wpAny_bind (wpAny_holding (assign_Name (store_ok c5 (.bool true) hy fun s6 k6 c6 => ?_)))
  unfold assignInOrder
  exact wpAny_pure ⟨kfTrans (kfOf (kTrans k4 kk5)) k6, rfl, c6⟩
end
end Mine
end

section
open PySem PySem.W PySem.Calls PyProof.Rows PySem.SeqAt Builtin Builtin.Str
set_option Elab.async false
set_option tactic.hygienic false
set_option linter.unusedVariables false
set_option maxRecDepth 100000
namespace Mine
section
variable {w : World} {hb : Heap} {n : Nat} {A : Around} {env : Env} {ls ls' fls : List (Str × D)} {σ : List Ob} {ad : List Addr} {s s' : Shared} {E : Value → Shared → Prop}
theorem rd_strVals {h : Heap} : ∀ (l : List (Str × Tok)), RdAll h ad (strValues l) ((l.map (·.1)).map .str)
  | [] => .nil
  | p :: l => .cons (.str _ _) (rd_strVals l)
set_option tactic.hygienic true in
theorem Fs.splitS {x y : Str} (hy : (y.length == 0) = false) (hx : x.length ≤ 16777216) (h2 : (partsBetween x (occurrences x y 0 x.length (x.length + 1)) y.length).length ≤ 16777216) :
    Fs w hb n (.builtin "str.split") [.str x, .str y] σ (.lst ((Txt.split x y).map .str)) := fun A s ad vals rm i o r => by
  obtain ⟨v, u, rfl, r1, r2⟩ := r.two
  cases r1; cases r2
  rename_i t1 t2
  have fin : ∀ (l : List (Str × Tok)) (tk : Nat), l.map (·.1) = Txt.split x y → Keeps s { s with heap := s.heap.push { cls := .type "list", data := .seq (strValues l).toArray }, toks := tk } ∧
      Rd (s.heap.push { cls := .type "list", data := .seq (strValues l).toArray }) ad (.ref s.heap.objs.size) (.lst ((Txt.split x y).map .str)) := fun l tk hl =>
    ⟨kOf fun b o e => Heap.get?_push_of_some _ e, hl ▸ rd_newList (rd_strVals l) o⟩
  cases h1 : (decide (x.length < y.length) || decide (strKind x < strKind y))
  · cases hf : (occurrences x y 0 x.length (x.length + 1)).isEmpty
    · refine call_meets F.slot_str_split (typeIs_str _ _ _) F.entry_str_split (F.args_str_split_2 _ _) (meets_str_split_sep x y t1 t2 h1 hy hf (sz hx) (sz h2)) ?_
      show wants _ _ _ { s with toks := _, heap := s.heap.push { cls := .type "list", data := .seq (strsFrom s.toks (partsBetween x (occurrences x y 0 x.length (x.length + 1)) y.length)).toArray } }
      rw [strsFrom_eq]
      exact fin (numbered s.toks _) _ ((numbered_texts _ _).trans ((if_neg (ne_true_of_eq_false h1)).trans (if_neg (ne_true_of_eq_false hf))).symm)
    · exact call_meets F.slot_str_split (typeIs_str _ _ _) F.entry_str_split (F.args_str_split_2 _ _) (meets_str_split_not_found x y t1 t2 h1 hy hf)
        (fin [(x, t1)] _ ((if_neg (ne_true_of_eq_false h1)).trans (if_pos hf)).symm)
  · exact call_meets F.slot_str_split (typeIs_str _ _ _) F.entry_str_split (F.args_str_split_2 _ _) (meets_str_split_cannot_occur x y t1 t2 h1)
      (fin [(x, t1)] _ (if_pos h1).symm)
theorem strs_vals {h : Heap} {vs : List Value} {xs : List Str} (r : RdAll h ad vs (xs.map .str)) : ∃ l : List (Str × Tok), vs = strValues l ∧ l.map (·.1) = xs :=
  RdAll.ind (P := fun vs ds => ∀ xs : List Str, ds = xs.map .str → ∃ l : List (Str × Tok), vs = strValues l ∧ l.map (·.1) = xs) (fun xs e => ⟨[], rfl, by cases xs with | nil => rfl | cons x xs => cases e⟩) (fun h1 _ ih xs e => by
    cases xs with
    | nil => cases e
    | cons x xs =>
      obtain ⟨e1, e2⟩ := List.cons.inj e
      obtain ⟨t, rfl⟩ := (e1 ▸ h1).toS
      obtain ⟨l, q1, q2⟩ := ih xs e2
      exact ⟨(x, t) :: l, by rw [q1]; rfl, by rw [List.map_cons, q2]⟩) r xs rfl
theorem Fs.joinL {x : Str} {d : D} {texts : List Str} (hd : IsL σ d (texts.map .str)) (hok : JoinOk x texts = true) : Fs w hb n (.builtin "str.join") [.str x, d] σ (.str (Txt.join x texts)) := fun A s ad vals rm i o r => by
  obtain ⟨v, u, rfl, r1, r2⟩ := r.two
  (first | obtain rfl := r1.toV | obtain ⟨t, rfl⟩ := r1.toS | obtain ⟨t, rfl⟩ := r1.toI | obtain rfl := r1.toB | cases r1)
  obtain ⟨a, ob, vs, m, rfl, e1, e2, e3, e4, e5⟩ := r2.isL hd o
  obtain ⟨l, q1, q2⟩ := strs_vals e5
  have : vs = (strValues l).toArray := by rw [← q1]
  subst this
  exact SC.join ⟨ob, e1, e2, m, e4⟩ q2 hok fun t k => ⟨kToks _ _, .str _ _⟩
end
end Mine
end

section
open PySem PySem.W PySem.Calls PyProof.Rows PySem.SeqAt
set_option Elab.async false
set_option tactic.hygienic false
set_option linter.unusedVariables false
set_option maxRecDepth 100000
namespace Mine
-- objects that are nobody's data
noncomputable def Flds (hb : Heap) (X : List Addr) (h : Heap) : Prop := ∀ b ∈ X, hb.get? b = none ∧ ∃ o vs, h.get? b = some o ∧ o.data = .fields vs
section
variable {w : World} {hb : Heap} {n : Nat} {A : Around} {env : Env} {ls ls' fls : List (Str × D)} {σ : List Ob} {ad : List Addr} {s s' : Shared} {E : Value → Shared → Prop} {X : List Addr}
theorem Flds.nd (h : Flds hb X s.heap) (t : TabOk s.heap) : ∀ b ∈ tb :: X, b ∈ ad ∨ ((∀ o, s.heap.get? b = some o → ∀ vs n, o.data ≠ .seq vs n) ∧ ∀ t, ¬ s.heap.Ns b (accNs t)) := fun b hm => .inr (by
  rcases memc hm with rfl | hm
  · exact t.nd
  · obtain ⟨_, o, vs, e, d⟩ := h b hm
    exact nd_fields e d)
theorem Car.skips (h : Flds hb X s.heap) (k : KeepsX X s s') (t : TabOk s.heap) : Car s.heap s'.heap ad ad (tb :: X) :=
  ⟨fun b o hb' e => ⟨o, kfHeap k b o (fun q => hb' (List.mem_cons_of_mem _ q)) (fun q => hb' (by rw [q]; exact List.mem_cons_self)) e, .refl o⟩, h.nd t, fun _ _ e => e, fun _ e => .inl e⟩
theorem Cs.skips (c : Cs w hb n A env ls σ ad s) (h : Flds hb X s.heap) (k : KeepsX X s s') : Cs w hb n A env ls σ ad s' := by
  have car := Car.skips (ad := ad) h k c.cx.inv.tab
  have nf : ∀ b ob, s.heap.get? b = some ob → (∀ us, ob.data ≠ .fields us) → b ∉ X := fun b ob eb f q => by
    obtain ⟨_, o, vs, e, d⟩ := h b q
    (first | exact nS e eb | exact nS eb e | exact nD e eb | exact nD eb e | cases sE e eb | (rw [e] at eb; cases eb)); exact f vs d
  have nns : ∀ b m, s.heap.Ns b m → b ∉ X := fun b m hn => let ⟨ob, _, _, eb, hd', _⟩ := hn; nf b ob eb fun us q => by (first | exact nS hd' q | exact nS q hd' | exact nD hd' q | exact nD q hd' | cases sE hd' q | (rw [hd'] at q; cases q))
  have nc : ∀ b v, s.heap.IsCell b v → b ∉ X := fun b v hn => let ⟨ob, eb, hd'⟩ := hn; nf b ob eb fun us q => by (first | exact nS hd' q | exact nS q hd' | exact nD hd' q | exact nD q hd' | cases sE hd' q | (rw [hd'] at q; cases q))
  have kns : ∀ b m, s.heap.Ns b m → s'.heap.Ns b m := fun b m hn => k.ns hn (nns b m hn)
  have kc : ∀ b v, s.heap.IsCell b v → s'.heap.IsCell b v := fun b v hn => k.cell hn (nc b v hn)
  refine ⟨⟨⟨c.cx.rm.handled, c.cx.rm.depth, c.cx.rm.units, ?_⟩, k.inv c.cx.inv (fun b hm => (h b hm).1), ?_⟩, c.top, ?_, c.fn.kin, c.fn.cel, c.fn.apart, c.fn.frame⟩
  · obtain ⟨outer, e1, e2⟩ := c.cx.rm.frames
    refine ⟨outer, e1, fun env' he => ?_⟩
    obtain ⟨q, L, ob, h1, h2, h3, h4⟩ := e2 env' he
    exact ⟨q, L, ob, h1, h2, k.get L ob (nf L ob h3 h4.1) h3 fun _ => h4.1, h4⟩
  · exact {
      nm := fun y d q => by
        obtain ⟨v, z, r⟩ := c.cx.st.nm y d q
        refine ⟨v, ?_, r.car car⟩
        rcases z with ⟨a, m, b, e'⟩ | ⟨a, cl, b, e'⟩
        · exact .inl ⟨a, m, kns _ _ b, e'⟩
        · exact .inr ⟨a, cl, b, kc _ _ e'⟩
      ns := let ⟨m, hn⟩ := c.cx.st.ns; ⟨m, kns _ _ hn⟩
      loc := c.cx.st.loc
      locad := c.cx.st.locad
      cel := fun nm cl hm => let ⟨a, b, d', vv, z⟩ := c.cx.st.cel nm cl hm; ⟨a, b, d', vv, kc _ _ z⟩
      kind := c.cx.st.kind
      glo := c.cx.st.glo
      bui := c.cx.st.bui
      own := ⟨c.cx.st.own.len, c.cx.st.own.nd, c.cx.st.own.new, fun i a ob e1 e2 => (c.cx.st.own.at' i a ob e1 e2).car car fun ob' e' => by
        obtain ⟨ob2, vs2, m2, q1, q2⟩ := c.cx.st.own.seqs (List.mem_of_getElem? e1)
        (first | exact nS e' q1 | exact nS q1 e' | exact nD e' q1 | exact nD q1 e' | cases sE e' q1 | (rw [e'] at q1; cases q1))
        have f : ∀ us, ob'.data ≠ .fields us := fun us q => by (first | exact nS q2 q | exact nS q q2 | exact nD q2 q | exact nD q q2 | cases sE q2 q | (rw [q2] at q; cases q))
        exact ⟨ob', k.get a ob' (nf a ob' e' f) e' fun _ => f, .refl _⟩⟩ }
  · obtain ⟨m, hn, hi⟩ := c.fn.nsf
    exact ⟨m, kns _ _ hn, hi⟩
theorem keepsXs {h4 : Heap} {tk4 : Nat} (bs : Bs w hb) (hX : ∀ b ∈ X, hb.get? b = none) (k : ∀ b o, b ∉ X → s.heap.get? b = some o → h4.get? b = some o) : KeepsX X s { s with heap := h4, toks := tk4 } :=
  ⟨fun b o hb' e _ => k b o hb' e, tabKeeps fun b o q e => k b o (fun q' => by
      have hn := hX b q'
      rcases q with rfl | rfl
      · (first | exact nS bs.tbl hn | exact nS hn bs.tbl | exact nD bs.tbl hn | exact nD hn bs.tbl | cases sE bs.tbl hn | (rw [bs.tbl] at hn; cases hn))
      · (first | exact nS (bs.k 173 _ rfl) hn | exact nS hn (bs.k 173 _ rfl) | exact nD (bs.k 173 _ rfl) hn | exact nD hn (bs.k 173 _ rfl) | cases sE (bs.k 173 _ rfl) hn | (rw [bs.k 173 _ rfl] at hn; cases hn))) e, id, rfl⟩

-- for i, c in enumerate(list): every turn before stop goes on; at stop the list ends, or the body breaks
theorem Ex.forEnum {xi xv : Str} {pi pv pt np pos cpos : Pos} {k0 : Nat} {e : PySem.Expr} {body : List Stmt} {d : D} {xs : List D} (inv : Nat → List (Str × D)) (stop : Nat) (lsF : List (Str × D))
    (hn : Ev w hb n env ls σ (.Name "enumerate" np) (.val (.type "enumerate"))) (ha : EvA w hb n env ls σ [e] [d]) (hd : IsL σ d xs) (hxi : Stor env xi) (hxv : Stor env xv)
    (h0 : ∀ y e, (inv 0).lookup y = some e → ls.lookup y = some e) (hstop : stop ≤ xs.length)
    (step : ∀ i e, i < stop → xs[i]? = some e → ∃ l, Exs w hb n env ((xv, e) :: (xi, .int i) :: inv i) σ body (.next l) ∧ ∀ y e', (inv (i + 1)).lookup y = some e' → l.lookup y = some e')
    (last : (stop = xs.length ∧ lsF = inv stop) ∨ ∃ e, xs[stop]? = some e ∧ Exs w hb n env ((xv, e) :: (xi, .int stop) :: inv stop) σ body (.brk lsF))
    (hs : autoParam (∀ x, foldedSetIterable (.Call (.Name "enumerate" np) [e] [] cpos) env x = pure x) Mine.auI)
    (hae : autoParam (assignEach [.Name xi pi, .Name xv pv] env = [(false, PySem.assign (.Name xi pi) env), (false, PySem.assign (.Name xv pv) env)]) Mine.auR) :
    Ex w hb n env ls σ (.For (.Tuple [.Name xi pi, .Name xv pv] k0 pt) (.Call (.Name "enumerate" np) [e] [] cpos) body [] pos) (.next lsF) := fun A s ad c => by
  refine wpAny_For ?_ hs
  refine wpAny_Call_NameR (hn.useS c fun v s1 k1 c1 r1 => ?_)
  (first | obtain rfl := r1.toV | obtain ⟨t, rfl⟩ := r1.toS | obtain ⟨t, rfl⟩ := r1.toI | obtain rfl := r1.toB | cases r1)
  refine callWith_any Kpr.typ ha c1.cx fun vs s2 k2 c2' r2 => ?_
  have c2 := c1.keeps k2
  obtain ⟨v, rfl, q2⟩ := r2.one
  obtain ⟨l, ob, items, m, rfl, e1, e2, e3, e4, e5⟩ := q2.isL hd c2.cx.st.own
  have l1 := e5.length
  rw [Array.length_toList] at l1
  rw [List.nil_append]
  refine call_enumerate_list ⟨ob, e1, e2, m, e4⟩ fun h3 hE hI hz3 keep3 => ?_
  generalize hit : s2.heap.objs.size = it at *
  generalize hen : (it + 1 : Nat) = en at *
  refine wpAny_pyIter_enum hE ?_
  have k3 : Keeps s2 { s2 with heap := h3 } := kOfh keep3
  have c3 := c2.keeps k3
  have fit : s2.heap.get? it = Option.none := hit ▸ fresh_none s2
  have fen : s2.heap.get? en = Option.none := new_none (s := s2) (b := en) (by rw [hit, ← hen]; exact Nat.le_succ _)
  have nit : hb.get? it = Option.none := c2.cx.inv.newer (by rw [hit]; exact Nat.le_refl _)
  have nen : hb.get? en = Option.none := c2.cx.inv.newer (a := en) (by rw [hit, ← hen]; exact Nat.le_succ _)
  have hne : en ≠ it := by rw [← hen]; exact Nat.succ_ne_self it
  have hle : l ≠ en := fun q => by (first | exact nSg q fen e1 | cases sEg q fen e1 | (rw [q, fen] at e1; cases e1))
  have hli : l ≠ it := fun q => by (first | exact nSg q fit e1 | cases sEg q fit e1 | (rw [q, fit] at e1; cases e1))
  have W := WalksT.enumerate (prog := pg) (w := w) c3.cx.rm.handled en it l hne hle hli items
  have hX : ∀ b ∈ [en, it], hb.get? b = Option.none := fun b hm => by
    (first | replace hm := mem2 hm | replace hm := mem3 hm | simp only [List.mem_cons, List.not_mem_nil, or_false] at hm)
    rcases hm with q | q <;> (rw [q]; assumption)
  have flds : ∀ (i : Nat) h, ((∃ old, IsEnum h en it i old) ∧ h.IsListIter it l i ∧ h.IsList l items) → Flds hb [en, it] h := fun i h ⟨⟨old, q1⟩, ⟨o2, q2, q3, q4⟩, _⟩ b hm => by
    refine ⟨hX b hm, ?_⟩
    (first | replace hm := mem2 hm | replace hm := mem3 hm | simp only [List.mem_cons, List.not_mem_nil, or_false] at hm)
    rcases hm with q | q <;> subst b
    · exact ⟨_, _, q1, rfl⟩
    · exact ⟨o2, _, q2, q4⟩
  have lfx : ∀ (s : Shared) (ls : List (Str × D)), Cs w hb n A env ls σ ad s → ∀ i : Nat, ((∃ old, IsEnum s.heap en it i old) ∧ s.heap.IsListIter it l i ∧ s.heap.IsList l items) → ∀ b ∈ [en, it, l], b ∉ fx env ∧ b ≠ tb := fun s ls c i ⟨⟨old, q1⟩, ⟨o2, q2, q3, q4⟩, ⟨o3, q5, q6, n3, q7⟩⟩ b hm => by
    refine ⟨fun hf => ?_, fun q => ?_⟩
    · obtain ⟨_, _, ob, g1, g2, _, g3⟩ := c.fxcls hf
      (first | replace hm := mem2 hm | replace hm := mem3 hm | simp only [List.mem_cons, List.not_mem_nil, or_false] at hm)
      rcases hm with q0 | q0 | q0 <;> subst b
      · (first | exact nS q1 g1 | exact nS g1 q1 | exact nD q1 g1 | exact nD g1 q1 | cases sE q1 g1 | (rw [q1] at g1; cases g1)); exact g3 _ rfl
      · (first | exact nS q2 g1 | exact nS g1 q2 | exact nD q2 g1 | exact nD g1 q2 | cases sE q2 g1 | (rw [q2] at g1; cases g1)); exact g3 _ q4
      · (first | exact nS q5 g1 | exact nS g1 q5 | exact nD q5 g1 | exact nD g1 q5 | cases sE q5 g1 | (rw [q5] at g1; cases g1)); exact g2 _ _ q7
    · obtain ⟨o, vs, e, hd⟩ := c.cx.inv.tab.fields
      (first | replace hm := mem2 hm | replace hm := mem3 hm | simp only [List.mem_cons, List.not_mem_nil, or_false] at hm)
      rcases hm with q0 | q0 | q0 <;> rw [q0] at q
      · have := nen; (first | exact nSg q c.cx.inv.bs.tbl this | cases sEg q c.cx.inv.bs.tbl this | (rw [q, c.cx.inv.bs.tbl] at this; cases this))
      · have := nit; (first | exact nSg q c.cx.inv.bs.tbl this | cases sEg q c.cx.inv.bs.tbl this | (rw [q, c.cx.inv.bs.tbl] at this; cases this))
      · (first | exact nSg q e q5 | cases sEg q e q5 | (rw [q, e] at q5; cases q5)); (first | exact nS hd q7 | exact nS q7 hd | exact nD hd q7 | exact nD q7 hd | cases sE hd q7 | (rw [hd] at q7; cases q7))
  have St0 : (∃ old, IsEnum h3 en it ((0 : Nat) : Int) old) ∧ h3.IsListIter it l 0 ∧ h3.IsList l items := ⟨⟨_, hE⟩, hI, ⟨ob, keep3 _ _ e1, e2, m, e4⟩⟩
  have hX3 : ∀ b ∈ tb :: ([en, it] ++ fx env), b ∈ ad ∨ ((∀ o, h3.get? b = some o → ∀ vs n, o.data ≠ .seq vs n) ∧ ∀ t, ¬ h3.Ns b (accNs t)) := fun b hm => by
    rcases memc hm with rfl | hm
    · exact .inr c3.cx.inv.tab.nd
    · rcases List.mem_append.mp hm with hm | hm
      · exact (flds 0 h3 St0).nd (s := { s2 with heap := h3 }) c3.cx.inv.tab b (List.mem_cons_of_mem _ hm)
      · obtain ⟨_, _, o', e', cc, cc', _⟩ := c3.fxcls hm
        exact .inr ⟨fun o e => by (first | exact nS e e' | exact nS e' e | exact nD e e' | exact nD e' e | cases sE e e' | (rw [e] at e'; cases e')); exact cc, cc'⟩
  have sub1 : ∀ b ∈ [en, it], b ∈ [en, it] ++ fx env := fun b hm => List.mem_append_left _ hm
  have sub2 : ∀ b ∈ fx env, b ∈ [en, it] ++ fx env := fun b hm => List.mem_append_right _ hm
  have fin : ∀ s', KeepsX ([en, it] ++ fx env) { s2 with heap := h3 } s' → KeepsF env s s' := fun s' kk => by
    have k123 := kTrans k1 (kTrans k2 k3)
    refine ⟨fun b o hb' e q => kk.get b o (fun hm => ?_) (k123.heap.get b o e q) q, fun t => kk.tab (k123.heap.tab t), fun t => kk.bare (k123.bare t), kk.os.trans k123.os⟩
    rcases List.mem_append.mp hm with hm | hm
    · have e' := (kTrans k1 k2).heap.get b o e q
      (first | replace hm := mem2 hm | replace hm := mem3 hm | simp only [List.mem_cons, List.not_mem_nil, or_false] at hm)
      rcases hm with q0 | q0 <;> subst b
      · (first | exact nS fen e' | exact nS e' fen | exact nD fen e' | exact nD e' fen | cases sE fen e' | (rw [fen] at e'; cases e'))
      · (first | exact nS fit e' | exact nS e' fit | exact nD fit e' | exact nD e' fit | cases sE fit e' | (rw [fit] at e'; cases e'))
    · exact hb' hm
  refine hideR fun R' hR => hideI (I := fun k s' => ∃ i, i ≤ stop ∧ k = xs.length + 1 - i ∧ ((∃ old, IsEnum s'.heap en it (i : Nat) old) ∧ s'.heap.IsListIter it l i ∧ s'.heap.IsList l items) ∧ Cs w hb n A env (inv i) σ ad s' ∧
      KeepsX ([en, it] ++ fx env) { s2 with heap := h3 } s' ∧ ∃ ex, Car h3 s'.heap ad ad ex) fun J hJ => ?_
  refine codeAny_forLoop_any J ?_ (xs.length + 1) ((hJ _ _).mpr ⟨0, Nat.zero_le _, rfl, St0, c3.sub h0, .refl _ _, [], Car.refl _ _⟩)
  intro k s4 hQ
  obtain ⟨i, hi, rfl, hSt, c4, keep4, ex, car4⟩ := (hJ _ _).mp hQ
  by_cases hlt : i < xs.length
  · refine W.item i s4 _ _ (by lia) hSt fun T vals h5 tk5 hPt hTn hT hMid keep5 => ?_
    have k45 : KeepsX [en, it] s4 { s4 with heap := h5, toks := tk5 } := keepsXs c4.cx.inv.bs hX keep5
    refine W.go _ _ _ i T { s4 with heap := h5, toks := tk5 } _ _ hMid fun h6 hSt6 keep6 => ?_
    have k56 : KeepsX [en, it] { s4 with heap := h5, toks := tk5 } { s4 with heap := h6, toks := tk5 } := keepsXs (s := { s4 with heap := h5, toks := tk5 }) c4.cx.inv.bs hX keep6
    have k46 := k45.trans k56
    have c6 := c4.skips (flds i _ hSt) k46
    have hT6 : h6.IsTuple T vals := by
      obtain ⟨o, q1, q2, n', q3⟩ := hT
      exact ⟨o, keep6 T o (W.apart i T h5 hMid) q1, q2, n', q3⟩
    obtain ⟨t, x, hx, rfl⟩ := hPt
    obtain ⟨e', he', rx⟩ := e5.get i x (by simpa using hx)
    have kk46 : ∀ b o, b ∉ tb :: ([en, it] ++ fx env) → s4.heap.get? b = some o → h6.get? b = some o := fun b o hb' e => kfHeap k46 b o (fun q => hb' (List.mem_cons_of_mem _ (sub1 b q))) (fun q => hb' (by rw [q]; exact List.mem_cons_self)) e
    have rx6 : Rd h6 ad x e' := ((rx.keeps k3.heap).car (car4.step kk46 hX3))
    refine wpAny_assign_Tuple c6.cx.rm.handled hT6 (by rw [hae]; rfl) (by rw [hae]; rfl) fun h7 ext7 => ?_
    rw [hae]
    have k67 : Keeps { s4 with heap := h6, toks := tk5 } { s4 with heap := h7, toks := tk5 } := keeps_extBut (s := { s4 with heap := h6, toks := tk5 }) ext7
    have c7 := c6.keeps k67
    show wpAny _ _ (assignInOrder [PySem.assign (.Name xi pi) env, PySem.assign (.Name xv pv) env] [.int i t, x]) _ _ _
    unfold assignInOrder
    refine wpAny_bind (wpAny_holding (assign_Name (store_ok c7 (.int _ _) hxi fun s8 k8 c8 => ?_)))
    unfold assignInOrder
    refine wpAny_bind (wpAny_holding (assign_Name (store_ok c8 ((rx6.keeps k67.heap).car (c7.car k8)) hxv fun s9 k9 c9 => ?_)))
    unfold assignInOrder
    refine wpAny_pure ?_
    have k49 : KeepsX ([en, it] ++ fx env) s4 s9 := (k46.mono sub1).trans ((KeepsX.of k67).trans ((kfTrans k8 k9).mono sub2))
    by_cases his : i < stop
    · obtain ⟨lx, hex, hsub⟩ := step i e' his he'
      refine wpAny_mono (hex A s9 ad c9) (fun fl s10 q => ?_) fun _ _ f => f.elim
      obtain ⟨k10, rfl, c10⟩ := q
      have k4a : KeepsX ([en, it] ++ fx env) s4 s10 := k49.trans (k10.mono sub2)
      have k7a : KeepsF env { s4 with heap := h7, toks := tk5 } s10 := kfTrans (kfTrans k8 k9) k10
      refine ⟨xs.length + 1 - (i + 1), by lia, (hJ _ _).mpr ⟨i + 1, by lia, rfl, ?_, c10.sub hsub, keep4.trans k4a, _, car4.step (X := tb :: ([en, it] ++ fx env)) (fun b o hb' e => kfHeap k4a b o (fun q => hb' (List.mem_cons_of_mem _ q)) (fun q => hb' (by rw [q]; exact List.mem_cons_self)) e) hX3⟩⟩
      refine W.frame (i + 1) h6 _ hSt6 fun b hm o e => ?_
      obtain ⟨z1, z2⟩ := lfx s4 _ c4 i hSt b hm
      exact kfHeap k7a b o z1 z2 (k67.heap.other e z2)
    · have hie : i = stop := by lia
      rcases last with ⟨q1, q2⟩ | ⟨e'', q1, q2⟩
      · lia
      · subst hie
        (first | exact nS he' q1 | exact nS q1 he' | exact nD he' q1 | exact nD q1 he' | cases sE he' q1 | (rw [he'] at q1; cases q1))
        refine wpAny_mono (q2 A s9 ad c9) (fun fl s10 q => ?_) fun _ _ f => f.elim
        obtain ⟨k10, rfl, c10⟩ := q
        exact hR _ _ ⟨fin _ (keep4.trans (k49.trans (k10.mono sub2))), rfl, c10⟩
  · have hin : i = items.size := by lia
    subst hin
    refine W.done s4 _ _ hSt fun h5 tk5 keep5 => ?_
    have k45 : KeepsX [en, it] s4 { s4 with heap := h5, toks := tk5 } := keepsXs c4.cx.inv.bs hX keep5
    have c5 := c4.skips (flds _ _ hSt) k45
    rcases last with ⟨q1, q2⟩ | ⟨e'', q1, q2⟩
    · have : items.size = stop := by lia
      rw [q2, ← this] at hR
      exact wpAny_execs_nil (hR _ _ ⟨fin _ (keep4.trans (k45.mono sub1)), rfl, c5⟩)
    · have : stop < xs.length := (List.getElem?_eq_some_iff.mp q1).1
      lia
end
end Mine
end

section
open PySem PySem.W PySem.Calls PyProof.Rows
set_option Elab.async false
set_option tactic.hygienic false
set_option linter.unusedVariables false
namespace Mine
/-! cuts of lists, in plain words -/
theorem fm_range {α : Type} (xs : List α) (a : Nat) : ∀ m, ((List.range m).map (a + ·)).filterMap (xs[·]?) = (xs.drop a).take m
  | 0 => by simp
  | m + 1 => by
    rw [List.range_succ, List.map_append, List.filterMap_append, fm_range xs a m, List.take_add_one, List.getElem?_drop]
    congr 1
theorem pick_ab {α : Type} (xs : List α) {lo hi : Option Int} {a b : Nat} (e : sliceBounds lo hi none xs.length = ((a : Int), (b : Int), 1)) : pick xs lo hi none = (xs.drop a).take (b - a) := by
  unfold pick
  rw [e]
  show (sliceRange (a : Int) (b : Int) 1).filterMap _ = _
  rw [sliceRange_one, fm_range]
theorem pick_take {α : Type} {xs : List α} (k : Nat) : pick xs none (some (k : Int)) none = xs.take k := by
  have e : sliceBounds none (some (k : Int)) none xs.length = (((0 : Nat) : Int), ((min k xs.length : Nat) : Int), 1) := by
    unfold sliceBounds
    simp only [Option.getD_none]
    have h1 : ¬ ((k : Int) < 0) := by lia
    simp only [h1, if_false]
    rw [if_pos (by decide), if_pos (by decide)]
    congr 2
    lia
  rw [pick_ab xs e, List.drop_zero, Nat.sub_zero]
  rcases Nat.le_total k xs.length with h | h
  · rw [Nat.min_eq_left h]
  · rw [Nat.min_eq_right h, List.take_length, List.take_of_length_le h]
theorem pick_drop {α : Type} {xs : List α} (k : Nat) : pick xs (some (k : Int)) none none = xs.drop k := by
  have e : sliceBounds (some (k : Int)) none none xs.length = (((min k xs.length : Nat) : Int), ((xs.length : Nat) : Int), 1) := by
    unfold sliceBounds
    simp only [Option.getD_none]
    have h1 : ¬ ((k : Int) < 0) := by lia
    simp only [h1, if_false]
    rw [if_pos (by decide), if_pos (by decide)]
    congr 1
    lia
  rw [pick_ab xs e]
  rcases Nat.le_total k xs.length with h | h
  · rw [Nat.min_eq_left h, List.take_of_length_le (by simp)]
  · rw [Nat.min_eq_right h]; simp [List.drop_of_length_le h]
theorem pick_butLast {α : Type} {xs : List α} : pick xs none (some (-1)) none = xs.dropLast := by
  have e : sliceBounds none (some (-1 : Int)) none xs.length = (((0 : Nat) : Int), ((xs.length - 1 : Nat) : Int), 1) := by
    unfold sliceBounds
    simp only [Option.getD_none]
    rw [if_pos (by decide), if_pos (by decide), if_pos (by decide)]
    congr 2
    lia
  rw [pick_ab xs e, List.drop_zero, Nat.sub_zero, List.dropLast_eq_take]
theorem fm_rev {α : Type} (xs : List α) : ((List.range xs.length).map fun k => xs.length - 1 - k).filterMap (xs[·]?) = xs.reverse := by
  have e : ∀ (l : List Nat), (∀ k ∈ l, k < xs.length) → (l.map fun k => xs.length - 1 - k).filterMap (xs[·]?) = l.filterMap (xs.reverse[·]?) := by
    intro l
    induction l with
    | nil => intro _; rfl
    | cons k l ih =>
      intro h
      rw [List.map_cons, List.filterMap_cons, List.filterMap_cons, ih fun q hq => h q (List.mem_cons_of_mem _ hq), List.getElem?_reverse (h k List.mem_cons_self)]
  rw [e _ fun k hk => List.mem_range.mp hk]
  have := fm_range xs.reverse 0 xs.length
  simp only [Nat.zero_add] at this
  rw [List.map_id'] at this
  rw [this, List.drop_zero, ← List.length_reverse, List.take_length]
theorem pick_rev {α : Type} {xs : List α} : pick xs none none (some (-1)) = xs.reverse := by
  unfold pick
  rw [krv_bounds]
  show (sliceRange ((xs.length : Int) - 1) (-1) (-1)).filterMap _ = _
  rw [krv_sliceRange, fm_rev]
-- every fourth from k on
noncomputable def every4 (k : Nat) (xs : List Int) : List Int := pick xs (some (k : Int)) none (some 4)
theorem pick_map {α β : Type} (f : α → β) (xs : List α) (lo hi st : Option Int) : pick (xs.map f) lo hi st = (pick xs lo hi st).map f := by
  unfold pick
  rw [List.length_map, List.map_filterMap]
  congr 1
  funext i
  rw [List.getElem?_map]
end Mine
end

section
open PySem PySem.W PySem.Calls PyProof.Rows
set_option Elab.async false
set_option tactic.hygienic false
set_option linter.unusedVariables false
set_option maxRecDepth 100000
namespace Mine
section
variable {w : World} {hb : Heap} {n : Nat} {σ : List Ob}

theorem fs_fspath {x : Str} : Fs w hb (n + 1) (.ref 94) [.str x] σ (.str x) := by
  refine Fs.of_def ["path"] rfl rfl (fun L => ?_) ?_
  · refine Exs.cons (Ex.assign (Ev.call (Ev.blt rfl rfl (by boot_by_name)) Kpr.typ (EvA.plain (EvS.cons (Ev.name rfl) EvS.nil)) Fs.typeS) (.inl rfl)) ?_
    refine Exs.ret (Ex.iff (b := true) (Tr.val (Ev.call (Ev.blt rfl rfl (by boot_by_name)) Kpr.blt (EvA.plain (EvS.cons (Ev.name rfl) (EvS.cons (Ev.tuple (EvS.cons (Ev.blt rfl rfl (by boot_by_name)) (EvS.cons (Ev.blt rfl rfl (by boot_by_name)) EvS.nil))) EvS.nil))) Fs.issub) Th.bool) ?_)
    exact Exs.ret (Ex.ret (Ev.name rfl))
  · exact len1 fun a => rfl
theorem fs_get_sep {x : Str} : Fs w hb (n + 1) (.ref 108) [.str x] σ (.str "/") := by
  refine Fs.of_def ["path"] rfl rfl (fun L => ?_) ?_
  · refine Exs.ret (Ex.iff (b := false) (Tr.val (Ev.call (Ev.blt rfl rfl (by boot_by_name)) Kpr.blt (EvA.plain (EvS.cons (Ev.name rfl) (EvS.cons (Ev.blt rfl rfl (by boot_by_name)) EvS.nil))) Fs.isiB) Th.bool) ?_)
    exact Exs.ret (Ex.ret Ev.str)
  · exact len1 fun a => rfl
end
end Mine
end

section
open PySem PySem.W PySem.Calls PyProof.Rows
set_option Elab.async false
set_option tactic.hygienic false
set_option linter.unusedVariables false
set_option maxRecDepth 100000
namespace Mine
section
variable {w : World} {hb : Heap} {n : Nat} {env : Env} {ls : List (Str × D)} {σ : List Ob}

theorem ev_fspath {x : Str} {e : PySem.Expr} {np pos : Pos} (he : Ev w hb (n + 1) env ls σ e (.str x)) (hk : autoParam (env.kindOf ("fspath" : Str) = some .globalImplicit) Mine.auR) (hs : autoParam (starEach [e] env = [(false, eval e env)]) Mine.auR) :
    Ev w hb (n + 1) env ls σ (.Call (.Name "fspath" np) [e] [] pos) (.str x) := Ev.call (Ev.glob hk rfl) (Kpr.K rfl) (EvA.plain (EvS.cons he EvS.nil hs) hs) fs_fspath
theorem ev_get_sep {x : Str} {e : PySem.Expr} {np pos : Pos} (he : Ev w hb (n + 1) env ls σ e (.str x)) (hk : autoParam (env.kindOf ("_get_sep" : Str) = some .globalImplicit) Mine.auR) (hs : autoParam (starEach [e] env = [(false, eval e env)]) Mine.auR) :
    Ev w hb (n + 1) env ls σ (.Call (.Name "_get_sep" np) [e] [] pos) (.str "/") := Ev.call (Ev.glob hk rfl) (Kpr.K rfl) (EvA.plain (EvS.cons he EvS.nil hs) hs) fs_get_sep

noncomputable def splitHead (x : Str) : Str := Txt.slice x none (some (Txt.rfind x "/" + 1))
noncomputable def splitTail (x : Str) : Str := Txt.slice x (some (Txt.rfind x "/" + 1)) none
noncomputable def splitH (x : Str) : Str := if ((splitHead x).length : Int) != 0 && splitHead x != Txt.mul "/" (splitHead x).length then Txt.rstripChars (splitHead x) "/" else splitHead x

theorem fs_split {x : Str} (hx : x.length ≤ 1000) : Fs w hb (n + 2) (.ref 122) [.str x] σ (.tup [.str (splitH x), .str (splitTail x)]) := by
  have h1 : (splitHead x).length ≤ 1000 := Nat.le_trans (Txt.slice_le _ _ _) hx
  refine Fs.of_def ["p"] rfl rfl (fun L => ?_) ?_
  · refine Exs.cons (Ex.assign (ev_fspath (Ev.name rfl)) (.inl rfl)) ?_
    refine Exs.cons (Ex.assign (ev_get_sep (Ev.name rfl)) (.inl rfl)) ?_
    refine Exs.cons (Ex.assign (Ev.bin (Ev.meth (Ev.name rfl) (EvA.plain (EvS.cons (Ev.name rfl) EvS.nil)) Fs.rfind F.plainAttrs_str F.slot_str_rfind F.type_str_rfind (.inl ⟨rfl, _, rfl⟩)) Ev.int Bo.addI) (.inl rfl)) ?_
    refine Exs.cons (Ex.swap2 (Ev.tuple (EvS.cons (Ev.cutS (Ev.name rfl) EvP.no (EvP.yes (Ev.name rfl)) (by lia)) (EvS.cons (Ev.cutS (Ev.name rfl) (EvP.yes (Ev.name rfl)) EvP.no (by lia)) EvS.nil))) (.inl rfl) (.inl rfl)) ?_
    have ret : ∀ (y : Str) (ls' : List (Str × D)) (env : Env), List.lookup ("head" : Str) ls' = some (.str y) → List.lookup ("tail" : Str) ls' = some (.str (splitTail x)) → y = splitH x → ∀ p1 p2 p3 p4, Exs w hb (n + 1) env ls' σ [Stmt.Return (some (.Tuple [.Name "head" p1, .Name "tail" p2] 0 p3)) p4] (.ret (.tup [.str (splitH x), .str (splitTail x)])) :=
      fun y ls' env e1 e2 e3 p1 p2 p3 p4 => e3 ▸ Exs.ret (Ex.ret (Ev.tuple (EvS.cons (Ev.name e1) (EvS.cons (Ev.name e2) EvS.nil))))
    cases c1 : ((splitHead x).length : Int) != 0 with
    | false =>
      have e : splitH x = splitHead x := by unfold splitH; rw [c1]; rfl
      refine Exs.cons (Ex.iff (b := false) (Tr.and1 (c1 ▸ Tr.val (Ev.name rfl) (Th.str (x := splitHead x) (by lia)))) Exs.nil) ?_
      exact ret (splitHead x) _ _ rfl rfl e.symm _ _ _ _
    | true =>
      have t1 : ∀ (env : Env) (ls' : List (Str × D)) (p : Pos), List.lookup ("head" : Str) ls' = some (.str (splitHead x)) → Tr w hb (n + 1) env ls' σ (.Name "head" p) true := fun env ls' p e => c1 ▸ Tr.val (Ev.name e) (Th.str (x := splitHead x) (by lia))
      have ev : ∀ (env : Env) (ls' : List (Str × D)) (p q r l l2 : Pos), env.kindOf ("len" : Str) = some .globalImplicit → List.lookup ("head" : Str) ls' = some (.str (splitHead x)) → List.lookup ("sep" : Str) ls' = some (.str "/") → Ev w hb (n + 1) env ls' σ (.BinOp (.Name "sep" p) .Mult (.Call (.Name "len" q) [.Name "head" r] [] l) l2) (.str (Txt.mul "/" (splitHead x).length)) :=
        fun env ls' p q r l l2 h0 e1 e2 => Ev.bin (Ev.name e2) (Ev.call (Ev.blt h0 rfl Boot.len) Kpr.blt (EvA.plain (EvS.cons (Ev.name e1) EvS.nil)) (Fs.lenS (by lia))) (Bo.mulS (by lia) (by rw [show (Str.ofString "/").length = 1 from rfl]; lia) (by lia))
      cases c2 : splitHead x != Txt.mul "/" (splitHead x).length with
      | false =>
        have e : splitH x = splitHead x := by unfold splitH; rw [c1, c2]; rfl
        refine Exs.cons (Ex.iff (b := false) (Tr.and2 (t1 _ _ _ rfl) (c2 ▸ Tr.cmp (Ev.name rfl) (ev _ _ _ _ _ _ _ rfl rfl rfl) Co.neS)) Exs.nil) ?_
        exact ret (splitHead x) _ _ rfl rfl e.symm _ _ _ _
      | true =>
        have e : splitH x = Txt.rstripChars (splitHead x) "/" := by unfold splitH; rw [c1, c2]; rfl
        refine Exs.cons (Ex.iff (b := true) (Tr.and2 (t1 _ _ _ rfl) (c2 ▸ Tr.cmp (Ev.name rfl) (ev _ _ _ _ _ _ _ rfl rfl rfl) Co.neS)) (Exs.cons (Ex.assign (Ev.meth (Ev.name rfl) (EvA.plain (EvS.cons (Ev.name rfl) EvS.nil)) (Fs.rstrip (x := splitHead x) (by lia)) F.plainAttrs_str F.slot_str_rstrip F.type_str_rstrip (.inl ⟨rfl, _, rfl⟩)) (.inl rfl)) Exs.nil)) ?_
        exact ret _ _ _ rfl rfl e.symm _ _ _ _
  · exact len1 fun a => rfl
end
end Mine
end

section
open PySem PySem.W PySem.Calls PyProof.Rows
set_option Elab.async false
set_option tactic.hygienic false
set_option linter.unusedVariables false
set_option maxRecDepth 100000
namespace Mine
noncomputable def joinStep (path b : Str) : Str := if Txt.startswith b "/" || (path.length : Int) == 0 then b else if Txt.endswith path "/" then path ++ b else path ++ (Str.ofString "/" ++ b)
noncomputable def joinP (a : Str) (ps : List Str) : Str := ps.foldl joinStep a
noncomputable def lens (ps : List Str) : Nat := (ps.map fun p => p.length + 1).sum
theorem joinStep_len (p b : Str) : (joinStep p b).length ≤ p.length + (b.length + 1) := by
  unfold joinStep
  split
  · lia
  · split
    · rw [Str.length_append]; lia
    · rw [Str.length_append, Str.length_append, show (Str.ofString "/").length = 1 from rfl]; lia
theorem joinP_len : ∀ (ps : List Str) (a : Str), (joinP a ps).length ≤ a.length + lens ps
  | [], a => by simp [joinP, lens]
  | p :: ps, a => by
    have h1 := joinP_len ps (joinStep a p)
    have h2 := joinStep_len a p
    show (joinP (joinStep a p) ps).length ≤ _
    unfold lens at *
    rw [List.map_cons, List.sum_cons]
    lia
theorem lens_take (ps : List Str) (i : Nat) : lens (ps.take i) ≤ lens ps := by
  have h : lens ps = lens (ps.take i) + lens (ps.drop i) := by
    unfold lens
    rw [← List.sum_append, ← List.map_append, List.take_append_drop]
  lia
theorem lens_mem {ps : List Str} {p : Str} (h : p ∈ ps) : p.length + 1 ≤ lens ps := by
  induction ps with
  | nil => simp at h
  | cons q ps ih =>
    unfold lens at *
    rw [List.map_cons, List.sum_cons]
    rcases memc h with rfl | h
    · lia
    · have := ih h; lia
theorem joinP_take {a : Str} {ps : List Str} {i : Nat} {p : Str} (h : ps[i]? = some p) : joinP a (ps.take (i + 1)) = joinStep (joinP a (ps.take i)) p := by
  unfold joinP
  rw [List.take_add_one, h, Option.toList_some, List.foldl_append]; rfl
section
variable {w : World} {hb : Heap} {n : Nat} {env : Env} {ls : List (Str × D)} {σ : List Ob}

theorem fs_join {a : Str} {ps : List Str} (h : a.length + lens ps ≤ 100000) (hl : ps.length ≤ 100000) : Fs w hb (n + 2) (.ref 115) (.str a :: ps.map .str) σ (.str (joinP a ps)) := by
  have hmapl : (ps.map D.str).length = ps.length := List.length_map _
  refine Fs.of_defG (args' := [.str a, .tup (ps.map .str)]) ["a", "p"] rfl rfl (Bnd.var1 (bind_var1 rfl rfl rfl rfl) (by lia)) (fun L => ?_)
  refine Exs.cons (Ex.assign (ev_fspath (Ev.name rfl)) (.inl rfl)) ?_
  refine Exs.cons (Ex.assign (ev_get_sep (Ev.name rfl)) (.inl rfl)) ?_
  refine Exs.cons (Ex.assign (Ev.name rfl) (.inl rfl)) ?_
  refine Exs.cons (Ex.tryN (Exs.cons (Ex.forN (fun i => [("path", .str (joinP a (ps.take i))), ("sep", .str "/")]) (Si.of (Ev.name rfl) Src.tup) (.inl rfl) ?_ ?_) Exs.nil)) ?_
  · intro y e q
    rw [look_cons] at q
    by_cases h1 : (y == (Str.ofString "path")) = true
    · rw [if_pos h1] at q; cases q; rw [beq_iff_eq.mp h1]; rfl
    · rw [if_neg h1, look_cons] at q
      by_cases h2 : (y == (Str.ofString "sep")) = true
      · rw [if_pos h2] at q; cases q; rw [beq_iff_eq.mp h2]; rfl
      · rw [if_neg h2] at q; simp at q
  · intro i e he
    obtain ⟨b, hbe, rfl⟩ : ∃ b, ps[i]? = some b ∧ e = .str b := by
      rw [List.getElem?_map] at he
      cases q : ps[i]? with
      | none => (first | exact nS q he | exact nS he q | exact nD q he | exact nD he q | cases sE q he | (rw [q] at he; cases he))
      | some b => (first | exact nS q he | exact nS he q | exact nD q he | exact nD he q | cases sE q he | (rw [q] at he; cases he)); exact ⟨b, rfl, rfl⟩
    have lb : b.length + 1 ≤ lens ps := lens_mem (List.mem_of_getElem? hbe)
    have lp : (joinP a (ps.take i)).length ≤ a.length + lens ps := Nat.le_trans (joinP_len _ _) (Nat.add_le_add_left (lens_take ps i) _)
    have e1 := joinP_take (a := a) hbe
    generalize joinP a (ps.take i) = path at *
    have sub : ∀ X l y e', List.lookup y [((Str.ofString "path" : Str), D.str X), (Str.ofString "sep", .str "/")] = some e' → List.lookup y ((Str.ofString "path", D.str X) :: (Str.ofString "b", D.str b) :: (Str.ofString "b", D.str b) :: (Str.ofString "path", D.str path) :: (Str.ofString "sep", .str "/") :: l) = some e' := by
      intro X l y e' q
      rw [look_cons] at q ⊢
      by_cases h1 : (y == (Str.ofString "path")) = true
      · rw [if_pos h1] at q ⊢; exact q
      · rw [if_neg h1, look_cons] at q
        by_cases h2 : (y == (Str.ofString "sep")) = true
        · rw [if_pos h2] at q; cases q; rw [if_neg h1, beq_iff_eq.mp h2]; rfl
        · rw [if_neg h2] at q; simp at q
    rw [e1]
    cases c1 : Txt.startswith b "/" with
    | true =>
      have e2 : joinStep path b = b := by unfold joinStep; rw [c1]; rfl
      refine ⟨_, Exs.cons (Ex.assign (ev_fspath (Ev.name rfl)) (.inl rfl)) (Exs.cons (Ex.iff (b := true) (Tr.or1 (c1 ▸ Tr.val (Ev.meth (Ev.name rfl) (EvA.plain (EvS.cons (Ev.name rfl) EvS.nil)) Fs.startswith F.plainAttrs_str F.slot_str_startswith F.type_str_startswith (.inl ⟨rfl, _, rfl⟩)) Th.bool)) (Exs.cons (Ex.assign (Ev.name rfl) (.inl rfl)) Exs.nil)) Exs.nil), ?_⟩
      rw [e2]; exact sub _ _
    | false =>
      have t1 : ∀ (env : Env) (ls' : List (Str × D)) (p q r l : Pos), List.lookup ("b" : Str) ls' = some (.str b) → List.lookup ("sep" : Str) ls' = some (.str "/") → l.endLine = r.line →
          Tr w hb (n + 1) env ls' σ (.Call (.Attribute (.Name "b" p) "startswith" l) [.Name "sep" q] [] r) false := fun env ls' p q r l h1 h2 h3 =>
        c1 ▸ Tr.val (Ev.meth (Ev.name h1) (EvA.plain (EvS.cons (Ev.name h2) EvS.nil)) Fs.startswith F.plainAttrs_str F.slot_str_startswith F.type_str_startswith (.inl ⟨rfl, _, rfl⟩) rfl rfl (by simp [h3])) Th.bool
      cases c2 : (path.length : Int) != 0 with
      | false =>
        have e2 : joinStep path b = b := by
          unfold joinStep; rw [c1]
          have : ((path.length : Int) == 0) = true := by simpa [bne] using c2
          rw [this]; rfl
        have t2 : ∀ (env : Env) (ls' : List (Str × D)) (p q : Pos), List.lookup ("path" : Str) ls' = some (.str path) → Tr w hb (n + 1) env ls' σ (.UnaryOp .Not (.Name "path" p) q) true := fun env ls' p q h1 => by
          have := Tr.not (pos := q) (c2 ▸ Tr.val (w := w) (hb := hb) (n := n + 1) (env := env) (σ := σ) (Ev.name (pos := p) h1) (Th.str (x := path) (by lia)))
          exact this
        refine ⟨_, Exs.cons (Ex.assign (ev_fspath (Ev.name rfl)) (.inl rfl)) (Exs.cons (Ex.iff (b := true) (Tr.or2 (t1 _ _ _ _ _ _ rfl rfl rfl) (Tr.orN (t2 _ _ _ _ rfl))) (Exs.cons (Ex.assign (Ev.name rfl) (.inl rfl)) Exs.nil)) Exs.nil), ?_⟩
        rw [e2]; exact sub _ _
      | true =>
        have e0 : joinStep path b = if Txt.endswith path "/" then path ++ b else path ++ (Str.ofString "/" ++ b) := by
          unfold joinStep; rw [c1]
          have : ((path.length : Int) == 0) = false := by simpa [bne] using c2
          rw [this]; rfl
        have t2 : ∀ (env : Env) (ls' : List (Str × D)) (p q : Pos), List.lookup ("path" : Str) ls' = some (.str path) → Tr w hb (n + 1) env ls' σ (.UnaryOp .Not (.Name "path" p) q) false := fun env ls' p q h1 => by
          have := Tr.not (pos := q) (c2 ▸ Tr.val (w := w) (hb := hb) (n := n + 1) (env := env) (σ := σ) (Ev.name (pos := p) h1) (Th.str (x := path) (by lia)))
          exact this
        cases c3 : Txt.endswith path "/" with
        | true =>
          have e2 : joinStep path b = path ++ b := by rw [e0, c3]; rfl
          refine ⟨_, Exs.cons (Ex.assign (ev_fspath (Ev.name rfl)) (.inl rfl)) (Exs.cons (Ex.iff (b := false) (Tr.or2 (t1 _ _ _ _ _ _ rfl rfl rfl) (Tr.orN (t2 _ _ _ _ rfl)))
            (Exs.cons (Ex.iff (b := true) (c3 ▸ Tr.val (Ev.meth (Ev.name rfl) (EvA.plain (EvS.cons (Ev.name rfl) EvS.nil)) Fs.endswith F.plainAttrs_str F.slot_str_endswith F.type_str_endswith (.inl ⟨rfl, _, rfl⟩)) Th.bool) (Exs.cons (Ex.aug rfl (Ev.name rfl) (Io.addS (by lia)) (.inl rfl)) Exs.nil)) Exs.nil)) Exs.nil), ?_⟩
          rw [e2]; exact sub _ _
        | false =>
          have e2 : joinStep path b = path ++ (Str.ofString "/" ++ b) := by rw [e0, c3]; rfl
          refine ⟨_, Exs.cons (Ex.assign (ev_fspath (Ev.name rfl)) (.inl rfl)) (Exs.cons (Ex.iff (b := false) (Tr.or2 (t1 _ _ _ _ _ _ rfl rfl rfl) (Tr.orN (t2 _ _ _ _ rfl)))
            (Exs.cons (Ex.iff (b := false) (c3 ▸ Tr.val (Ev.meth (Ev.name rfl) (EvA.plain (EvS.cons (Ev.name rfl) EvS.nil)) Fs.endswith F.plainAttrs_str F.slot_str_endswith F.type_str_endswith (.inl ⟨rfl, _, rfl⟩)) Th.bool) (Exs.cons (Ex.aug rfl (Ev.bin (Ev.name rfl) (Ev.name rfl) (Bo.addS (by rw [show (Str.ofString "/").length = 1 from rfl]; lia))) (Io.addS (by rw [Str.length_append, show (Str.ofString "/").length = 1 from rfl]; lia)) (.inl rfl)) Exs.nil)) Exs.nil)) Exs.nil), ?_⟩
          rw [e2]; exact sub _ _
  · exact Exs.ret (Ex.ret (by
      have : joinP a ps = joinP a (ps.take (ps.map D.str).length) := by rw [hmapl, List.take_length]
      rw [this]; exact Ev.name rfl))
end
end Mine
end

section
open PySem PySem.W PySem.Calls PyProof.Rows
set_option Elab.async false
set_option tactic.hygienic false
set_option linter.unusedVariables false
set_option maxRecDepth 100000
namespace Mine
noncomputable def figs (k : Int) : List Int := [k.fmod 4, (k.fdiv 4).fmod 4, (k.fdiv 16).fmod 4]
noncomputable def tabN (f : Int) : Str := if f = 1 then "a" else if f = 2 then "b" else "ab"
noncomputable def namesP (k : Int) : List Str := ((figs k).filter fun f => decide (f > 0)).map tabN
noncomputable def dInt (f : Int → α) (z : α) : D → α
  | .int i => f i
  | _ => z
theorem fmod4 (k : Int) : k.fmod 4 = 0 ∨ k.fmod 4 = 1 ∨ k.fmod 4 = 2 ∨ k.fmod 4 = 3 := by
  rw [Int.fmod_eq_emod_of_nonneg k (by decide)]
  lia
theorem figs_mem {k f : Int} (h : f ∈ figs k) : f = 0 ∨ f = 1 ∨ f = 2 ∨ f = 3 := by
  simp only [figs, List.mem_cons, List.not_mem_nil, or_false] at h
  rcases h with rfl | rfl | rfl <;> exact fmod4 _
theorem filter_map_int (xs : List Int) (q : Int → Bool) (g : Int → D) : (((xs.map D.int).filter (dInt q false)).map (dInt g .none)) = ((xs.filter q).map g) := by
  rw [List.filter_map, List.map_map]; rfl
section
variable {w : World} {hb : Heap} {n : Nat} {env : Env} {ls : List (Str × D)} {σ : List Ob}

theorem fs_names {k : Int} : Fs w hb (n + 1) (.ref 223) [.int k] σ (.lst ((namesP k).map .str)) := by
  refine Fs.of_def ["number"] rfl rfl (fun L => ?_) ?_
  · refine Exs.cons (Ex.assign (Ev.list (EvS.cons (Ev.bin (Ev.name rfl) Ev.int Bo.modI) (EvS.cons (Ev.bin (Ev.bin (Ev.name rfl) Ev.int Bo.divI) Ev.int Bo.modI) (EvS.cons (Ev.bin (Ev.bin (Ev.name rfl) Ev.int Bo.divI) Ev.int Bo.modI) EvS.nil)))) (.inl rfl)) ?_
    have e : ((namesP k).map D.str) = ((((figs k).map D.int).filter (dInt (fun f => decide (f > 0)) false)).map (dInt (fun f => .str (tabN f)) .none)) := by
      rw [filter_map_int, namesP, List.map_map]; rfl
    rw [e]
    refine Exs.ret (Ex.ret (Ev.comp (fls := []) (xs := (figs k).map D.int) _ _ (Si.of (Ev.name rfl) (Src.list (.inl rfl))) Free.nil ?_ ?_ ?_ ?_))
    · intro τ C e he
      obtain ⟨f, hf, rfl⟩ := List.mem_map.mp he
      exact TrI.one (Tr.cmp (Ev.name rfl) Ev.int Co.gtI)
    · intro τ C e he hp
      obtain ⟨f, hf, rfl⟩ := List.mem_map.mp he
      have ev : ∀ (env : Env) (ls' : List (Str × D)) (τ : List Ob) (p1 p2 p3 p4 p5 p6 p7 p8), List.lookup ("figure" : Str) ls' = some (.int f) → (f = 1 ∨ f = 2 ∨ f = 3) →
          Ev w hb n env ls' τ (.Subscript (.List [.Constant (.str "a") 0 p1, .Constant (.str "b") 0 p2, .Constant (.str "ab") 0 p3] p4) (.BinOp (.Name "figure" p5) .Sub (.Constant (.int 1) 0 p6) p7) p8) (.str (tabN f)) :=
        fun env ls' τ p1 p2 p3 p4 p5 p6 p7 p8 h1 h2 => by
          rcases h2 with rfl | rfl | rfl <;> exact Ev.item (Ev.list (EvS.cons Ev.str (EvS.cons Ev.str (EvS.cons Ev.str EvS.nil)))) (.inl rfl) (Ev.bin (Ev.name h1) Ev.int Bo.subI)
      have : f > 0 := by simpa [dInt] using hp
      exact ev _ _ _ _ _ _ _ _ _ _ _ rfl (by rcases figs_mem hf with h | h | h | h <;> lia)
    · intro e he hp
      obtain ⟨f, hf, rfl⟩ := List.mem_map.mp he
      rfl
    · exact Nat.le_of_ble_eq_true rfl
  · exact len1 fun a => rfl
end
end Mine
end

section
open PySem PySem.W PySem.Calls PyProof.Rows
set_option Elab.async false
set_option tactic.hygienic false
set_option linter.unusedVariables false
set_option maxRecDepth 100000
namespace Mine
noncomputable def iLt (a b : Int) : Bool := decide (a < b)
-- the best way to cut, by all choices
noncomputable def leastP (par wt : List Int) (width : Int) : Nat → List Int → Int → List Int
  | 0, hangs, cuts => if hangs.getD 0 0 ≤ width then [cuts, hangs.getD 0 0] else [99, 0]
  | k + 1, hangs, cuts =>
    let part := wt.getD k 0 + hangs.getD (k + 1) 0
    if part > width then [99, 0]
    else minBy (ltL iLt) (leastP par wt width k (hangs.take (k + 1)) (cuts + 1)) [leastP par wt width k ((List.range (k + 1)).map fun j : Nat => if (j : Int) = par.getD k 0 then hangs.getD j 0 + part else hangs.getD j 0) cuts]
section
variable {w : World} {hb : Heap} {n : Nat} {env : Env} {ls : List (Str × D)} {σ : List Ob}
noncomputable def dIs (xs : List Int) : D := .lst (xs.map .int)
theorem get_int {xs : List Int} {i : Nat} (h : i < xs.length) : (xs.map D.int)[i]? = some (.int (xs.getD i 0)) := by
  rw [List.getElem?_map, List.getElem?_eq_getElem h, List.getD_eq_getElem?_getD, List.getElem?_eq_getElem h]; rfl
theorem fs_least {par wt : List Int} {width : Int} : ∀ (k : Nat) (hangs : List Int) (cuts : Int) (n : Nat) (σ : List Ob), hangs.length = k + 1 → k ≤ par.length → k ≤ wt.length → k ≤ 100 →
    Fs w hb (n + k + 1) (.ref 233) [dIs par, dIs wt, .int width, dIs hangs, .int cuts] σ (dIs (leastP par wt width k hangs cuts))
  | 0, hangs, cuts, n, σ, hl, hp, hw, hk => by
    refine Fs.of_def ["parents", "weights", "width", "hangs", "cuts"] rfl rfl (fun L => ?_) ?_
    · refine Exs.cons (Ex.assign (Ev.bin (Ev.call (Ev.blt rfl rfl Boot.len) Kpr.blt (EvA.plain (EvS.cons (Ev.name rfl) EvS.nil)) (Fs.lenL (.inl rfl) (by rw [List.length_map]; lia))) Ev.int Bo.subI) (.inr ⟨rfl, rfl⟩)) ?_
      have e0 : ((hangs.map D.int).length : Int) - 1 = 0 := by rw [List.length_map]; lia
      rw [e0]
      have h0 : (hangs.map D.int)[(0 : Int).toNat]? = some (.int (hangs.getD 0 0)) := get_int (by lia)
      refine Exs.ret (Ex.iff (b := true) (Tr.cmp (Ev.name rfl) Ev.int (Co.eqI (a := 0) (b := 0))) (Exs.ret (Ex.ret ?_)))
      by_cases hle : hangs.getD 0 0 ≤ width
      · rw [show leastP par wt width 0 hangs cuts = [cuts, hangs.getD 0 0] by rw [leastP, if_pos hle]]
        exact Ev.ife (c := true) (decide_eq_true hle ▸ Tr.cmp (Ev.item (Ev.name rfl) (.inl rfl) Ev.int (by decide) (by decide) h0) (Ev.name rfl) Co.leI) (Ev.list (EvS.cons (Ev.name rfl) (EvS.cons (Ev.item (Ev.name rfl) (.inl rfl) Ev.int (by decide) (by decide) h0) EvS.nil)))
      · rw [show leastP par wt width 0 hangs cuts = [99, 0] by rw [leastP, if_neg hle]]
        exact Ev.ife (c := false) (decide_eq_false hle ▸ Tr.cmp (Ev.item (Ev.name rfl) (.inl rfl) Ev.int (by decide) (by decide) h0) (Ev.name rfl) Co.leI) (Ev.list (EvS.cons Ev.int (EvS.cons Ev.int EvS.nil)))
    · exact len5 fun a b c d e => rfl
  | k + 1, hangs, cuts, n, σ, hl, hp, hw, hk => by
    refine Fs.of_def ["parents", "weights", "width", "hangs", "cuts"] rfl rfl (fun L => ?_) ?_
    · refine Exs.cons (Ex.assign (Ev.bin (Ev.call (Ev.blt rfl rfl Boot.len) Kpr.blt (EvA.plain (EvS.cons (Ev.name rfl) EvS.nil)) (Fs.lenL (.inl rfl) (by rw [List.length_map]; lia))) Ev.int Bo.subI) (.inr ⟨rfl, rfl⟩)) ?_
      have e0 : ((hangs.map D.int).length : Int) - 1 = (k : Int) + 1 := by rw [List.length_map]; lia
      rw [e0]
      refine Exs.cons (Ex.iff (b := false) ((show (((k : Int) + 1) == 0) = false by simp; lia) ▸ Tr.cmp (Ev.name rfl) Ev.int Co.eqI) Exs.nil) ?_
      have i1 : ((k : Int) + 1 - 1).toNat = k := by lia
      have i2 : ((k : Int) + 1).toNat = k + 1 := by lia
      refine Exs.cons (Ex.assign (Ev.bin (Ev.item (Ev.name rfl) (.inl rfl) (Ev.bin (Ev.name rfl) Ev.int Bo.subI) (by lia) (by lia) (by rw [i1]; exact get_int (by lia)))
        (Ev.item (Ev.name rfl) (.inl rfl) (Ev.name rfl) (by lia) (by lia) (by rw [i2]; exact get_int (by lia))) Bo.addI) (.inr ⟨rfl, rfl⟩)) ?_
      generalize hpart : wt.getD k 0 + hangs.getD (k + 1) 0 = part
      by_cases hgt : part > width
      · have er : leastP par wt width (k + 1) hangs cuts = [99, 0] := by unfold leastP; simp only [hpart]; rw [if_pos hgt]
        rw [er]
        exact Exs.ret (Ex.iff (b := true) ((decide_eq_true hgt) ▸ Tr.cmp (Ev.name rfl) (Ev.name rfl) Co.gtI) (Exs.ret (Ex.ret (Ev.list (EvS.cons Ev.int (EvS.cons Ev.int EvS.nil))))))
      · refine Exs.cons (Ex.iff (b := false) ((decide_eq_false hgt) ▸ Tr.cmp (Ev.name rfl) (Ev.name rfl) Co.gtI) Exs.nil) ?_
        refine Exs.cons (Ex.comp (fls := [("hangs", dIs hangs), ("part", .int part), ("parents", dIs par), ("k", .int ((k : Int) + 1))]) (xs := rangeD 0 (k + 1)) (fun _ => true)
          (dInt (fun j => .int (if j = par.getD k 0 then hangs.getD j.toNat 0 + part else hangs.getD j.toNat 0)) .none) (i2 ▸ Si.range1 (Ev.blt rfl rfl Boot.range) (EvA.plain (EvS.cons (Ev.name rfl) EvS.nil)) (by lia) (by lia))
          (Free.cons (Free.cons (Free.cons (Free.cons Free.nil)))) ?_ ?_ ?_ ?_) ?_
        · intro τ C e he; exact TrI.no
        · intro τ C e he _
          obtain ⟨j, hj, rfl⟩ := List.mem_map.mp he
          have hjk : j < k + 1 := List.mem_range.mp hj
          have ej : ((0 : Int) + (j : Int)).toNat = j := by lia
          have t1 : ∀ (env : Env) (ls' : List (Str × D)) (τ : List Ob) (p1 p2 p3 p4 p5 p6 p7), List.lookup ("j" : Str) ls' = some (.int (0 + (j : Int))) → List.lookup ("parents" : Str) ls' = some (dIs par) → List.lookup ("k" : Str) ls' = some (.int ((k : Int) + 1)) →
              Tr w hb (n + k + 1) env ls' τ (.Compare (.Name "j" p1) [.Eq] [.Subscript (.Name "parents" p2) (.BinOp (.Name "k" p3) .Sub (.Constant (.int 1) 0 p4) p5) p6] p7) (decide ((0 + (j : Int)) = par.getD k 0)) :=
            fun env ls' τ p1 p2 p3 p4 p5 p6 p7 h1 h2 h3 => Tr.cmp (Ev.name h1) (Ev.item (Ev.name h2) (.inl rfl) (Ev.bin (Ev.name h3) Ev.int Bo.subI) (by lia) (by lia) (by rw [i1]; exact get_int (by lia))) Co.eqI
          have hg : ∀ (env : Env) (ls' : List (Str × D)) (τ : List Ob) (p1 p2 p3), List.lookup ("j" : Str) ls' = some (.int (0 + (j : Int))) → List.lookup ("hangs" : Str) ls' = some (dIs hangs) → Ev w hb (n + k + 1) env ls' τ (.Subscript (.Name "hangs" p1) (.Name "j" p2) p3) (.int (hangs.getD j 0)) :=
            fun env ls' τ p1 p2 p3 h1 h2 => Ev.item (Ev.name h2) (.inl rfl) (Ev.name h1) (by lia) (by lia) (by rw [ej]; exact get_int (by lia))
          show Ev w hb _ _ _ _ _ (D.int (if (0 + (j : Int)) = par.getD k 0 then hangs.getD (0 + (j : Int)).toNat 0 + part else hangs.getD (0 + (j : Int)).toNat 0))
          rw [ej]
          by_cases hjp : (0 + (j : Int)) = par.getD k 0
          · rw [if_pos hjp]
            exact Ev.ife (c := true) (decide_eq_true hjp ▸ t1 _ _ _ _ _ _ _ _ _ _ rfl rfl rfl) (Ev.bin (hg _ _ _ _ _ _ rfl rfl) (Ev.name rfl) Bo.addI)
          · rw [if_neg hjp]
            exact Ev.ife (c := false) (decide_eq_false hjp ▸ t1 _ _ _ _ _ _ _ _ _ _ rfl rfl rfl) (hg _ _ _ _ _ _ rfl rfl)
        · intro e he _
          obtain ⟨j, hj, rfl⟩ := List.mem_map.mp he
          rfl
        · rw [rangeD_len]; lia
        have ek : ((rangeD 0 (k + 1)).filter fun _ => true).map (dInt (fun j => D.int (if j = par.getD k 0 then hangs.getD j.toNat 0 + part else hangs.getD j.toNat 0)) .none) =
            ((List.range (k + 1)).map fun j : Nat => if (j : Int) = par.getD k 0 then hangs.getD j 0 + part else hangs.getD j 0).map D.int := by
          rw [List.filter_eq_self.mpr (fun _ _ => rfl), rangeD, List.map_map, List.map_map]
          refine List.map_congr_left fun j _ => ?_
          show D.int (if (0 + (j : Int)) = par.getD k 0 then hangs.getD (0 + (j : Int)).toNat 0 + part else hangs.getD (0 + (j : Int)).toNat 0) = _
          rw [Int.zero_add, Int.toNat_natCast]; rfl
        rw [ek]
        have er : leastP par wt width (k + 1) hangs cuts = minBy (ltL iLt) (leastP par wt width k (hangs.take (k + 1)) (cuts + 1)) [leastP par wt width k ((List.range (k + 1)).map fun j : Nat => if (j : Int) = par.getD k 0 then hangs.getD j 0 + part else hangs.getD j 0) cuts] := by
          rw [leastP]; simp only [hpart]; rw [if_neg hgt]
        rw [er]
        generalize hkept : ((List.range (k + 1)).map fun j : Nat => if (j : Int) = par.getD k 0 then hangs.getD j 0 + part else hangs.getD j 0) = kept
        have hkl : kept.length = k + 1 := by rw [← hkept]; simp
        have hpk : pick (hangs.map D.int) none (some ((k : Int) + 1)) none = (hangs.take (k + 1)).map D.int := by
          rw [List.map_take, ← pick_take]; rfl
        refine Exs.cons (Ex.assign (Ev.call (Ev.glob rfl rfl) (Kpr.K rfl) (EvA.plain (EvS.cons (Ev.name rfl) (EvS.cons (Ev.name rfl) (EvS.cons (Ev.name rfl) (EvS.cons ((Ev.cut (Ev.name rfl) (.inl rfl) EvP.no (EvP.yes (Ev.name rfl)) EvP.no (by decide) (by rw [List.length_map]; lia)).to (congrArg D.lst hpk)) (EvS.cons (Ev.bin (Ev.name rfl) Ev.int Bo.addI) EvS.nil))))))
          (fs_least k (hangs.take (k + 1)) (cuts + 1) n _ (by rw [List.length_take]; lia) (by lia) (by lia) (by lia))) (.inl rfl)) ?_
        refine Exs.ret (Ex.ret (Ev.call (Ev.blt rfl rfl Boot.min) Kpr.blt (EvA.plain (EvS.cons (Ev.name rfl) (EvS.cons (Ev.call (Ev.glob rfl rfl) (Kpr.K rfl) (EvA.plain (EvS.cons (Ev.name rfl) (EvS.cons (Ev.name rfl) (EvS.cons (Ev.name rfl) (EvS.cons (Ev.name rfl) (EvS.cons (Ev.name rfl) EvS.nil))))))
          (fs_least k kept cuts n _ hkl (by lia) (by lia) (by lia))) EvS.nil))) (Fs.min2 OrdT.int.lst)))
    · exact len5 fun a b c d e => rfl
end
end Mine
end

section
open PySem PySem.W PySem.Calls PyProof.Rows
set_option Elab.async false
set_option tactic.hygienic false
set_option linter.unusedVariables false
set_option maxRecDepth 100000
namespace Mine
-- the names on the way of a path
noncomputable def namesOf (x : Str) : List Str := (Txt.split x "/").filter fun c => ((c.length : Int) != 0) && (c != Str.ofString ".")
-- how far two lists go together
noncomputable def cpl : List Str → List Str → Nat
  | x :: xs, y :: ys => if x = y then cpl xs ys + 1 else 0
  | _, _ => 0
theorem cpl_lt : ∀ {xs ys : List Str} {i : Nat}, i < cpl xs ys → ∃ x, xs[i]? = some x ∧ ys[i]? = some x
  | [], _, i, h => by simp [cpl] at h
  | _ :: _, [], i, h => by simp [cpl] at h
  | x :: xs, y :: ys, i, h => by
    unfold cpl at h
    by_cases e : x = y
    · rw [if_pos e] at h
      subst e
      cases i with
      | zero => exact ⟨x, rfl, rfl⟩
      | succ i => obtain ⟨z, h1, h2⟩ := cpl_lt (xs := xs) (ys := ys) (i := i) (by lia); exact ⟨z, by simpa using h1, by simpa using h2⟩
    · rw [if_neg e] at h; lia
theorem cpl_le : ∀ {xs ys : List Str}, cpl xs ys ≤ xs.length
  | [], _ => by simp [cpl]
  | _ :: _, [] => by simp [cpl]
  | x :: xs, y :: ys => by
    unfold cpl
    split
    · have := cpl_le (xs := xs) (ys := ys); simp; lia
    · simp
theorem cpl_end {lt : Str → Str → Bool} : ∀ {xs ys : List Str}, ltL lt ys xs = false → cpl xs ys = xs.length ∨ ∃ x y, xs[cpl xs ys]? = some x ∧ ys[cpl xs ys]? = some y ∧ x ≠ y
  | [], _, _ => by left; simp [cpl]
  | _ :: _, [], h => by simp [ltL] at h
  | x :: xs, y :: ys, h => by
    unfold cpl
    unfold ltL at h
    by_cases e : x = y
    · subst e
      rw [if_pos rfl] at h ⊢
      rcases cpl_end h with q | ⟨a, b, q1, q2, q3⟩
      · left; simp [q]
      · right; exact ⟨a, b, by simpa using q1, by simpa using q2, q3⟩
    · right
      rw [if_neg e]
      exact ⟨x, y, rfl, rfl, e⟩
noncomputable def minP (x : Str) (xs : List Str) : List Str := minBy (ltL strLt) (namesOf x) (xs.map namesOf)
noncomputable def maxP (x : Str) (xs : List Str) : List Str := maxBy (ltL strLt) (namesOf x) (xs.map namesOf)
noncomputable def commonP (x : Str) (xs : List Str) : Str := Str.ofString "/" ++ Txt.join "/" ((minP x xs).take (cpl (minP x xs) (maxP x xs)))
section
variable {w : World} {hb : Heap} {n : Nat} {env : Env} {ls : List (Str × D)} {σ : List Ob}
noncomputable def dS (xs : List Str) : D := .lst (xs.map .str)
noncomputable def dStr {α : Type} (f : Str → α) (z : α) : D → α
  | .str x => f x
  | _ => z
theorem pl_strs (xs : List Str) : (dS xs).pl = true := by
  show D.plAll (xs.map D.str) = true
  rw [plAll_iff]
  intro d hd
  obtain ⟨y, _, rfl⟩ := List.mem_map.mp hd
  rfl
noncomputable def pN (c : Str) : Bool := ((c.length : Int) != 0) && (c != Str.ofString ".")
noncomputable def gN : D → D
  | .lst ds => .lst (ds.filter (dStr pN false))
  | _ => .none
theorem filter_strs (p : Str → Bool) (xs : List Str) : (xs.map D.str).filter (dStr p false) = (xs.filter p).map D.str := by
  rw [List.filter_map]; rfl
theorem gN_dS (xs : List Str) : gN (dS xs) = dS (xs.filter pN) := by
  show D.lst _ = D.lst _
  rw [filter_strs]
theorem split_part_len {y sep c : Str} (h : c ∈ Txt.split y sep) : c.length ≤ y.length := by
  unfold Txt.split at h
  split at h
  · simp at h; rw [h]; exact Nat.le_refl _
  · split at h
    · simp at h; rw [h]; exact Nat.le_refl _
    · unfold Builtin.Str.partsBetween at h
      obtain ⟨p, _, rfl⟩ := List.mem_map.mp h
      show (Builtin.Str.strSub y p.1 p.2).cps.size ≤ y.cps.size
      unfold Builtin.Str.strSub
      simp
      lia
theorem split_len {y sep : Str} {k : Nat} (h : (Builtin.Str.partsBetween y (Builtin.Str.occurrences y sep 0 y.length (y.length + 1)) sep.length).length ≤ k + 1) : (Txt.split y sep).length ≤ k + 1 := by
  unfold Txt.split
  split
  · simp
  · split
    · simp
    · exact h
theorem minBy_mem {α : Type} {lt : α → α → Bool} : ∀ (xs : List α) (b : α), minBy lt b xs ∈ b :: xs
  | [], b => by simp [minBy]
  | y :: xs, b => by
    have := minBy_mem (lt := lt) xs (if lt y b then y else b)
    show minBy lt (if lt y b then y else b) xs ∈ _
    rcases List.mem_cons.mp this with h | h
    · rw [h]; split <;> simp
    · exact List.mem_cons_of_mem _ (List.mem_cons_of_mem _ h)
theorem maxBy_mem {α : Type} {lt : α → α → Bool} : ∀ (xs : List α) (b : α), maxBy lt b xs ∈ b :: xs
  | [], b => by simp [maxBy]
  | y :: xs, b => by
    have := maxBy_mem (lt := lt) xs (if lt b y then y else b)
    show maxBy lt (if lt b y then y else b) xs ∈ _
    rcases List.mem_cons.mp this with h | h
    · rw [h]; split <;> simp
    · exact List.mem_cons_of_mem _ (List.mem_cons_of_mem _ h)
theorem fs_commonpath {x : Str} {xs : List Str} (hst : ∀ y ∈ x :: xs, Txt.startswith y "/" = true) (hlen : ∀ y ∈ x :: xs, y.length ≤ 10000 ∧ (Builtin.Str.partsBetween y (Builtin.Str.occurrences y "/" 0 y.length (y.length + 1)) (Str.ofString "/").length).length ≤ 10000)
    (hn : xs.length ≤ 1000) (hle : ltL strLt (maxP x xs) (minP x xs) = false) (hj : JoinOk "/" ((minP x xs).take (cpl (minP x xs) (maxP x xs))) = true) (hjl : (Txt.join "/" ((minP x xs).take (cpl (minP x xs) (maxP x xs)))).length ≤ 1000000) :
    Fs w hb (n + 3) (.ref 127) [dS (x :: xs)] σ (.str (commonP x xs)) := by
  refine Fs.of_def ["paths"] rfl rfl (fun L => ?_) ?_
  · refine Exs.cons (Ex.assign (Ev.tupleMap (g := id) (xs := x :: xs) (Ev.blt rfl rfl Boot.tuple) (Ev.blt rfl rfl Boot.map) (EvA.plain (EvS.cons (Ev.glob rfl rfl) (EvS.cons (Ev.name rfl) EvS.nil))) (.inl rfl) (fun y _ => fs_fspath) (by simp; lia)) (.inl rfl)) ?_
    have hid : ((x :: xs).map fun y => D.str (id y)) = (x :: xs).map D.str := rfl
    rw [hid]
    have hl60 : ((x :: xs).map D.str).length < 2 ^ 60 := by simp; lia
    refine Exs.cons (Ex.iff (b := false) (Tr.not (b := true) (Tr.val (Ev.name rfl) (Th.tup (xs := (x :: xs).map D.str) hl60))) Exs.nil) ?_
    refine Exs.cons (Ex.iff (b := false) (Tr.val (Ev.call (Ev.blt rfl rfl Boot.isinstance) Kpr.blt (EvA.plain (EvS.cons (Ev.itemT (e := .str x) (j := 0) (Ev.name rfl) Ev.int (by decide) (by decide) (by simp [seqIndex?]) rfl) (EvS.cons (Ev.blt rfl rfl Boot.bytes) EvS.nil))) Fs.isiB) Th.bool)
      (Exs.cons (Ex.assign Ev.str (.inr ⟨rfl, rfl⟩)) (Exs.cons (Ex.assign Ev.str (.inr ⟨rfl, rfl⟩)) Exs.nil))) ?_
    refine Exs.ret (Ex.tryR ?_)
    refine Exs.cons (Ex.comp (fls := [("sep", .str "/")]) (xs := (x :: xs).map D.str) (fun _ => true) (dStr (fun y => dS (Txt.split y "/")) .none) (Si.of (Ev.name rfl) Src.tup) (Free.cons Free.nil) (fun τ C e he => TrI.no) ?_ ?_ (by simp; lia)) ?_
    · intro τ C e he _
      obtain ⟨y, hy, rfl⟩ := List.mem_map.mp he
      exact Ev.meth (Ev.name rfl) (EvA.plain (EvS.cons (Ev.name rfl) EvS.nil)) (Fs.splitS (by decide) (by have := (hlen y hy).1; lia) (by have := (hlen y hy).2; lia)) F.plainAttrs_str F.slot_str_split F.type_str_split (.inl ⟨rfl, _, rfl⟩)
    · intro e he _
      obtain ⟨y, hy, rfl⟩ := List.mem_map.mp he
      exact pl_strs _
    have e1 : (((x :: xs).map D.str).filter fun _ => true).map (dStr (fun y => dS (Txt.split y "/")) .none) = (x :: xs).map fun y => dS (Txt.split y "/") := by
      rw [List.filter_eq_self.mpr (fun _ _ => rfl), List.map_map]; rfl
    rw [e1]
    refine Exs.cons (Ex.tryN (Exs.cons (Ex.setOne (fls := [("sep", .str "/")]) (xs := (x :: xs).map D.str) (Si.of (Ev.name rfl) Src.tup) (Free.cons Free.nil) ?_ (by simp) (.inl rfl)) Exs.nil)) ?_
    · intro C e he
      obtain ⟨y, hy, rfl⟩ := List.mem_map.mp he
      have := hst y hy
      exact this ▸ Ev.meth (Ev.name rfl) (EvA.plain (EvS.cons (Ev.name rfl) EvS.nil)) (Fs.startswith (x := y) (y := "/")) F.plainAttrs_str F.slot_str_startswith F.type_str_startswith (.inl ⟨rfl, _, rfl⟩)
    refine Exs.cons (Ex.comp (fls := [("curdir", .str ".")]) (xs := (x :: xs).map fun y => dS (Txt.split y "/")) (fun _ => true) gN (Si.of (Ev.name rfl) (Src.list (.inl rfl))) (Free.cons Free.nil) (fun τ C e he => TrI.no) ?_ ?_ (by simp; lia)) ?_
    · intro τ C e he _
      obtain ⟨y, hy, rfl⟩ := List.mem_map.mp he
      have hg : gN (dS (Txt.split y "/")) = .lst ((((Txt.split y "/").map D.str).filter (dStr pN false)).map id) := by rw [List.map_id]; rfl
      rw [hg]
      refine Ev.comp (fls := [("curdir", .str ".")]) (xs := (Txt.split y "/").map D.str) (dStr pN false) id (Si.of (Ev.name rfl) (Src.list (.inl rfl))) (Free.cons Free.nil) ?_ ?_ ?_ ?_
      · intro τ' C' e' he'
        obtain ⟨c, hc, rfl⟩ := List.mem_map.mp he'
        have hcl : c.length < 2 ^ 60 := by have := split_part_len hc; have := (hlen y hy).1; lia
        show TrI w hb _ _ _ _ _ (pN c)
        cases c1 : ((c.length : Int) != 0) with
        | false =>
          rw [show pN c = false by unfold pN; rw [c1]; rfl]
          exact TrI.one (Tr.and1 (c1 ▸ Tr.val (Ev.name rfl) (Th.str (x := c) hcl)))
        | true =>
          rw [show pN c = (c != Str.ofString ".") by unfold pN; rw [c1]; rfl]
          exact TrI.one (Tr.and2 (c1 ▸ Tr.val (Ev.name rfl) (Th.str (x := c) hcl)) (Tr.cmp (Ev.name rfl) (Ev.name rfl) Co.neS))
      · intro τ' C' e' he' _
        exact Ev.name rfl
      · intro e' he' _
        obtain ⟨c, hc, rfl⟩ := List.mem_map.mp he'
        rfl
      · rw [List.length_map]; have := split_len (k := 9999) (hlen y hy).2; lia
    · intro e he _
      obtain ⟨y, hy, rfl⟩ := List.mem_map.mp he
      rw [gN_dS]; exact pl_strs _
    have e2 : (((x :: xs).map fun y => dS (Txt.split y "/")).filter fun _ => true).map gN = ((x :: xs).map namesOf).map fun ns : List Str => dS ns := by
      rw [List.filter_eq_self.mpr (fun _ _ => rfl), List.map_map, List.map_map]
      refine List.map_congr_left fun y _ => ?_
      show gN (dS (Txt.split y "/")) = _
      rw [gN_dS]; rfl
    rw [e2]
    refine Exs.cons (Ex.assign (Ev.call (Ev.blt rfl rfl Boot.min) Kpr.blt (EvA.plain (EvS.cons (Ev.name rfl) EvS.nil)) (Fs.minL OrdT.str.lst (x := namesOf x) (xs := xs.map namesOf) (.inl rfl))) (.inl rfl)) ?_
    refine Exs.cons (Ex.assign (Ev.call (Ev.blt rfl rfl Boot.max) Kpr.blt (EvA.plain (EvS.cons (Ev.name rfl) EvS.nil)) (Fs.maxL OrdT.str.lst (x := namesOf x) (xs := xs.map namesOf) (.inl rfl))) (.inl rfl)) ?_
    refine Exs.cons (Ex.assign (Ev.name rfl) (.inl rfl)) ?_
    show Exs w hb _ _ ((Str.ofString "common", dS (minP x xs)) :: (Str.ofString "s2", dS (maxP x xs)) :: (Str.ofString "s1", dS (minP x xs)) :: _) σ _ _
    generalize hm : minP x xs = m at *
    generalize hM : maxP x xs = M at *
    have hc : commonP x xs = Str.ofString "/" ++ Txt.join "/" (m.take (cpl m M)) := by unfold commonP; rw [hm, hM]
    rw [hc]
    have hml : m.length ≤ 10000 := by
      have q : m ∈ (x :: xs).map namesOf := by rw [← hm]; exact minBy_mem _ _
      obtain ⟨y, hy, rfl⟩ := List.mem_map.mp q
      have := split_len (k := 9999) (hlen y hy).2
      have := List.length_filter_le pN (Txt.split y "/")
      show ((Txt.split y "/").filter pN).length ≤ 10000
      lia
    have tail : ∀ (env : Env) (ls' : List (Str × D)), List.lookup ("sep" : Str) ls' = some (.str "/") → List.lookup ("isabs" : Str) ls' = some (.bool true) → List.lookup ("common" : Str) ls' = some (dS (m.take (cpl m M))) →
        (∀ p2 p3 p8 e, Ev w hb (n + 2) env ls' σ (.IfExp (.Name "isabs" p2) (.Name "sep" p3) e p8) (.str "/")) ∧
        (∀ ls'' p10 p11 p12 p9 p13 p14, List.lookup ("sep" : Str) ls'' = some (.str "/") → List.lookup ("common" : Str) ls'' = some (dS (m.take (cpl m M))) → List.lookup ("prefix" : Str) ls'' = some (.str "/") → p9.endLine = p12.line →
          Ev w hb (n + 2) env ls'' σ (.BinOp (.Name "prefix" p10) .Add (.Call (.Attribute (.Name "sep" p11) "join" p9) [.Name "common" p13] [] p12) p14) (.str (Str.ofString "/" ++ Txt.join "/" (m.take (cpl m M))))) := by
      intro env ls' h1 h2 h3
      refine ⟨fun p2 p3 p8 e => Ev.ife (c := true) (Tr.val (Ev.name h2) Th.bool) (Ev.name h1), fun ls'' p10 p11 p12 p9 p13 p14 q1 q2 q3 q4 => ?_⟩
      refine Ev.bin (Ev.name q3) (Ev.meth (Ev.name q1) (EvA.plain (EvS.cons (Ev.name q2) EvS.nil)) (Fs.joinL (.inl rfl) hj) F.plainAttrs_str F.slot_str_join F.type_str_join (.inl ⟨rfl, _, rfl⟩) rfl rfl (by simp [q4])) (Bo.addS ?_)
      rw [show (Str.ofString "/").length = 1 from rfl]; lia
    have stepT : ∀ (env : Env) (ls' : List (Str × D)) (i : Nat) (c c' : Str) (p1 p2 p3 p4 p5 : Pos), i ≤ 10000 → List.lookup ("c" : Str) ls' = some (.str c) → List.lookup ("s2" : Str) ls' = some (dS M) → List.lookup ("i" : Str) ls' = some (.int i) → M[i]? = some c' →
        Tr w hb (n + 2) env ls' σ (.Compare (.Name "c" p1) [.NotEq] [.Subscript (.Name "s2" p2) (.Name "i" p3) p4] p5) (c != c') := fun env ls' i c c' p1 p2 p3 p4 p5 hi h1 h2 h3 h4 =>
      Tr.cmp (Ev.name h1) (Ev.item (Ev.name h2) (.inl rfl) (Ev.name h3) (by lia) (by lia) (by rw [Int.toNat_natCast, List.getElem?_map, h4]; rfl)) Co.neS
    have inv0 : ∀ (l : List (Str × D)) (y : Str) (e : D), List.lookup y [(Str.ofString "s1", dS m), (Str.ofString "s2", dS M), (Str.ofString "common", dS m), (Str.ofString "sep", .str "/"), (Str.ofString "isabs", .bool true)] = some e →
        List.lookup (Str.ofString "s1") l = some (dS m) → List.lookup (Str.ofString "s2") l = some (dS M) → List.lookup (Str.ofString "common") l = some (dS m) → List.lookup (Str.ofString "sep") l = some (.str "/") → List.lookup (Str.ofString "isabs") l = some (.bool true) → List.lookup y l = some e := by
      intro l y e q h1 h2 h3 h4 h5
      have := mem_of_lookup q
      simp only [List.mem_cons, List.not_mem_nil, or_false, Prod.mk.injEq] at this
      rcases this with ⟨rfl, rfl⟩ | ⟨rfl, rfl⟩ | ⟨rfl, rfl⟩ | ⟨rfl, rfl⟩ | ⟨rfl, rfl⟩ <;> assumption
    have stepN : ∀ (env : Env) (i : Nat) (e : D) (p1 p2 p3 p4 p5 p6 : Pos) (body : List Stmt), i < cpl m M → (m.map D.str)[i]? = some e →
        ∃ l, Exs w hb (n + 2) env ((Str.ofString "c", e) :: (Str.ofString "i", .int i) :: [(Str.ofString "s1", dS m), (Str.ofString "s2", dS M), (Str.ofString "common", dS m), (Str.ofString "sep", .str "/"), (Str.ofString "isabs", .bool true)]) σ [.If (.Compare (.Name "c" p1) [.NotEq] [.Subscript (.Name "s2" p2) (.Name "i" p3) p4] p5) body [] p6] (.next l) ∧
          ∀ y e', List.lookup y [(Str.ofString "s1", dS m), (Str.ofString "s2", dS M), (Str.ofString "common", dS m), (Str.ofString "sep", .str "/"), (Str.ofString "isabs", .bool true)] = some e' → l.lookup y = some e' := by
      intro env i e p1 p2 p3 p4 p5 p6 body hi he
      obtain ⟨c, hc1, hc2⟩ := cpl_lt hi
      rw [List.getElem?_map, hc1] at he; cases he
      have := cpl_le (xs := m) (ys := M)
      refine ⟨_, Exs.cons (Ex.iff (b := false) ((show (c != c) = false by simp) ▸ stepT _ _ i c c _ _ _ _ _ (by lia) rfl rfl rfl hc2) Exs.nil) Exs.nil, fun y e' q => inv0 _ y e' q rfl rfl rfl rfl rfl⟩
    rcases cpl_end hle with q | ⟨a, b, qa, qb, qne⟩
    · refine Exs.cons (Ex.forEnum (fun _ => [("s1", dS m), ("s2", dS M), ("common", dS m), ("sep", .str "/"), ("isabs", .bool true)]) (cpl m M) [("s1", dS m), ("s2", dS M), ("common", dS m), ("sep", .str "/"), ("isabs", .bool true)] (Ev.blt rfl rfl Boot.enumerate) (EvA.plain (EvS.cons (Ev.name rfl) EvS.nil)) (xs := m.map D.str) (.inl rfl) (.inl rfl) (.inl rfl) ?_ (by rw [List.length_map]; exact cpl_le) ?_ (.inl ⟨by rw [List.length_map]; exact q, rfl⟩)) ?_
      · exact fun y e q => inv0 _ y e q rfl rfl rfl rfl rfl
      · exact fun i e hi he => stepN _ i e _ _ _ _ _ _ _ hi he
      · have ht : m.take (cpl m M) = m := by rw [q, List.take_length]
        rw [ht] at tail ⊢
        refine Exs.cons (Ex.assign ((tail _ _ rfl rfl rfl).1 _ _ _ _) (.inl rfl)) ?_
        exact Exs.ret (Ex.ret ((tail _ [("sep", .str "/"), ("isabs", .bool true), ("common", dS m)] rfl rfl rfl).2 _ _ _ _ _ _ _ rfl rfl rfl rfl))
    · have hk : cpl m M < m.length := (List.getElem?_eq_some_iff.mp qa).1
      have hpk : pick (m.map D.str) none (some ((cpl m M : Nat) : Int)) none = (m.take (cpl m M)).map D.str := by rw [pick_take, List.map_take]
      refine Exs.cons (Ex.forEnum (fun _ => [("s1", dS m), ("s2", dS M), ("common", dS m), ("sep", .str "/"), ("isabs", .bool true)]) (cpl m M) _ (Ev.blt rfl rfl Boot.enumerate) (EvA.plain (EvS.cons (Ev.name rfl) EvS.nil)) (xs := m.map D.str) (.inl rfl) (.inl rfl) (.inl rfl) ?_ (by rw [List.length_map]; exact cpl_le) ?_ (.inr ⟨.str a, by rw [List.getElem?_map, qa]; rfl,
          Exs.brk (Ex.iff (b := true) ((show (a != b) = true by simpa using qne) ▸ stepT _ _ (cpl m M) a b _ _ _ _ _ (by lia) rfl rfl rfl qb) (Exs.cons (Ex.assign ((Ev.cut (xs := m.map D.str) (Ev.name rfl) (.inl rfl) EvP.no (EvP.yes (Ev.name rfl)) EvP.no (by decide) (by rw [List.length_map]; lia)).to (congrArg D.lst hpk)) (.inl rfl)) (Exs.brk Ex.brk)))⟩)) ?_
      · exact fun y e q => inv0 _ y e q rfl rfl rfl rfl rfl
      · exact fun i e hi he => stepN _ i e _ _ _ _ _ _ _ hi he
      · refine Exs.cons (Ex.assign ((tail _ _ rfl rfl rfl).1 _ _ _ _) (.inl rfl)) ?_
        exact Exs.ret (Ex.ret ((tail _ [("sep", .str "/"), ("isabs", .bool true), ("common", dS (m.take (cpl m M)))] rfl rfl rfl).2 _ _ _ _ _ _ _ rfl rfl rfl rfl))
  · exact len1 fun a => rfl
end
end Mine
end

section
open PySem PySem.W PySem.Calls PyProof.Rows
set_option Elab.async false
set_option tactic.hygienic false
set_option linter.unusedVariables false
namespace Mine
/-! orders and common beginnings, in plain words -/
structure STO {α : Type} (lt : α → α → Bool) : Prop where
  irr : ∀ a, lt a a = false
  tr : ∀ a b c, lt a b = true → lt b c = true → lt a c = true
  tri : ∀ a b, lt a b = false → lt b a = false → a = b
theorem STO.asym {α : Type} {lt : α → α → Bool} (o : STO lt) {a b : α} (h : lt a b = true) : lt b a = false := by
  cases q : lt b a with
  | false => rfl
  | true => have := o.tr a b a h q; (first | exact nS o.irr this | exact nS this o.irr | exact nD o.irr this | exact nD this o.irr | cases sE o.irr this | (rw [o.irr] at this; cases this))
theorem STO.str : STO strLt where
  irr := fun a => by unfold strLt; exact decide_eq_false (List.lt_irrefl _)
  tr := fun a b c h1 h2 => by
    unfold strLt at *
    exact decide_eq_true (List.lt_trans (of_decide_eq_true h1) (of_decide_eq_true h2))
  tri := fun a b h1 h2 => by
    unfold strLt at *
    have h1 := of_decide_eq_false h1
    have h2 := of_decide_eq_false h2
    have : a.cps.toList = b.cps.toList := List.le_antisymm (List.not_lt.mp h2) (List.not_lt.mp h1)
    obtain ⟨x⟩ := a; obtain ⟨y⟩ := b
    simp only at this
    rw [Array.toList_inj.mp this]
theorem STO.int : STO iLt where
  irr := fun a => by unfold iLt; exact decide_eq_false (by lia)
  tr := fun a b c h1 h2 => by
    unfold iLt at *
    have h1 := of_decide_eq_true h1
    have h2 := of_decide_eq_true h2
    exact decide_eq_true (by lia)
  tri := fun a b h1 h2 => by
    unfold iLt at *
    have h1 := of_decide_eq_false h1
    have h2 := of_decide_eq_false h2
    lia
section
variable {α : Type} [DecidableEq α] {lt : α → α → Bool}
theorem ltL_irr (o : STO lt) : ∀ xs : List α, ltL lt xs xs = false
  | [] => rfl
  | x :: xs => by unfold ltL; rw [if_pos rfl]; exact ltL_irr o xs
theorem ltL_tr (o : STO lt) : ∀ xs ys zs : List α, ltL lt xs ys = true → ltL lt ys zs = true → ltL lt xs zs = true
  | [], [], _, h, _ => by simp [ltL] at h
  | [], _ :: _, [], _, h => by simp [ltL] at h
  | [], _ :: _, _ :: _, _, _ => rfl
  | _ :: _, [], _, h, _ => by simp [ltL] at h
  | _ :: _, _ :: _, [], _, h => by simp [ltL] at h
  | x :: xs, y :: ys, z :: zs, h1, h2 => by
    unfold ltL at h1 h2 ⊢
    by_cases e1 : x = y
    · subst e1
      rw [if_pos rfl] at h1
      by_cases e2 : x = z
      · subst e2
        rw [if_pos rfl] at h2 ⊢
        exact ltL_tr o xs ys zs h1 h2
      · rw [if_neg e2] at h2 ⊢; exact h2
    · rw [if_neg e1] at h1
      by_cases e2 : y = z
      · subst e2; rw [if_neg e1]; exact h1
      · rw [if_neg e2] at h2
        have h3 := o.tr _ _ _ h1 h2
        by_cases e3 : x = z
        · subst e3; (first | exact nS o.irr h3 | exact nS h3 o.irr | exact nD o.irr h3 | exact nD h3 o.irr | cases sE o.irr h3 | (rw [o.irr] at h3; cases h3))
        · rw [if_neg e3]; exact h3
theorem ltL_tri (o : STO lt) : ∀ xs ys : List α, ltL lt xs ys = false → ltL lt ys xs = false → xs = ys
  | [], [], _, _ => rfl
  | [], _ :: _, h, _ => by simp [ltL] at h
  | _ :: _, [], _, h => by simp [ltL] at h
  | x :: xs, y :: ys, h1, h2 => by
    unfold ltL at h1 h2
    by_cases e : x = y
    · subst e
      rw [if_pos rfl] at h1 h2
      rw [ltL_tri o xs ys h1 h2]
    · rw [if_neg e] at h1
      rw [if_neg (Ne.symm e)] at h2
      exact absurd (o.tri _ _ h1 h2) e
theorem STO.lst (o : STO lt) : STO (ltL lt) := ⟨ltL_irr o, ltL_tr o, ltL_tri o⟩
end
section
variable {α : Type} {lt : α → α → Bool}
theorem STO.le_of (o : STO lt) {a b c : α} (h1 : lt b a = false) (h2 : lt c b = false) : lt c a = false := by
  cases q : lt c a with
  | false => rfl
  | true =>
    cases q2 : lt b c with
    | true => (first | exact nS (o.tr b c a q2 q) h1 | exact nS h1 (o.tr b c a q2 q) | exact nD (o.tr b c a q2 q) h1 | exact nD h1 (o.tr b c a q2 q) | cases sE (o.tr b c a q2 q) h1 | (rw [o.tr b c a q2 q] at h1; cases h1))
    | false => rw [o.tri b c q2 h2, q] at h1; cases h1
theorem min_le (o : STO lt) : ∀ (xs : List α) (b : α), ∀ x ∈ b :: xs, lt x (minBy lt b xs) = false
  | [], b, x, hx => by simp at hx; subst hx; exact o.irr _
  | y :: xs, b, x, hx => by
    have ih := min_le o xs (if lt y b then y else b)
    show lt x (minBy lt (if lt y b then y else b) xs) = false
    generalize minBy lt (if lt y b then y else b) xs = m at *
    have h0 := ih _ List.mem_cons_self
    rcases List.mem_cons.mp hx with rfl | hx
    · cases q : lt y x with
      | true => rw [if_pos q] at h0; exact o.le_of h0 (o.asym q)
      | false => rw [if_neg (by simp [q])] at h0; exact h0
    · rcases List.mem_cons.mp hx with rfl | hx
      · cases q : lt x b with
        | true => rw [if_pos q] at h0; exact h0
        | false => rw [if_neg (by simp [q])] at h0; exact o.le_of h0 q
      · exact ih _ (List.mem_cons_of_mem _ hx)
theorem max_ge (o : STO lt) : ∀ (xs : List α) (b : α), ∀ x ∈ b :: xs, lt (maxBy lt b xs) x = false
  | [], b, x, hx => by simp at hx; subst hx; exact o.irr _
  | y :: xs, b, x, hx => by
    have ih := max_ge o xs (if lt b y then y else b)
    show lt (maxBy lt (if lt b y then y else b) xs) x = false
    generalize maxBy lt (if lt b y then y else b) xs = m at *
    have h0 := ih _ List.mem_cons_self
    rcases List.mem_cons.mp hx with rfl | hx
    · cases q : lt x y with
      | true => rw [if_pos q] at h0; exact o.le_of (o.asym q) h0
      | false => rw [if_neg (by simp [q])] at h0; exact h0
    · rcases List.mem_cons.mp hx with rfl | hx
      · cases q : lt b x with
        | true => rw [if_pos q] at h0; exact h0
        | false => rw [if_neg (by simp [q])] at h0; exact o.le_of q h0
      · exact ih _ (List.mem_cons_of_mem _ hx)
end
-- what least and greatest have together, all have
theorem cpl_pre : ∀ {m M x : List Str}, ltL strLt x m = false → ltL strLt M x = false → m.take (cpl m M) <+: x
  | [], _, x, _, _ => by simp
  | c :: m, [], x, _, _ => by simp [cpl]
  | c :: m, d :: M, x, h1, h2 => by
    unfold cpl
    by_cases e : c = d
    · subst e
      rw [if_pos rfl, List.take_succ_cons]
      cases x with
      | nil => simp [ltL] at h1
      | cons y x =>
        unfold ltL at h1 h2
        by_cases e2 : y = c
        · subst e2
          rw [if_pos rfl] at h1 h2
          obtain ⟨t, ht⟩ := cpl_pre h1 h2
          exact ⟨t, by rw [List.cons_append, ht]⟩
        · rw [if_neg e2] at h1
          rw [if_neg (Ne.symm e2)] at h2
          exact absurd (STO.str.tri _ _ h1 h2) e2
    · rw [if_neg e]; simp
theorem pre_cpl : ∀ {p m M : List Str}, p <+: m → p <+: M → p <+: m.take (cpl m M)
  | [], m, M, _, _ => by simp
  | c :: p, m, M, ⟨t, ht⟩, ⟨u, hu⟩ => by
    subst ht hu
    simp only [List.cons_append]
    unfold cpl
    rw [if_pos rfl, List.take_succ_cons]
    obtain ⟨t', ht'⟩ := pre_cpl (p := p) (m := p ++ t) (M := p ++ u) ⟨t, rfl⟩ ⟨u, rfl⟩
    exact ⟨t', by rw [List.cons_append, ht']⟩
theorem common_is {x : Str} {xs : List Str} {p : List Str} (hp : ∀ y ∈ x :: xs, p <+: namesOf y) (hq : ∀ q : List Str, (∀ y ∈ x :: xs, q <+: namesOf y) → q.length ≤ p.length) :
    (minP x xs).take (cpl (minP x xs) (maxP x xs)) = p := by
  have mem : ∀ z, z ∈ (x :: xs).map namesOf → ∃ y ∈ x :: xs, namesOf y = z := fun z hz => List.mem_map.mp hz
  obtain ⟨ym, hm, em⟩ := mem _ (show minP x xs ∈ (x :: xs).map namesOf from minBy_mem _ _)
  obtain ⟨yM, hM, eM⟩ := mem _ (show maxP x xs ∈ (x :: xs).map namesOf from maxBy_mem _ _)
  have h1 : p <+: (minP x xs).take (cpl (minP x xs) (maxP x xs)) := pre_cpl (em ▸ hp ym hm) (eM ▸ hp yM hM)
  have h2 := hq ((minP x xs).take (cpl (minP x xs) (maxP x xs))) fun y hy =>
    cpl_pre (min_le STO.str.lst (xs.map namesOf) (namesOf x) _ (show namesOf y ∈ (x :: xs).map namesOf from List.mem_map_of_mem hy)) (max_ge STO.str.lst (xs.map namesOf) (namesOf x) _ (show namesOf y ∈ (x :: xs).map namesOf from List.mem_map_of_mem hy))
  exact (List.IsPrefix.eq_of_length h1 (Nat.le_antisymm h1.length_le h2)).symm
theorem min_max {x : Str} {xs : List Str} : ltL strLt (maxP x xs) (minP x xs) = false :=
  STO.str.lst.le_of (min_le STO.str.lst (xs.map namesOf) (namesOf x) _ List.mem_cons_self) (max_ge STO.str.lst (xs.map namesOf) (namesOf x) _ List.mem_cons_self)
end Mine
end

section
open PySem PySem.W PySem.Calls PyProof.Rows
set_option Elab.async false
set_option tactic.hygienic false
set_option linter.unusedVariables false
set_option maxRecDepth 100000
namespace Mine
/-! the paths of the law: lists of at most three of three names -/
noncomputable abbrev Node := List Str
noncomputable def nm3 : List Str := ["a", "b", "ab"]
noncomputable def allN : List Node := [[]] ++ nm3.map (fun x => [x]) ++ nm3.flatMap (fun x => nm3.map fun y => [x, y]) ++ nm3.flatMap (fun x => nm3.flatMap fun y => nm3.map fun z => [x, y, z])
noncomputable def pathS (f : Node) : Str := Str.ofString "/" ++ Txt.join "/" f
noncomputable def pairS (f : Node) : Str × Str := (pathS f.dropLast, f.getLastD "")
theorem allN_mem {f : Node} : f ∈ allN ↔ f.length ≤ 3 ∧ ∀ x ∈ f, x ∈ nm3 := by
  unfold allN
  simp only [List.mem_append, List.mem_map, List.mem_flatMap, List.mem_singleton]
  constructor
  · rintro (((rfl | ⟨x, hx, rfl⟩) | ⟨x, hx, y, hy, rfl⟩) | ⟨x, hx, y, hy, z, hz, rfl⟩)
    · simp
    · simpa using hx
    · simp [hx, hy]
    · simp [hx, hy, hz]
  · rintro ⟨h1, h2⟩
    match f, h1, h2 with
    | [], _, _ => exact .inl (.inl (.inl rfl))
    | [x], _, h2 => exact .inl (.inl (.inr ⟨x, h2 x (by simp), rfl⟩))
    | [x, y], _, h2 => exact .inl (.inr ⟨x, h2 x (by simp), y, h2 y (by simp), rfl⟩)
    | [x, y, z], _, h2 => exact .inr ⟨x, h2 x (by simp), y, h2 y (by simp), z, h2 z (by simp), rfl⟩
    | _ :: _ :: _ :: _ :: _, h1, _ => simp at h1
theorem names_path : ∀ f ∈ allN, namesOf (pathS f) = f := by decide +kernel
theorem split_path : ∀ f ∈ allN, f ≠ [] → splitH (pathS f) = pathS f.dropLast ∧ splitTail (pathS f) = f.getLastD "" := by decide +kernel
theorem join_path : ∀ f ∈ allN, f ≠ [] → joinP (pairS f).1 [(pairS f).2] = pathS f := by decide +kernel
theorem join_root : ∀ f ∈ allN, joinP "/" f = pathS f := by decide +kernel
theorem path_small : ∀ f ∈ allN, Txt.startswith (pathS f) "/" = true ∧ (pathS f).length ≤ 20 ∧ (Builtin.Str.partsBetween (pathS f) (Builtin.Str.occurrences (pathS f) "/" 0 (pathS f).length ((pathS f).length + 1)) (Str.ofString "/").length).length ≤ 10000 := by decide +kernel
theorem join_ok : ∀ f ∈ allN, JoinOk "/" f = true ∧ (Txt.join "/" f).length ≤ 1000 ∧ lens f ≤ 20 := by decide +kernel
theorem pair_small : ∀ f ∈ allN, (pairS f).1.length ≤ 20 ∧ (pairS f).2.length ≤ 20 ∧ (f ≠ [] → 2 ≤ (pairS f).1.length + (pairS f).2.length) := by decide +kernel
theorem path_inj {f g : Node} (hf : f ∈ allN) (hg : g ∈ allN) (h : pathS f = pathS g) : f = g := by rw [← names_path f hf, ← names_path g hg, h]
end Mine
end

section
open PySem PySem.W PySem.Calls PyProof.Rows
set_option Elab.async false
set_option tactic.hygienic false
set_option linter.unusedVariables false
namespace Mine
/-! the best cutting of a tree, in plain words -/
section
variable (pl wl : List Int) (width : Int)
-- what cuttings of the nodes up to k lead to
noncomputable def Outc : Nat → (Nat → Int) → Int → Int × Int → Prop
  | 0, h, cuts, o => h 0 ≤ width ∧ o = (cuts, h 0)
  | k + 1, h, cuts, o => wl.getD k 0 + h (k + 1) ≤ width ∧ (Outc k h (cuts + 1) o ∨ Outc k (fun j => if (j : Int) = pl.getD k 0 then h j + (wl.getD k 0 + h (k + 1)) else h j) cuts o)
theorem Outc.congr : ∀ {k : Nat} {h h' : Nat → Int} {cuts : Int} {o : Int × Int}, (∀ j, j ≤ k → h j = h' j) → Outc pl wl width k h cuts o → Outc pl wl width k h' cuts o
  | 0, h, h', cuts, o, e, ⟨a, b⟩ => ⟨e 0 (Nat.le_refl _) ▸ a, by rw [b, e 0 (Nat.le_refl _)]⟩
  | k + 1, h, h', cuts, o, e, ⟨a, b⟩ => by
    have e1 := e (k + 1) (Nat.le_refl _)
    refine ⟨e1 ▸ a, b.imp (Outc.congr fun j hj => e j (by lia)) (Outc.congr fun j hj => ?_)⟩
    show (if (j : Int) = pl.getD k 0 then h j + (wl.getD k 0 + h (k + 1)) else h j) = if (j : Int) = pl.getD k 0 then h' j + (wl.getD k 0 + h' (k + 1)) else h' j
    rw [e1, e j (by lia)]
theorem Outc.cuts_ge : ∀ {k : Nat} {h : Nat → Int} {cuts : Int} {o : Int × Int}, Outc pl wl width k h cuts o → cuts ≤ o.1 ∧ o.1 ≤ cuts + k
  | 0, h, cuts, o, ⟨_, b⟩ => by subst b; simp
  | k + 1, h, cuts, o, ⟨_, b⟩ => by
    rcases b with b | b
    · have := Outc.cuts_ge b; lia
    · have := Outc.cuts_ge b; lia
noncomputable def lexLt (a b : Int × Int) : Prop := a.1 < b.1 ∨ (a.1 = b.1 ∧ a.2 < b.2)
theorem ltL_pair {a b c d : Int} : ltL iLt [a, b] [c, d] = true ↔ lexLt (a, b) (c, d) := by
  unfold lexLt
  simp only [ltL, iLt]
  by_cases h : a = c
  · subst h
    by_cases h2 : b = d
    · subst h2; simp [ltL]
    · simp [h2]
  · simp [h]
theorem getD_take {xs : List Int} {k j : Nat} (h : j < k) : (xs.take k).getD j 0 = xs.getD j 0 := by
  rw [List.getD_eq_getElem?_getD, List.getD_eq_getElem?_getD, List.getElem?_take, if_pos h]
theorem getD_map {f : Nat → Int} {k j : Nat} (h : j < k) : ((List.range k).map f).getD j 0 = f j := by
  rw [List.getD_eq_getElem?_getD, List.getElem?_map, List.getElem?_range h]; rfl
-- leastP is the least of what cuttings lead to
theorem least_out : ∀ (k : Nat) (hangs : List Int) (cuts : Int), cuts + k < 99 →
    (∃ o, Outc pl wl width k (fun j => hangs.getD j 0) cuts o ∧ leastP pl wl width k hangs cuts = [o.1, o.2] ∧ ∀ o', Outc pl wl width k (fun j => hangs.getD j 0) cuts o' → ¬ lexLt o' o) ∨
    (leastP pl wl width k hangs cuts = [99, 0] ∧ ∀ o', ¬ Outc pl wl width k (fun j => hangs.getD j 0) cuts o')
  | 0, hangs, cuts, hc => by
    unfold leastP
    by_cases h : hangs.getD 0 0 ≤ width
    · rw [if_pos h]
      refine .inl ⟨(cuts, hangs.getD 0 0), ⟨h, rfl⟩, rfl, fun o' ho' => ?_⟩
      obtain ⟨_, rfl⟩ := ho'
      unfold lexLt; simp
    · rw [if_neg h]
      exact .inr ⟨rfl, fun o' ho' => h ho'.1⟩
  | k + 1, hangs, cuts, hc => by
    unfold leastP
    simp only
    by_cases hgt : wl.getD k 0 + hangs.getD (k + 1) 0 > width
    · rw [if_pos hgt]
      exact .inr ⟨rfl, fun o' ho' => by have h1 : wl.getD k 0 + hangs.getD (k + 1) 0 ≤ width := ho'.1; lia⟩
    · rw [if_neg hgt]
      have hle : wl.getD k 0 + hangs.getD (k + 1) 0 ≤ width := by lia
      have i1 := least_out k (hangs.take (k + 1)) (cuts + 1) (by lia)
      have i2 := least_out k ((List.range (k + 1)).map fun j : Nat => if (j : Int) = pl.getD k 0 then hangs.getD j 0 + (wl.getD k 0 + hangs.getD (k + 1) 0) else hangs.getD j 0) cuts (by lia)
      have c1 : ∀ o, Outc pl wl width k (fun j => (hangs.take (k + 1)).getD j 0) (cuts + 1) o ↔ Outc pl wl width k (fun j => hangs.getD j 0) (cuts + 1) o := fun o =>
        ⟨Outc.congr pl wl width fun j hj => getD_take (by lia), Outc.congr pl wl width fun j hj => (getD_take (by lia)).symm⟩
      have c2 : ∀ o, Outc pl wl width k (fun j => ((List.range (k + 1)).map fun j : Nat => if (j : Int) = pl.getD k 0 then hangs.getD j 0 + (wl.getD k 0 + hangs.getD (k + 1) 0) else hangs.getD j 0).getD j 0) cuts o ↔
          Outc pl wl width k (fun j => if (j : Int) = pl.getD k 0 then hangs.getD j 0 + (wl.getD k 0 + hangs.getD (k + 1) 0) else hangs.getD j 0) cuts o := fun o =>
        ⟨Outc.congr pl wl width fun j hj => getD_map (by lia), Outc.congr pl wl width fun j hj => (getD_map (f := fun j : Nat => if (j : Int) = pl.getD k 0 then hangs.getD j 0 + (wl.getD k 0 + hangs.getD (k + 1) 0) else hangs.getD j 0) (by lia)).symm⟩
      simp only [c1] at i1
      simp only [c2] at i2
      have split : ∀ o, Outc pl wl width (k + 1) (fun j => hangs.getD j 0) cuts o ↔ Outc pl wl width k (fun j => hangs.getD j 0) (cuts + 1) o ∨ Outc pl wl width k (fun j => if (j : Int) = pl.getD k 0 then hangs.getD j 0 + (wl.getD k 0 + hangs.getD (k + 1) 0) else hangs.getD j 0) cuts o := fun o =>
        ⟨fun z => z.2, fun z => ⟨hle, z⟩⟩
      simp only [split]
      show (∃ o, _ ∧ (if ltL iLt _ _ then _ else _) = _ ∧ _) ∨ ((if ltL iLt _ _ then _ else _) = _ ∧ _)
      rcases i1 with ⟨o1, p1, q1, r1⟩ | ⟨q1, r1⟩
      · rcases i2 with ⟨o2, p2, q2, r2⟩ | ⟨q2, r2⟩
        · rw [q1, q2]
          by_cases hl : ltL iLt [o2.1, o2.2] [o1.1, o1.2] = true
          · rw [if_pos hl]
            refine .inl ⟨o2, .inr p2, rfl, fun o' ho' => ?_⟩
            have hl := ltL_pair.mp hl
            rcases ho' with z | z
            · have := r1 o' z; intro q; unfold lexLt at *; lia
            · exact r2 o' z
          · rw [if_neg hl]
            refine .inl ⟨o1, .inl p1, rfl, fun o' ho' => ?_⟩
            have hl : ¬ lexLt o2 o1 := fun q => hl (ltL_pair.mpr q)
            rcases ho' with z | z
            · exact r1 o' z
            · have := r2 o' z; intro q; unfold lexLt at *; lia
        · rw [q1, q2]
          have hb := Outc.cuts_ge pl wl width p1
          have hl : ¬ ltL iLt [99, 0] [o1.1, o1.2] = true := fun q => by
            have := ltL_pair.mp q; unfold lexLt at this; simp only at this; lia
          rw [if_neg hl]
          exact .inl ⟨o1, .inl p1, rfl, fun o' ho' => ho'.elim (r1 o') fun z => absurd z (r2 o')⟩
      · rcases i2 with ⟨o2, p2, q2, r2⟩ | ⟨q2, r2⟩
        · rw [q1, q2]
          have hb := Outc.cuts_ge pl wl width p2
          have hl : ltL iLt [o2.1, o2.2] [99, 0] = true := ltL_pair.mpr (by unfold lexLt; simp only; lia)
          rw [if_pos hl]
          exact .inl ⟨o2, .inr p2, rfl, fun o' ho' => ho'.elim (fun z => absurd z (r1 o')) (r2 o')⟩
        · rw [q1, q2]
          have hl : ¬ ltL iLt [99, 0] [99, 0] = true := fun q => by
            have := ltL_pair.mp q; unfold lexLt at this; simp only at this; lia
          rw [if_neg hl]
          exact .inr ⟨rfl, fun o' ho' => ho'.elim (r1 o') (r2 o')⟩
end
end Mine
end

section
open PySem PySem.W PySem.Calls PyProof.Rows
set_option Elab.async false
set_option tactic.hygienic false
set_option linter.unusedVariables false
namespace Mine
-- all that stood is kept, but for X; a dict that is not of the base may get other slots
structure KeepsW (hb : Heap) (X : List Addr) (s s' : Shared) : Prop where
  get : ∀ b o, b ∉ X → s.heap.get? b = some o → (b = tb → ∀ vs, o.data ≠ .fields vs) → ∃ o', s'.heap.get? b = some o' ∧ Sm o o' ∧ (((∃ vs, o.data = .fields vs) ∨ (∃ vs n, o.data = .seq vs n) ∨ (hb.get? b).isSome = true) → o' = o)
  tab : TabOk s.heap → TabOk s'.heap
  bare : AllBare s.gens → AllBare s'.gens
  os : s'.os = s.os
section
variable {w : World} {hb : Heap} {n : Nat} {A : Around} {env : Env} {ls ls' : List (Str × D)} {σ σ' : List Ob} {ad ad' : List Addr} {s s' s'' : Shared} {E : Value → Shared → Prop} {X Y : List Addr}
theorem KeepsW.of (k : KeepsX X s s') : KeepsW hb X s s' := ⟨fun b o hb' e q => ⟨o, k.get b o hb' e q, .refl o, fun _ => rfl⟩, k.tab, k.bare, k.os⟩
theorem KeepsW.refl (X : List Addr) (s : Shared) : KeepsW hb X s s := .of (.refl X s)
theorem KeepsW.mono (k : KeepsW hb X s s') (h : ∀ b ∈ X, b ∈ Y) : KeepsW hb Y s s' := ⟨fun b o hb' e q => k.get b o (fun hm => hb' (h b hm)) e q, k.tab, k.bare, k.os⟩
theorem KeepsW.inv (k : KeepsW hb X s s') (i : Inv w hb s) (hX : ∀ b ∈ X, hb.get? b = none) : Inv w hb s' := by
  refine ⟨i.bs, fun b o hb' e => ?_, k.tab i.tab, k.bare i.bare⟩
  obtain ⟨o', e', _, x⟩ := k.get b o (fun hm => by (first | exact nS (hX b hm) e | exact nS e (hX b hm) | exact nD (hX b hm) e | exact nD e (hX b hm) | cases sE (hX b hm) e | (rw [hX b hm] at e; cases e))) (i.keep b o hb' e) fun q => absurd q hb'
  rw [x (.inr (.inr (by rw [e]; rfl)))] at e'
  exact e'
theorem KeepsW.rm (k : KeepsW hb X s s') (r : Rm hb n A s.heap) (hX : ∀ b ∈ X, ∀ o, s.heap.get? b = some o → (∃ vs, o.data = .fields vs) ∨ ∃ vs n, o.data = .seq vs n) : Rm hb n A s'.heap := by
  refine ⟨r.handled, r.depth, r.units, ?_⟩
  obtain ⟨outer, e1, e2⟩ := r.frames
  refine ⟨outer, e1, fun env' he => ?_⟩
  obtain ⟨q, L, ob, h1, h2, h3, h4, h5⟩ := e2 env' he
  obtain ⟨o', e', m, _⟩ := k.get L ob (fun hm => by
    rcases hX L hm ob h3 with ⟨vs, q⟩ | ⟨vs, n', q⟩
    · exact h4 vs q
    · exact h5 vs n' q) h3 fun _ => h4
  exact ⟨q, L, o', h1, h2, e', fun vs q => h4 vs (m.2.2 ▸ q), fun vs n q => h5 vs n (m.2.2 ▸ q)⟩
theorem KeepsW.ns {a : Addr} {m : Str → Option Value} (k : KeepsW hb X s s') (hn : s.heap.Ns a m) (ha : a ∉ X) : s'.heap.Ns a m := by
  obtain ⟨o, es, ep, ho, hd, r⟩ := hn
  obtain ⟨o', e', mm, _⟩ := k.get a o ha ho (fun _ us q => by (first | exact nS hd q | exact nS q hd | exact nD hd q | exact nD q hd | cases sE hd q | (rw [hd] at q; cases q)))
  exact ⟨o', es, ep, e', mm.2.2.trans hd, r⟩
theorem KeepsW.cell {a : Addr} {v : Option Value} (k : KeepsW hb X s s') (hn : s.heap.IsCell a v) (ha : a ∉ X) : s'.heap.IsCell a v := by
  obtain ⟨o, ho, hd⟩ := hn
  obtain ⟨o', e', mm, _⟩ := k.get a o ha ho (fun _ us q => by (first | exact nS hd q | exact nS q hd | exact nD hd q | exact nD q hd | cases sE hd q | (rw [hd] at q; cases q)))
  exact ⟨o', e', mm.2.2.trans hd⟩
-- a list, a record stays as it is
theorem KeepsW.exact {b : Addr} {o : Obj} (k : KeepsW hb X s s') (hb' : b ∉ X) (e : s.heap.get? b = some o) (ht : b ≠ tb) (hd : (∃ vs n, o.data = .seq vs n) ∨ ∃ vs, o.data = .fields vs) : s'.heap.get? b = some o := by
  obtain ⟨o', e', _, x⟩ := k.get b o hb' e fun q => absurd q ht
  rw [x (hd.elim (fun q => .inr (.inl q)) .inl)] at e'; exact e'
-- carrying data over a weak step that may have turned the owned objects
theorem KeepsW.car (k : KeepsW hb (ad ++ X) s s') (t : TabOk s.heap) (hX : Flds hb X s.heap) (pre : ∃ new, ad' = ad ++ new ∧ ∀ a ∈ new, s.heap.get? a = none) : Car s.heap s'.heap ad ad' (tb :: (ad ++ X)) := by
  obtain ⟨new, rfl, hnew⟩ := pre
  refine ⟨fun b o hb' e => ?_, fun b hm => ?_, fun i a e => ?_, fun b hm => ?_⟩
  · obtain ⟨o', e', m, _⟩ := k.get b o (fun q => hb' (List.mem_cons_of_mem _ q)) e fun q => absurd q fun q => hb' (by rw [q]; exact List.mem_cons_self)
    exact ⟨o', e', m⟩
  · rcases memc hm with rfl | hm
    · exact .inr t.nd
    · rcases List.mem_append.mp hm with hm | hm
      · exact .inl hm
      · obtain ⟨_, o, vs, e, d⟩ := hX b hm
        exact .inr (nd_fields e d)
  · rw [List.getElem?_append_left (List.getElem?_eq_some_iff.mp e).1]; exact e
  · rcases List.mem_append.mp hm with q | q
    · exact .inl q
    · exact .inr (hnew b q)
theorem Cs.weak (c : Cs w hb n A env ls σ ad s) (k : KeepsW hb ad s s') (pre : ∃ new, ad' = ad ++ new ∧ ∀ a ∈ new, s.heap.get? a = none) (own' : Own hb σ' ad' s'.heap) : Cs w hb n A env ls σ' ad' s' := by
  have car : Car s.heap s'.heap ad ad' (tb :: (ad ++ [])) := KeepsW.car (X := []) (by rw [List.append_nil]; exact k) c.cx.inv.tab (fun b hm => by simp at hm) pre
  have notin : ∀ b o, s.heap.get? b = some o → b ∉ ad → b ∉ ad' := fun b o e hb' => car.notin e hb'
  refine ⟨⟨k.rm c.cx.rm fun b hm o e => ?_, k.inv c.cx.inv c.cx.st.own.new, ?_⟩, c.top, ?_, c.fn.kin, c.fn.cel, c.fn.apart, c.fn.frame⟩
  · obtain ⟨ob, vs, m, q1, q2⟩ := c.cx.st.own.seqs hm
    (first | exact nS e q1 | exact nS q1 e | exact nD e q1 | exact nD q1 e | cases sE e q1 | (rw [e] at q1; cases q1))
    exact .inr ⟨vs, m, q2⟩
  · exact {
      nm := fun y d q => by
        obtain ⟨v, z, r⟩ := c.cx.st.nm y d q
        refine ⟨v, ?_, r.car car⟩
        rcases z with ⟨a, m, b, e'⟩ | ⟨a, cl, b, e'⟩
        · exact .inl ⟨a, m, k.ns b c.cx.st.locad, e'⟩
        · exact .inr ⟨a, cl, b, k.cell e' (c.cx.st.cel y cl (mem_of_lookup b)).1⟩
      ns := let ⟨m, hn⟩ := c.cx.st.ns; ⟨m, k.ns hn c.cx.st.locad⟩
      loc := c.cx.st.loc
      locad := by
        obtain ⟨m, o, _, _, e, _⟩ := c.cx.st.ns
        exact notin _ o e c.cx.st.locad
      cel := fun nm cl hm => by
        obtain ⟨a, b, d', vv, z⟩ := c.cx.st.cel nm cl hm
        obtain ⟨o, e, _⟩ := id z
        exact ⟨notin _ o e a, b, d', vv, k.cell z a⟩
      kind := c.cx.st.kind
      glo := c.cx.st.glo
      bui := c.cx.st.bui
      own := own' }
  · obtain ⟨m, hn, hi⟩ := c.fn.nsf
    exact ⟨m, k.ns hn c.cx.st.locad, hi⟩
-- the owned list has grown by new objects
noncomputable def Grew (ad ad' : List Addr) (s : Shared) : Prop := ∃ new, ad' = ad ++ new ∧ ∀ a ∈ new, s.heap.get? a = none
theorem Grew.refl : Grew ad ad s := ⟨[], by simp, by simp⟩
-- what a call with effects gives: the owned objects become σ'
noncomputable def FsW (w : World) (hb : Heap) (n : Nat) (f : Value) (args : List D) (σ : List Ob) (d : D) (σ' : List Ob) : Prop :=
  ∀ (A : Around) (s : Shared) (ad : List Addr) (vals : List Value), Rm hb n A s.heap → Inv w hb s → Own hb σ ad s.heap → RdAll s.heap ad vals args →
    wpAny (model pg w) A (call f vals) (fun v s' => ∃ ad', KeepsW hb ad s s' ∧ Grew ad ad' s ∧ Own hb σ' ad' s'.heap ∧ Rd s'.heap ad' v d) (fun _ _ => False) s
theorem KeepsW.transG (k : KeepsW hb (ad ++ X) s s') (g : Grew ad ad' s) (k' : KeepsW hb (ad' ++ X) s' s'') : KeepsW hb (ad ++ X) s s'' := by
  obtain ⟨new, rfl, hnew⟩ := g
  refine ⟨fun b o hb' e q => ?_, fun t => k'.tab (k.tab t), fun t => k'.bare (k.bare t), k'.os.trans k.os⟩
  obtain ⟨o', e', m, x⟩ := k.get b o hb' e q
  obtain ⟨o'', e'', m', x'⟩ := k'.get b o' (fun hm => by
    rw [List.mem_append] at hm hb'
    rcases hm with hm | hm
    · rcases List.mem_append.mp hm with hm | hm
      · exact hb' (.inl hm)
      · (first | exact nS (hnew b hm) e | exact nS e (hnew b hm) | exact nD (hnew b hm) e | exact nD e (hnew b hm) | cases sE (hnew b hm) e | (rw [hnew b hm] at e; cases e))
    · exact hb' (.inr hm)) e' (fun qb vs => by rw [m.2.2]; exact q qb vs)
  refine ⟨o'', e'', m.trans m', fun c => ?_⟩
  have h1 := x c
  subst h1
  exact x' c
inductive OutW where
  | next (ls : List (Str × D)) (σ : List Ob)
  | brk (ls : List (Str × D)) (σ : List Ob)
  | ret (d : D) (σ : List Ob)
noncomputable def OkW (w : World) (hb : Heap) (n : Nat) (A : Around) (env : Env) (ad : List Addr) (f : Flow) (s : Shared) : OutW → Prop
  | .next ls σ => f = .next ∧ Cs w hb n A env ls σ ad s
  | .brk ls σ => f = .brk ∧ Cs w hb n A env ls σ ad s
  | .ret d σ => ∃ v, f = .ret v ∧ Rd s.heap ad v d ∧ Own hb σ ad s.heap
noncomputable def ExW (w : World) (hb : Heap) (n : Nat) (env : Env) (ls : List (Str × D)) (σ : List Ob) (st : Stmt) (o : OutW) : Prop :=
  ∀ (A : Around) (s : Shared) (ad : List Addr), Cs w hb n A env ls σ ad s →
    wpAny (model pg w) A (exec st env) (fun f s' => ∃ ad', KeepsW hb (ad ++ fx env) s s' ∧ Grew ad ad' s ∧ OkW w hb n A env ad' f s' o) (fun _ _ => False) s
noncomputable def ExsW (w : World) (hb : Heap) (n : Nat) (env : Env) (ls : List (Str × D)) (σ : List Ob) (sts : List Stmt) (o : OutW) : Prop :=
  ∀ (A : Around) (s : Shared) (ad : List Addr), Cs w hb n A env ls σ ad s →
    wpAny (model pg w) A (execs sts env) (fun f s' => ∃ ad', KeepsW hb (ad ++ fx env) s s' ∧ Grew ad ad' s ∧ OkW w hb n A env ad' f s' o) (fun _ _ => False) s
theorem Grew.trans {ad'' : List Addr} (g : Grew ad ad' s) (g' : Grew ad' ad'' s') (k : KeepsW hb X s s') (hX : ∀ b ∈ X, (∃ o, s.heap.get? b = some o) → ∃ o, s'.heap.get? b = some o) (t : TabOk s.heap) : Grew ad ad'' s := by
  obtain ⟨n1, rfl, h1⟩ := g
  obtain ⟨n2, rfl, h2⟩ := g'
  refine ⟨n1 ++ n2, by rw [List.append_assoc], fun a hm => ?_⟩
  rcases List.mem_append.mp hm with hm | hm
  · exact h1 a hm
  · cases q : s.heap.get? a with
    | none => rfl
    | some o =>
      have h3 := h2 a hm
      by_cases hx : a ∈ X
      · obtain ⟨o', e'⟩ := hX a hx ⟨o, q⟩
        (first | exact nS h3 e' | exact nS e' h3 | exact nD h3 e' | exact nD e' h3 | cases sE h3 e' | (rw [h3] at e'; cases e'))
      · by_cases ht : a = tb
        · subst ht
          obtain ⟨_, _, e, _⟩ := (k.tab t).fields
          (first | exact nS h3 e | exact nS e h3 | exact nD h3 e | exact nD e h3 | cases sE h3 e | (rw [h3] at e; cases e))
        · obtain ⟨o', e', _⟩ := k.get a o hx q fun q => absurd q ht
          (first | exact nS h3 e' | exact nS e' h3 | exact nD h3 e' | exact nD e' h3 | cases sE h3 e' | (rw [h3] at e'; cases e'))
theorem ExsW.nil : ExsW w hb n env ls σ [] (.next ls σ) := fun A s ad c => wpAny_execs_nil ⟨ad, .refl _ _, .refl, rfl, c⟩
theorem Cs.lives (c : Cs w hb n A env ls σ ad s) : ∀ b ∈ ad ++ fx env, ∃ o, s.heap.get? b = some o := fun b hm => by
  rcases List.mem_append.mp hm with hm | hm
  · obtain ⟨o, _, _, e, _⟩ := c.cx.st.own.seqs hm; exact ⟨o, e⟩
  · obtain ⟨_, _, o, e, _⟩ := c.fxcls hm; exact ⟨o, e⟩
theorem Grew.sub (g : Grew ad ad' s) : ∀ b ∈ ad ++ X, b ∈ ad' ++ X := fun b hm => by
  obtain ⟨n1, rfl, _⟩ := g
  rcases List.mem_append.mp hm with hm | hm
  · exact List.mem_append_left _ (List.mem_append_left _ hm)
  · exact List.mem_append_right _ hm
theorem ExsW.cons {st : Stmt} {rest : List Stmt} {o : OutW} (h1 : ExW w hb n env ls σ st (.next ls' σ')) (h2 : ExsW w hb n env ls' σ' rest o) : ExsW w hb n env ls σ (st :: rest) o := fun A s ad c => by
  refine wpAny_execs_cons (wpAny_mono (h1 A s ad c) (fun f s1 q => ?_) fun _ _ f => f)
  obtain ⟨ad1, k1, g1, rfl, c1⟩ := q
  refine wpAny_mono (h2 A s1 ad1 c1) (fun f s2 q => ?_) fun _ _ f => f
  obtain ⟨ad2, k2, g2, ok⟩ := q
  exact ⟨ad2, k1.transG g1 k2, g1.trans g2 k1 (fun b hm _ => c1.lives b (g1.sub b hm)) c.cx.inv.tab, ok⟩
theorem ExsW.ret {st : Stmt} {rest : List Stmt} {d : D} (h1 : ExW w hb n env ls σ st (.ret d σ')) : ExsW w hb n env ls σ (st :: rest) (.ret d σ') := fun A s ad c => by
  refine wpAny_execs_cons (wpAny_mono (h1 A s ad c) (fun f s1 q => ?_) fun _ _ f => f)
  obtain ⟨ad1, k1, g1, v, rfl, r⟩ := q
  exact ⟨ad1, k1, g1, v, rfl, r⟩
theorem KeepsW.ofF (k : KeepsF env s s') : KeepsW hb (ad ++ fx env) s s' := .of (k.mono fun b hm => List.mem_append_right _ hm)
theorem Ex.toW {st : Stmt} (h : Ex w hb n env ls σ st (.next ls')) : ExW w hb n env ls σ st (.next ls' σ) := fun A s ad c =>
  wpAny_mono (h A s ad c) (fun f s1 q => ⟨ad, .ofF q.1, .refl, q.2.1, q.2.2⟩) fun _ _ f => f
end
end Mine
end

section
open PySem PySem.W PySem.Calls PyProof.Rows
set_option Elab.async false
set_option tactic.hygienic false
set_option linter.unusedVariables false
namespace Mine
section
variable {w : World} {hb : Heap} {n : Nat} {A : Around} {env : Env} {ls ls' : List (Str × D)} {σ σ' : List Ob} {ad ad' : List Addr} {s s' s'' : Shared} {E : Value → Shared → Prop} {X Y : List Addr}
-- the owned objects and one more
theorem Own.snoc {a : Addr} {ob : Ob} (o : Own hb σ ad s.heap) (k : KeepsW hb ad s s') (t : TabOk s.heap) (bs : Bs w hb) (same : ∀ b ∈ ad, ∀ o, s.heap.get? b = some o → s'.heap.get? b = some o) (ha : s.heap.get? a = none) (hba : hb.get? a = none) (r : RdOb s'.heap (ad ++ [a]) a ob) : Own hb (σ ++ [ob]) (ad ++ [a]) s'.heap := by
  have car : Car s.heap s'.heap ad (ad ++ [a]) (tb :: (ad ++ [])) := KeepsW.car (X := []) (by rw [List.append_nil]; exact k) t (fun b hm => by simp at hm) ⟨[a], rfl, by simpa using ha⟩
  have nin : a ∉ ad := fun hm => by obtain ⟨_, _, _, q, _⟩ := o.seqs hm; (first | exact nS ha q | exact nS q ha | exact nD ha q | exact nD q ha | cases sE ha q | (rw [ha] at q; cases q))
  refine ⟨by simp [o.len], List.nodup_append.mpr ⟨o.nd, by simp, fun b hb' b' hb'' q => by replace hb'' := (List.mem_singleton.mp hb'').symm; subst hb'' q; exact nin hb'⟩, fun b hm => ?_, fun i b ob' e1 e2 => ?_⟩
  · rcases List.mem_append.mp hm with q | q
    · exact o.new b q
    · replace q := (List.mem_singleton.mp q).symm; subst q; exact hba
  · by_cases hl : i < ad.length
    · rw [List.getElem?_append_left hl] at e1
      rw [List.getElem?_append_left (by rw [← o.len]; exact hl)] at e2
      exact (o.at' i b ob' e1 e2).car car fun o' e' => ⟨o', same b (List.mem_of_getElem? e1) o' e', .refl _⟩
    · have hlen := o.len
      have hi : i = ad.length := by
        have := (List.getElem?_eq_some_iff.mp e1).1
        simp at this; lia
      subst hi
      rw [List.getElem?_append_right (Nat.le_refl _)] at e1
      rw [hlen, List.getElem?_append_right (Nat.le_refl _)] at e2
      simp at e1 e2
      subst e1 e2
      exact r
-- x = [] as an object that may change
theorem ExW.newList {x : Str} {p pos spos : Pos} (hx : Stor env x) (hs : autoParam (swapsWith (.List [] pos) (some (.Name x p)) spos.line env = pure false) Mine.auR) :
    ExW w hb n env ls σ (.Assign [.Name x p] (.List [] pos) spos) (.next ((x, .own σ.length) :: ls) (σ ++ [.lst []])) := fun A s ad c => by
  refine wpAny_Assign_Name (List_ (EvS.nil.use c.cx fun vs s1 k1 c1 r1 => ?_)) hs
  have hvs : vs = [] := by (first | obtain rfl := r1.toV | obtain ⟨t, rfl⟩ := r1.toS | obtain ⟨t, rfl⟩ := r1.toI | obtain rfl := r1.toB | cases r1); rfl
  subst hvs
  have c1 := c.keeps k1
  refine wpAny_newList ?_ (sz (by simp))
  have hk : Keeps s1 { s1 with heap := s1.heap.push { cls := .type "list", data := .seq ([] : List Value).toArray } } := kPush _ _
  have own' := Own.snoc (a := s1.heap.objs.size) (ob := .lst []) (s' := { s1 with heap := s1.heap.push { cls := .type "list", data := .seq ([] : List Value).toArray } }) c1.cx.st.own (.of (.of hk)) c1.cx.inv.tab c1.cx.inv.bs (fun b hm o e => Heap.get?_push_of_some _ e) (fresh_none s1) (c1.cx.inv.newer (Nat.le_refl _))
    (.lst (Heap.get?_push_size _ rfl) rfl rfl rfl .nil)
  have pre : Grew ad (ad ++ [s1.heap.objs.size]) s1 := ⟨_, rfl, by simpa using fresh_none s1⟩
  have c2 := c1.weak (.of (.of hk)) pre own'
  refine store_ok c2 (.own (k := σ.length) (by rw [← c1.cx.st.own.len]; simp)) hx fun s3 k3 c3 => ⟨_, ?_, ?_, rfl, c3⟩
  · exact KeepsW.ofF (kfTrans (kfOf (kTrans k1 hk)) k3)
  · obtain ⟨n1, e, h⟩ := pre
    exact ⟨n1, e, fun a ha => k1.heap.fresh c.cx.inv.tab (h a ha)⟩
-- one owned object has turned
theorem Own.set {k : Nat} {a : Addr} {ob : Ob} (o : Own hb σ ad s.heap) (kk : KeepsW hb ad s s') (t : TabOk s.heap) (same : ∀ b ∈ ad, b ≠ a → ∀ o, s.heap.get? b = some o → s'.heap.get? b = some o) (ha : ad[k]? = some a) (r : RdOb s'.heap ad a ob) : Own hb (σ.set k ob) ad s'.heap := by
  have car : Car s.heap s'.heap ad ad (tb :: (ad ++ [])) := KeepsW.car (X := []) (by rw [List.append_nil]; exact kk) t (fun b hm => by simp at hm) ⟨[], by simp, by simp⟩
  refine ⟨by simp [o.len], o.nd, o.new, fun i b ob' e1 e2 => ?_⟩
  have hl : k < σ.length := by rw [← o.len]; exact (List.getElem?_eq_some_iff.mp ha).1
  by_cases hik : i = k
  · subst hik
    (first | exact nS ha e1 | exact nS e1 ha | exact nD ha e1 | exact nD e1 ha | cases sE ha e1 | (rw [ha] at e1; cases e1))
    rw [List.getElem?_set_self hl] at e2; cases e2
    exact r
  · rw [List.getElem?_set_ne (Ne.symm hik)] at e2
    have hne : b ≠ a := fun q => by
      subst q
      have h1 := (List.getElem?_eq_some_iff.mp e1)
      have h2 := (List.getElem?_eq_some_iff.mp ha)
      exact hik ((List.getElem_inj o.nd).mp (h1.2.trans h2.2.symm))
    exact (o.at' i b ob' e1 e2).car car fun o' e' => ⟨o', same b (List.mem_of_getElem? e1) hne o' e', .refl _⟩
end
end Mine
end

section
open PySem PySem.W PySem.Calls PyProof.Rows
set_option Elab.async false
set_option tactic.hygienic false
set_option linter.unusedVariables false
namespace Mine
section
variable {w : World} {hb : Heap} {n : Nat} {A : Around} {env : Env} {ls ls' : List (Str × D)} {σ σ' : List Ob} {ad ad' : List Addr} {s s' s'' : Shared} {E : Value → Shared → Prop} {X Y : List Addr}
-- an owned list is updated in place
set_option tactic.hygienic true in
theorem own_upd {k : Nat} {a : Addr} {xs xs' : List D} {f : Array Value → Array Value} (i : Inv w hb s) (o : Own hb σ ad s.heap) (ha : ad[k]? = some a) (hσ : σ[k]? = some (.lst xs))
    (hf : ∀ vs : Array Value, RdAll s.heap ad vs.toList xs → RdAll s.heap ad (f vs).toList xs') :
    KeepsW hb ad s { s with heap := s.heap.update a (Obj.mapSeq f) } ∧ Own hb (σ.set k (.lst xs')) ad (s.heap.update a (Obj.mapSeq f)) := by
  have hm := List.mem_of_getElem? ha
  cases o.at' k a _ ha hσ with
  | lst h1 h2 h3 h4 h5 =>
    rename_i ob vs m
    have other : ∀ b o, b ≠ a → s.heap.get? b = some o → (s.heap.update a (Obj.mapSeq f)).get? b = some o := fun b o hb' e => (Heap.get?_update_other _ _ (Ne.symm hb')).trans e
    have kx : KeepsX ad s { s with heap := s.heap.update a (Obj.mapSeq f) } := ⟨fun b o hb' e _ => other b o (fun q => hb' (q ▸ hm)) e, tabKeeps fun b o' q e => other b o' (fun q' => by
      have hn := o.new a hm
      rcases q with rfl | rfl
      · rw [← q', i.bs.tbl] at hn; cases hn
      · rw [← q', i.bs.k 173 _ rfl] at hn; cases hn) e, id, rfl⟩
    have kw : KeepsW hb ad s { s with heap := s.heap.update a (Obj.mapSeq f) } := .of kx
    refine ⟨kw, o.set (s' := { s with heap := s.heap.update a (Obj.mapSeq f) }) kw i.tab (fun b _ hne o e => other b o hne e) ha ?_⟩
    obtain ⟨m', hd'⟩ := Obj.data_mapSeq h4 f
    have car : Car s.heap (s.heap.update a (Obj.mapSeq f)) ad ad [a] := ⟨fun b o hb' e => ⟨o, other b o (by simpa using hb') e, .refl o⟩, fun b hb' => .inl (by replace hb' := (List.mem_singleton.mp hb').symm; subst hb'; exact hm), fun _ _ e => e, fun _ e => .inl e⟩
    have hg := Heap.get?_update_self (Obj.mapSeq f) h1 (by generalize Obj.mapSeq f ob = o2 at hd'; obtain ⟨c1, d1, dt, sl⟩ := o2; simp only at hd'; subst hd'; rfl)
    exact .lst hg (by rw [← h2]; unfold Obj.mapSeq; split <;> rfl) (by rw [← h3]; unfold Obj.mapSeq; split <;> rfl) hd' ((hf vs h5).car car)
end
end Mine
end

section
open PySem PySem.W PySem.Calls PyProof.Rows
set_option Elab.async false
set_option tactic.hygienic false
set_option linter.unusedVariables false
set_option maxRecDepth 100000
namespace Mine
-- e gives d; the owned objects become σ'
noncomputable def EvW (w : World) (hb : Heap) (n : Nat) (env : Env) (ls : List (Str × D)) (σ : List Ob) (e : PySem.Expr) (d : D) (σ' : List Ob) : Prop :=
  ∀ (A : Around) (s : Shared) (ad : List Addr), Cs w hb n A env ls σ ad s →
    wpAny (model pg w) A (eval e env) (fun v s' => ∃ ad', KeepsW hb ad s s' ∧ Grew ad ad' s ∧ Own hb σ' ad' s'.heap ∧ Rd s'.heap ad' v d) (fun _ _ => False) s
noncomputable def EvSW (w : World) (hb : Heap) (n : Nat) (env : Env) (ls : List (Str × D)) (σ : List Ob) (es : List PySem.Expr) (ds : List D) (σ' : List Ob) : Prop :=
  ∀ (A : Around) (s : Shared) (ad : List Addr) (pos : Pos), Cs w hb n A env ls σ ad s →
    wpAny (model pg w) A (spliced (backTo pos (starEach es env))) (fun vs s' => ∃ ad', KeepsW hb ad s s' ∧ Grew ad ad' s ∧ Own hb σ' ad' s'.heap ∧ RdAll s'.heap ad' vs ds) (fun _ _ => False) s
noncomputable def EvAW (w : World) (hb : Heap) (n : Nat) (env : Env) (ls : List (Str × D)) (σ : List Ob) (es : List PySem.Expr) (ds : List D) (σ' : List Ob) : Prop :=
  ∀ (A : Around) (s : Shared) (ad : List Addr) (pos : Pos) (f : Value), Cs w hb n A env ls σ ad s →
    wpAny (model pg w) A (evalArgs f true (backTo pos (starEach es env)) []) (fun a s' => ∃ vs ad', a = ⟨vs, []⟩ ∧ KeepsW hb ad s s' ∧ Grew ad ad' s ∧ Own hb σ' ad' s'.heap ∧ RdAll s'.heap ad' vs ds) (fun _ _ => False) s
section
variable {w : World} {hb : Heap} {n : Nat} {A : Around} {env : Env} {ls ls' : List (Str × D)} {σ σ' σ'' : List Ob} {ad ad' ad'' : List Addr} {s s' s'' : Shared} {E : Value → Shared → Prop} {X Y : List Addr}

theorem KeepsW.nil (k : KeepsW hb ad s s') : KeepsW hb (ad ++ []) s s' := by rw [List.append_nil]; exact k
theorem KeepsW.unnil (k : KeepsW hb (ad ++ []) s s') : KeepsW hb ad s s' := by rw [List.append_nil] at k; exact k
theorem KeepsW.trans0 (k : KeepsW hb ad s s') (g : Grew ad ad' s) (k' : KeepsW hb ad' s' s'') : KeepsW hb ad s s'' := (k.nil.transG g k'.nil).unnil
theorem KeepsW.pure (k : Keeps s s') : KeepsW hb X s s' := .of (.of k)
theorem Own.lives {h : Heap} (o : Own hb σ ad h) : ∀ b ∈ ad, ∃ o, h.get? b = some o := fun b hm => let ⟨o, _, _, e, _⟩ := o.seqs hm; ⟨o, e⟩
theorem Grew.subs (g : Grew ad ad' s) : ∀ b ∈ ad, b ∈ ad' := fun b hm => by
  obtain ⟨n1, rfl, _⟩ := g
  exact List.mem_append_left _ hm
theorem Grew.trans0 (g : Grew ad ad' s) (k : KeepsW hb ad s s') (g' : Grew ad' ad'' s') (o : Own hb σ' ad' s'.heap) (t : TabOk s.heap) : Grew ad ad'' s :=
  g.trans g' k (fun b hm _ => o.lives b (g.subs b hm)) t
theorem Grew.before (k : Keeps s s') (t : TabOk s.heap) (g : Grew ad ad' s') : Grew ad ad' s := by
  obtain ⟨n1, e, h⟩ := g
  exact ⟨n1, e, fun a ha => k.heap.fresh t (h a ha)⟩
theorem KeepsW.carG (k : KeepsW hb ad s s') (g : Grew ad ad' s) (t : TabOk s.heap) : Car s.heap s'.heap ad ad' (tb :: (ad ++ [])) := KeepsW.car k.nil t (fun b hm => by simp at hm) g

theorem EvW.use {e : PySem.Expr} {d : D} {Q : Value → Shared → Prop} (he : EvW w hb n env ls σ e d σ') (c : Cs w hb n A env ls σ ad s)
    (h : ∀ v s' ad', KeepsW hb ad s s' → Grew ad ad' s → Cs w hb n A env ls σ' ad' s' → Rd s'.heap ad' v d → Q v s') : wpAny (model pg w) A (eval e env) Q E s :=
  wpAny_mono (he A s ad c) (fun v s' q => let ⟨ad', k, g, o, r⟩ := q; h v s' ad' k g (c.weak k g o) r) fun _ _ f => f.elim
theorem EvSW.use {es : List PySem.Expr} {ds : List D} {pos : Pos} {Q : List Value → Shared → Prop} (he : EvSW w hb n env ls σ es ds σ') (c : Cs w hb n A env ls σ ad s)
    (h : ∀ vs s' ad', KeepsW hb ad s s' → Grew ad ad' s → Cs w hb n A env ls σ' ad' s' → RdAll s'.heap ad' vs ds → Q vs s') : wpAny (model pg w) A (spliced (backTo pos (starEach es env))) Q E s :=
  wpAny_mono (he A s ad pos c) (fun v s' q => let ⟨ad', k, g, o, r⟩ := q; h v s' ad' k g (c.weak k g o) r) fun _ _ f => f.elim
theorem Ev.toW {e : PySem.Expr} {d : D} (h : Ev w hb n env ls σ e d) : EvW w hb n env ls σ e d σ := fun A s ad c =>
  wpAny_mono (h A s ad c.cx) (fun v s' q => ⟨ad, .pure q.1, .refl, c.cx.st.own.keeps q.1.heap, q.2⟩) fun _ _ f => f
theorem EvA.toW {es : List PySem.Expr} {ds : List D} (h : EvA w hb n env ls σ es ds) : EvAW w hb n env ls σ es ds σ := fun A s ad pos f c =>
  wpAny_mono (h A s ad pos f c.cx) (fun v s' q => let ⟨vs, e, k, r⟩ := q; ⟨vs, ad, e, .pure k, .refl, c.cx.st.own.keeps k.heap, r⟩) fun _ _ f => f
theorem EvSW.nil : EvSW w hb n env ls σ [] [] σ := fun A s ad pos c => spliced_nil ⟨ad, .refl _ _, .refl, c.cx.st.own, .nil⟩
theorem EvSW.cons {e : PySem.Expr} {es : List PySem.Expr} {d : D} {ds : List D} (h1 : EvW w hb n env ls σ e d σ') (h2 : EvSW w hb n env ls σ' es ds σ'')
    (he : autoParam (starEach (e :: es) env = (false, eval e env) :: starEach es env) Mine.auR) : EvSW w hb n env ls σ (e :: es) (d :: ds) σ'' := fun A s ad pos c => by
  refine spliced_more (h1.use c fun v s1 ad1 k1 g1 c1 r1 => h2.use c1 fun vs s2 ad2 k2 g2 c2 r2 => ?_) he
  exact ⟨ad2, k1.trans0 g1 k2, g1.trans0 k1 g2 c1.cx.st.own c.cx.inv.tab, c2.cx.st.own, .cons (r1.car (k2.carG g2 c1.cx.inv.tab)) r2⟩
theorem EvAW.plain {e : PySem.Expr} {es : List PySem.Expr} {ds : List D} (h : EvSW w hb n env ls σ (e :: es) ds σ')
    (he : autoParam (starEach (e :: es) env = (false, eval e env) :: starEach es env) Mine.auR) : EvAW w hb n env ls σ (e :: es) ds σ' := fun A s ad pos f c => by
  have := h A s ad pos c
  rw [he] at this ⊢
  exact evalArgs_plain (wpAny_mono this (fun vs s' q => let ⟨ad', k, g, o, r⟩ := q; ⟨vs, ad', rfl, k, g, o, r⟩) fun _ _ f => f)
theorem FsW.use {f : Value} {args : List D} {d : D} {vals : List Value} {Q : Value → Shared → Prop} (hf : FsW w hb n f args σ d σ') (c : Cs w hb n A env ls σ ad s) (r : RdAll s.heap ad vals args)
    (h : ∀ v s' ad', KeepsW hb ad s s' → Grew ad ad' s → Cs w hb n A env ls σ' ad' s' → Rd s'.heap ad' v d → Q v s') : wpAny (model pg w) A (call f vals) Q E s :=
  wpAny_mono (hf A s ad vals c.cx.rm c.cx.inv c.cx.st.own r) (fun v s' q => let ⟨ad', k, g, o, r⟩ := q; h v s' ad' k g (c.weak k g o) r) fun _ _ f => f.elim
theorem callWith_anyW {f : Value} {first : List Value} {pos : Pos} {es : List PySem.Expr} {ds : List D} {Q : Value → Shared → Prop} (hk : Kpr w f) (ha : EvAW w hb n env ls σ es ds σ') (c : Cs w hb n A env ls σ ad s)
    (h : ∀ vs s' ad', KeepsW hb ad s s' → Grew ad ad' s → Cs w hb n A env ls σ' ad' s' → RdAll s'.heap ad' vs ds → wpAny (model pg w) A (call f (first ++ vs)) Q E s') :
    wpAny (model pg w) A (callWith pos f first (backTo pos (starEach es env)) []) Q E s := by
  have z : wpAny (model pg w) A (evalArgs f true (backTo pos (starEach es env)) []) (fun a s₁ => (Kf w).In s₁.heap ∧ wpAny (model pg w) A (call f (first ++ a.pos) a.kw) Q E s₁) E s := by
    refine wpAny_mono (ha A s ad pos f c) (fun a s' q => ?_) fun _ _ f => f.elim
    obtain ⟨vs, ad', rfl, k, g, o, r⟩ := q
    have c' := c.weak k g o
    exact ⟨c'.cx.kin, h vs s' ad' k g c' r⟩
  cases hs : (backTo pos (starEach es env)).any (·.1) with
  | false => exact callWith_of (P := (Kf w).In) (by rw [hs]; rfl) hk z
  | true => exact ks_call (P := (Kf w).In) hs hk z
theorem EvW.call {x : Str} {np pos : Pos} {es : List PySem.Expr} {f : Value} {ds : List D} {d : D} (hn : Ev w hb n env ls σ (.Name x np) (.val f)) (hk : Kpr w f) (ha : EvAW w hb n env ls σ es ds σ') (hf : FsW w hb n f ds σ' d σ'') :
    EvW w hb n env ls σ (.Call (.Name x np) es [] pos) d σ'' := fun A s ad c => by
  refine wpAny_Call_NameR (hn.useS c fun v s1 k1 c1 r1 => ?_)
  (first | obtain rfl := r1.toV | obtain ⟨t, rfl⟩ := r1.toS | obtain ⟨t, rfl⟩ := r1.toI | obtain rfl := r1.toB | cases r1)
  refine callWith_anyW hk ha c1 fun vs s2 ad2 k2 g2 c2 r2 => ?_
  rw [List.nil_append]
  refine hf.use c2 r2 fun v s3 ad3 k3 g3 c3 r3 => ⟨ad3, (KeepsW.pure k1).trans0 .refl (k2.trans0 g2 k3), .before k1 c.cx.inv.tab (g2.trans0 k2 g3 c2.cx.st.own c1.cx.inv.tab), c3.cx.st.own, r3⟩
theorem EvW.meth {o : PySem.Expr} {name : Str} {apos pos : Pos} {es : List PySem.Expr} {T id : String} {d0 d : D} {ds : List D} (h0 : Ev w hb n env ls σ o d0) (ha : EvAW w hb n env ls σ es ds σ')
    (hf : FsW w hb n (.builtin id) (d0 :: ds) σ' d σ'') (pa : PlainAttrs T) (slot : Slot T name id) (hty : typeOf (.builtin id) = pure (.type "method_descriptor")) (ht : TyD σ d0 T)
    (hbase : autoParam (attributeBase o name env (eval o env) = eval o env) Mine.auR)
    (hfew : autoParam (((backTo pos (starEach es env)).all (fun x => !x.1) && (backToKw pos (keywordEach [] env)).all (fun x => x.1.isSome)
      && decide (es.length + ([] : List Keyword).length + (if ([] : List Keyword).isEmpty then 0 else 1) < 30)) = true) Mine.auR)
    (hline : autoParam ((apos.endLine == pos.line) = true) Mine.auR) : EvW w hb n env ls σ (.Call (.Attribute o name apos) es [] pos) d σ'' := fun A s ad c => by
  refine wpAny_Call_method hbase hfew hline pa slot hty (h0.useS c fun v s1 k1 c1 r1 => ?_)
  obtain ⟨q1, q2⟩ := ht.ok r1 c1.cx.st.own
  refine ⟨q1, q2, callWith_anyW Kpr.blt ha c1 fun vs s2 ad2 k2 g2 c2 r2 => ?_⟩
  refine hf.use c2 (.cons (r1.car (k2.carG g2 c1.cx.inv.tab)) r2) fun v s3 ad3 k3 g3 c3 r3 => ⟨ad3, (KeepsW.pure k1).trans0 .refl (k2.trans0 g2 k3), .before k1 c.cx.inv.tab (g2.trans0 k2 g3 c2.cx.st.own c1.cx.inv.tab), c3.cx.st.own, r3⟩

/-! statements -/
theorem KeepsW.addF (k : KeepsW hb ad s s') : KeepsW hb (ad ++ fx env) s s' := k.mono fun b hm => List.mem_append_left _ hm
theorem KeepsW.thenF (k : KeepsW hb ad s s') (g : Grew ad ad' s) (k' : KeepsF env s' s'') : KeepsW hb (ad ++ fx env) s s'' := k.addF.transG g (.ofF k')
theorem ExW.assign {x : Str} {p pos : Pos} {e : PySem.Expr} {d : D} (he : EvW w hb n env ls σ e d σ') (hx : Stor env x)
    (hs : autoParam (swapsWith e (some (.Name x p)) pos.line env = pure false) Mine.auR) : ExW w hb n env ls σ (.Assign [.Name x p] e pos) (.next ((x, d) :: ls) σ') := fun A s ad c => by
  refine wpAny_Assign_Name (he.use c fun v s1 ad1 k1 g1 c1 r1 => ?_) hs
  exact store_ok c1 r1 hx fun s2 k2 c2 => ⟨ad1, k1.thenF g1 k2, g1, rfl, c2⟩
theorem ExW.expr {e : PySem.Expr} {pos : Pos} {d : D} (he : EvW w hb n env ls σ e d σ') (hi : autoParam (interactive env = false) Mine.auR) (hs : autoParam (swapsWith e none pos.line env = pure false) Mine.auR) :
    ExW w hb n env ls σ (.Expr e pos) (.next ls σ') := fun A s ad c =>
  wpAny_Expr_any (he.use c fun v s1 ad1 k1 g1 c1 r1 => ⟨ad1, k1.addF, g1, rfl, c1⟩) hi hs
theorem ExW.ret {e : PySem.Expr} {pos : Pos} {d : D} (he : EvW w hb n env ls σ e d σ') : ExW w hb n env ls σ (.Return (some e) pos) (.ret d σ') := fun A s ad c =>
  wpAny_Return_some (he.use c fun v s1 ad1 k1 g1 c1 r1 => ⟨ad1, k1.addF, g1, v, rfl, r1, c1.cx.st.own⟩)
theorem ExW.iff {test : PySem.Expr} {body orelse : List Stmt} {pos : Pos} {b : Bool} {o : OutW} (ht : Tr w hb n env ls σ test b) (h : ExsW w hb n env ls σ (if b then body else orelse) o) :
    ExW w hb n env ls σ (.If test body orelse pos) o := fun A s ad c => by
  refine wpAny_If (ht.use c.cx fun s1 k1 _ => ?_)
  have z := wpAny_mono (h A s1 ad (c.keeps k1)) (fun f s2 q => (let ⟨ad2, k2, g2, ok⟩ := q; ⟨ad2, (KeepsW.pure k1).transG .refl k2, .before k1 c.cx.inv.tab g2, ok⟩ : ∃ ad', KeepsW hb (ad ++ fx env) s s2 ∧ Grew ad ad' s ∧ OkW w hb n A env ad' f s2 o)) fun _ _ f => f
  cases b <;> exact z
theorem Ex.toWr {st : Stmt} {d : D} (h : Ex w hb n env ls σ st (.ret d)) : ExW w hb n env ls σ st (.ret d σ) := fun A s ad c =>
  wpAny_mono (h A s ad c) (fun f s1 q => let ⟨k, v, e, r⟩ := q; ⟨ad, .ofF k, .refl, v, e, r, c.own' k⟩) fun _ _ f => f
theorem ExsW.weaken {sts : List Stmt} (h : ExsW w hb n env ls σ sts (.next ls' σ')) {l : List (Str × D)} (hs : ∀ y d, l.lookup y = some d → ls'.lookup y = some d) : ExsW w hb n env ls σ sts (.next l σ') := fun A s ad c =>
  wpAny_mono (h A s ad c) (fun f s1 q => let ⟨ad', k, g, e, c'⟩ := q; ⟨ad', k, g, e, c'.sub hs⟩) fun _ _ f => f
-- x, y = e, stored from the left
end
end Mine
end

section
open PySem PySem.W PySem.Calls PyProof.Rows
set_option Elab.async false
set_option tactic.hygienic false
set_option linter.unusedVariables false
set_option maxRecDepth 100000
namespace Mine
section
variable {w : World} {hb : Heap} {n : Nat} {A : Around} {env : Env} {ls ls' : List (Str × D)} {σ σ' σ'' : List Ob} {ad ad' ad'' : List Addr} {s s' s'' : Shared} {E : Value → Shared → Prop} {X Y : List Addr}
theorem KeepsW.carX (k : KeepsW hb (ad ++ X) s s') (t : TabOk s.heap) (hX : ∀ b ∈ X, (∀ o, s.heap.get? b = some o → ∀ vs n, o.data ≠ .seq vs n) ∧ ∀ t, ¬ s.heap.Ns b (accNs t)) (g : Grew ad ad' s) : Car s.heap s'.heap ad ad' (tb :: (ad ++ X)) := by
  obtain ⟨new, rfl, hnew⟩ := g
  refine ⟨fun b o hb' e => ?_, fun b hm => ?_, fun i a e => ?_, fun b hm => ?_⟩
  · obtain ⟨o', e', m, _⟩ := k.get b o (fun q => hb' (List.mem_cons_of_mem _ q)) e fun q => absurd q fun q => hb' (by rw [q]; exact List.mem_cons_self)
    exact ⟨o', e', m⟩
  · rcases memc hm with rfl | hm
    · exact .inr t.nd
    · rcases List.mem_append.mp hm with hm | hm
      · exact .inl hm
      · exact .inr (hX b hm)
  · rw [List.getElem?_append_left (List.getElem?_eq_some_iff.mp e).1]; exact e
  · rcases List.mem_append.mp hm with q | q
    · exact .inl q
    · exact .inr (hnew b q)
theorem KeepsW.dropNew (k1 : Keeps s s') (k : KeepsW hb Y s' s'') (h : ∀ b ∈ Y, b ∈ X ∨ s.heap.get? b = none) : KeepsW hb X s s'' := by
  refine ⟨fun b o hb' e q => ?_, fun t => k.tab (k1.heap.tab t), fun t => k.bare (k1.bare t), k.os.trans k1.os⟩
  exact k.get b o (fun hm => by
    rcases h b hm with z | z
    · exact hb' z
    · (first | exact nS z e | exact nS e z | exact nD z e | exact nD e z | cases sE z e | (rw [z] at e; cases e))) (k1.heap.get b o e q) q
theorem Cs.fxnd (c : Cs w hb n A env ls σ ad s) : ∀ b ∈ fx env, (∀ o, s.heap.get? b = some o → ∀ vs n, o.data ≠ .seq vs n) ∧ ∀ t, ¬ s.heap.Ns b (accNs t) := fun b hm => by
  obtain ⟨_, _, o', e', c', c'', _⟩ := c.fxcls hm
  exact ⟨fun o e => by (first | exact nS e e' | exact nS e' e | exact nD e e' | exact nD e' e | cases sE e e' | (rw [e] at e'; cases e')); exact c', c''⟩
-- a for over xs whose every turn goes on, the owned objects turning
theorem ExW.forN {x : Str} {px pos : Pos} {iter : PySem.Expr} {body : List Stmt} {xs : List D} (inv : Nat → List (Str × D)) (τ : Nat → List Ob) (hsi : SiP w hb n env ls σ iter xs) (hx : Stor env x) (hτ : τ 0 = σ)
    (h0 : ∀ y e, (inv 0).lookup y = some e → ls.lookup y = some e)
    (step : ∀ i e, xs[i]? = some e → ∃ l, ExsW w hb n env ((x, e) :: inv i) (τ i) body (.next l (τ (i + 1))) ∧ ∀ y e', (inv (i + 1)).lookup y = some e' → l.lookup y = some e')
    (hs : autoParam (∀ x, foldedSetIterable iter env x = pure x) Mine.auI) :
    ExW w hb n env ls σ (.For (.Name x px) iter body [] pos) (.next (inv xs.length) (τ xs.length)) := fun A s ad c => by
  refine wpAny_For (hsi A s ad c.cx _ _ fun I fp P S s2 k2 hnew W hfpad => ?_) hs
  have c2 := c.keeps k2
  have hfp : ∀ b ∈ fp, b ∉ fx env := fun b hb' hm => by
    obtain ⟨_, _, ob, e1, e2, _, e3⟩ := c2.fxcls hm
    obtain ⟨_, o, e, q | q⟩ := W.seqs b hb'
    · (first | exact nS e1 e | exact nS e e1 | exact nD e1 e | exact nD e e1 | cases sE e1 e | (rw [e1] at e; cases e))
      obtain ⟨vs, m, q⟩ := q
      exact e2 vs m q
    · (first | exact nS e1 e | exact nS e e1 | exact nD e1 e | exact nD e e1 | cases sE e1 e | (rw [e1] at e; cases e))
      obtain ⟨vs, q⟩ := q
      exact e3 vs q
  have fpnt : ∀ b ∈ fp, b ≠ tb := fun b hb' => (W.seqs b hb').1
  have fpad : ∀ ad', Grew ad ad' s2 → ∀ b ∈ fp, b ∉ ad' := fun ad' g b hb' hm => by
    obtain ⟨nw, rfl, hn⟩ := g
    rcases List.mem_append.mp hm with q | q
    · exact hfpad b hb' q
    · obtain ⟨_, o, e, _⟩ := W.seqs b hb'
      (first | exact nS (hn b q) e | exact nS e (hn b q) | exact nD (hn b q) e | exact nD e (hn b q) | cases sE (hn b q) e | (rw [hn b q] at e; cases e))
  have hXnd : ∀ b ∈ I :: fx env, (∀ o, s2.heap.get? b = some o → ∀ vs n, o.data ≠ .seq vs n) ∧ ∀ t, ¬ s2.heap.Ns b (accNs t) := fun b hm => by
    rcases memc hm with rfl | hm
    · obtain ⟨o0, vs0, e0, d0⟩ := W.obj 0 _ W.st
      exact nd_fields e0 d0
    · exact c2.fxnd b hm
  refine hideR fun R' hR => hideI (I := fun k s' => ∃ i ad', i ≤ xs.length ∧ k = xs.length - i ∧ S i s'.heap ∧ Cs w hb n A env (inv i) (τ i) ad' s' ∧ KeepsW hb (ad ++ (I :: fx env)) s2 s' ∧ Grew ad ad' s2) fun J hJ => ?_
  refine codeAny_forLoop_any J ?_ (xs.length - 0) ((hJ _ _).mpr ⟨0, ad, Nat.zero_le _, rfl, W.st, by rw [hτ]; exact c2.sub h0, .refl _ _, .refl⟩)
  intro k s3 hk
  obtain ⟨i, ad3, hil, rfl, hS, c3, keep3, g3⟩ := (hJ _ _).mp hk
  obtain ⟨oI, vsI, eI, dI⟩ := W.obj i _ hS
  by_cases hlt : i < xs.length
  · refine W.W.item i _ _ _ hlt hS fun v h4 tk4 hP hS4 keep4 => ?_
    have kI : KeepsX [I] s3 { s3 with heap := h4, toks := tk4 } := keepsI c.cx.inv.bs W.new keep4
    have c4 := c3.skip W.new eI dI kI
    have kI' : KeepsW hb (ad3 ++ (I :: fx env)) s3 { s3 with heap := h4, toks := tk4 } := .of (kI.mono fun b hm => by replace hm := (List.mem_singleton.mp hm).symm; subst hm; simp)
    have keep4' := keep3.transG g3 kI'
    obtain ⟨e, he, re⟩ := W.val' h4 ad3 _ (KeepsW.carX (s' := { s3 with heap := h4, toks := tk4 }) keep4' c2.cx.inv.tab hXnd g3) i v hP
    refine wpAny_pure ?_
    refine assign_Name (store_ok c4 re hx fun s5 k5 c5 => ?_)
    obtain ⟨l, hex, hsub⟩ := step i e he
    refine wpAny_mono (hex A s5 ad3 c5) (fun fl s6 q => ?_) fun _ _ f => f.elim
    obtain ⟨ad6, k6, g6, rfl, c6⟩ := q
    have k56 : KeepsW hb (ad3 ++ fx env) { s3 with heap := h4, toks := tk4 } s6 := (KeepsW.ofF k5).transG .refl k6
    have g46 : Grew ad3 ad6 { s3 with heap := h4, toks := tk4 } := Grew.refl.trans g6 (KeepsW.ofF (hb := hb) (ad := ad3) k5) (fun b hm _ => c5.lives b hm) c4.cx.inv.tab
    have keep6 := keep4'.transG g3 (k56.mono fun b hm => (List.mem_append.mp hm).elim (List.mem_append_left _) fun q => List.mem_append_right _ (List.mem_cons_of_mem _ q))
    have live4 : ∀ b ∈ ad ++ (I :: fx env), ∃ o, h4.get? b = some o := fun b hm => by
      rcases List.mem_append.mp hm with q | q
      · exact c4.cx.st.own.lives b (g3.subs b q)
      · rcases memc q with rfl | q
        · obtain ⟨o, _, e, _⟩ := W.obj (i + 1) _ hS4; exact ⟨o, e⟩
        · exact c4.lives b (List.mem_append_right _ q)
    refine ⟨xs.length - (i + 1), by lia, (hJ _ _).mpr ⟨i + 1, ad6, by lia, rfl, ?_, c6.sub hsub, keep6, g3.trans g46 keep4' (fun b hm _ => live4 b hm) c2.cx.inv.tab⟩⟩
    refine W.W.frame (i + 1) _ _ hS4 fun b hb' o e => ?_
    refine k56.exact (fun hm => ?_) e (fpnt b hb') ?_
    · rcases List.mem_append.mp hm with q | q
      · exact fpad ad3 g3 b hb' q
      · exact hfp b hb' q
    · by_cases hbI : I = b
      · subst hbI
        obtain ⟨o', vs', e', d'⟩ := W.obj (i + 1) _ hS4
        (first | exact nS e e' | exact nS e' e | exact nD e e' | exact nD e' e | cases sE e e' | (rw [e] at e'; cases e')); exact .inr ⟨vs', d'⟩
      · obtain ⟨_, o0, e0, q⟩ := W.seqs b hb'
        have : h4.get? b = some o0 := keep4'.exact (fun hm => by
          rcases List.mem_append.mp hm with q | q
          · exact hfpad b hb' q
          · rcases List.mem_cons.mp q with q | q
            · exact hbI q.symm
            · exact hfp b hb' q) e0 (fpnt b hb') q
        (first | exact nS e this | exact nS this e | exact nD e this | exact nD this e | cases sE e this | (rw [e] at this; cases this)); exact q
  · have hin : i = xs.length := by lia
    subst hin
    refine W.W.done _ _ _ hS fun h4 tk4 keep4 => ?_
    have kI : KeepsX [I] s3 { s3 with heap := h4, toks := tk4 } := keepsI c.cx.inv.bs W.new keep4
    have c4 := c3.skip W.new eI dI kI
    have kI' : KeepsW hb (ad3 ++ (I :: fx env)) s3 { s3 with heap := h4, toks := tk4 } := .of (kI.mono fun b hm => by replace hm := (List.mem_singleton.mp hm).symm; subst hm; simp)
    refine wpAny_execs_nil (hR _ _ ⟨ad3, KeepsW.dropNew k2 (keep3.transG g3 kI') fun b hm => ?_, .before k2 c.cx.inv.tab g3, rfl, c4⟩)
    rcases List.mem_append.mp hm with q | q
    · exact .inl (List.mem_append_left _ q)
    · rcases memc q with rfl | q
      · exact .inr hnew
      · exact .inl (List.mem_append_right _ q)
-- a while of m turns
theorem ExW.whileN {test : PySem.Expr} {body : List Stmt} {pos : Pos} (m : Nat) (inv : Nat → List (Str × D)) (τ : Nat → List Ob) (hτ : τ 0 = σ) (h0 : ∀ y e, (inv 0).lookup y = some e → ls.lookup y = some e)
    (ht : ∀ i, i < m → Tr w hb n env (inv i) (τ i) test true) (hf : Tr w hb n env (inv m) (τ m) test false)
    (step : ∀ i, i < m → ∃ l, ExsW w hb n env (inv i) (τ i) body (.next l (τ (i + 1))) ∧ ∀ y e', (inv (i + 1)).lookup y = some e' → l.lookup y = some e') :
    ExW w hb n env ls σ (.While test body [] pos) (.next (inv m) (τ m)) := fun A s ad c => by
  refine hideQ fun Q hQ => hideI (I := fun k s' => ∃ i ad', i ≤ m ∧ k = m - i ∧ Cs w hb n A env (inv i) (τ i) ad' s' ∧ KeepsW hb (ad ++ fx env) s s' ∧ Grew ad ad' s) fun J hJ => ?_
  refine wpAny_While (codeAny_whileLoop J ?_ (m - 0) ((hJ _ _).mpr ⟨0, ad, Nat.zero_le _, rfl, by rw [hτ]; exact c.sub h0, .refl _ _, .refl⟩))
  intro k s3 hk
  obtain ⟨i, ad3, hil, rfl, c3, keep3, g3⟩ := (hJ _ _).mp hk
  by_cases hlt : i < m
  · refine (ht i hlt).use c3.cx fun s4 k4 _ => ?_
    have c4 := c3.keeps k4
    rw [if_pos rfl]
    obtain ⟨l, hex, hsub⟩ := step i hlt
    refine wpAny_mono (hex A s4 ad3 c4) (fun fl s6 q => ?_) fun _ _ f => f.elim
    obtain ⟨ad6, k6, g6, rfl, c6⟩ := q
    have k36 : KeepsW hb (ad3 ++ fx env) s3 s6 := (KeepsW.pure k4).transG .refl k6
    refine ⟨m - (i + 1), by lia, (hJ _ _).mpr ⟨i + 1, ad6, by lia, rfl, c6.sub hsub, keep3.transG g3 k36, g3.trans (.before k4 c3.cx.inv.tab g6) keep3 (fun b hm _ => c3.lives b (g3.sub b hm)) c.cx.inv.tab⟩⟩
  · have hin : i = m := by lia
    subst hin
    refine hf.use c3.cx fun s4 k4 _ => ?_
    rw [if_neg (by simp)]
    exact wpAny_execs_nil (hQ _ _ ⟨ad3, keep3.transG g3 (KeepsW.pure k4), g3, rfl, c3.keeps k4⟩)
end
end Mine
end

section
open PySem PySem.W PySem.Calls PyProof.Rows PySem.SeqAt PySem.MeetsSeq
set_option Elab.async false
set_option tactic.hygienic false
set_option linter.unusedVariables false
set_option maxRecDepth 100000
namespace Mine
noncomputable abbrev SeqObj (cls : Value) (dct : Option Addr) (sl : Array (Option Value)) (items : Array Value) (n : Nat) : Obj := { cls := cls, dict := dct, data := .seq items n, slots := sl }
theorem m_append (l : Addr) (items : Array Value) (n : Nat) (cls : Value) (dct : Option Addr) (sl : Array (Option Value)) (x : Value) (hsz : items.size ≤ sizeLine) :
    Meets (Builtin.«list.append» ⟨[.ref l, x], []⟩) (fun _ R s => s.heap.get? l = some (SeqObj cls dct sl items n) ∧ R (.ok (.ret Value.none)) { s with heap := s.heap.update l (Obj.mapSeq fun xs => xs.push x) }) :=
  .of_wp fun prog w A R s h => by
    obtain ⟨hp, g, d, tk, os⟩ := s; obtain ⟨hl, h⟩ := h
    have hz' : (items.push x).size ≤ sizeLine + 1 := by rw [Array.size_push]; lia
    wp_walk using (wpAny_updateSeq hl rfl (hz := hsz) (_hz' := hz')); exact ⟨_, rfl, h⟩
theorem m_pop (l : Addr) (items : Array Value) (n : Nat) (cls : Value) (dct : Option Addr) (sl : Array (Option Value)) (y : Value) (hy : items[items.size - 1]? = some y) (hs1 : items.size ≤ sizeLine) :
    Meets (Builtin.«list.pop» ⟨[.ref l], []⟩)
      (fun _ R s => s.heap.get? l = some (SeqObj cls dct sl items n) ∧ R (.ok (.ret y)) { s with heap := s.heap.update l (Obj.mapSeq fun xs => xs.eraseIdxIfInBounds (items.size - 1)) }) :=
  .of_wp fun prog w A R s h => by
    obtain ⟨hp, g, d, tk, os⟩ := s; obtain ⟨hl, h⟩ := h
    have hpos : 0 < items.size := by
      rcases Nat.eq_zero_or_pos items.size with h0 | h0
      · simp [h0] at hy
      · exact h0
    have hne : ¬ items.isEmpty = true := by
      intro he; have : items.size = 0 := by simpa using he
      lia
    have hk : seqIndex? (-1) items.size = some (items.size - 1) := by
      rw [PySem.seqIndex_neg (by lia) (by lia)]; congr 1; lia
    wp_walk using wpAny_loadPart' hl
    simp only [hk, hy, Option.bind_some, Option.map_some]
    have hz' : (items.eraseIdxIfInBounds (items.size - 1)).size ≤ sizeLine + 1 := Nat.le_trans (size_erased items _) (Nat.le_succ_of_le hs1)
    wp_walk using (wpAny_updateSeq hl rfl (hz := hs1) (_hz' := hz')), wpAny_loadPart' hl
    exact ⟨_, rfl, h⟩
theorem m_remove_loop (l : Addr) (items : Array Value) (n : Nat) (cls : Value) (dct : Option Addr) (sl : Array (Option Value)) (x : Value) (e : Value → Bool) (j : Nat) (hj : j < items.size) (hit : e items[j] = true) (k : Nat) (hs1 : items.size ≤ sizeLine) :
    ∀ i : Nat, j - i = k → i ≤ j → (∀ m (hm : m < items.size), i ≤ m → m < j → e items[m] = false) → Meets (Builtin.«list.remove.loop» ⟨[.ref l, x, rawInt i], []⟩)
      (fun A R s => s.heap.get? l = some (SeqObj cls dct sl items n) ∧ (∀ y, y ∈ items → EqAt A.in1 s y x (e y)) ∧ R (.ok (.ret .none)) { s with heap := s.heap.update l (Obj.mapSeq fun xs => xs.eraseIdxIfInBounds j) }) := by
  induction k with
  | zero =>
    intro i hk hij hno prog w A R s h
    obtain ⟨hp, g, d, tk, os⟩ := s; obtain ⟨hl, he, h⟩ := h
    have hij' : i = j := by lia
    subst hij'
    wp_walk using wpAny_loadPart' hl
    have hi : items[((i : Nat) : Int).toNat]? = some items[i] := by simp [hj]
    rw [hi]
    refine wpAny_bind (he _ (Array.getElem_mem hj) prog w _ _ ?_)
    rw [hit]
    have hz' : (items.eraseIdxIfInBounds i).size ≤ sizeLine + 1 := Nat.le_trans (size_erased items _) (Nat.le_succ_of_le hs1)
    wp_walk using (wpAny_updateSeq hl rfl (hz := hs1) (_hz' := hz')), wpAny_loadPart' hl
    simpa using h
  | succ k ih =>
    intro i hk hij hno prog w A R s h
    obtain ⟨hp, g, d, tk, os⟩ := s; obtain ⟨hl, he, h⟩ := h
    have hlt : i < items.size := by lia
    wp_walk using wpAny_loadPart' hl
    have hi : items[((i : Nat) : Int).toNat]? = some items[i] := by simp [hlt]
    have hc : ((i : Int) + 1) = ((i + 1 : Nat) : Int) := by push_cast; rfl
    rw [hi]
    refine wpAny_bind (he _ (Array.getElem_mem hlt) prog w _ _ ?_)
    rw [hno i hlt (Nat.le_refl _) (by lia)]
    wp_walk
    rw [hc]
    exact ⟨plainId_quiet plain_remove_loop _, codeAny_builtin entry_remove_loop (by
      rw [Around.under_plainId plain_remove_loop _]
      exact ih (i + 1) (by lia) (by lia) (fun m hm h1 h2 => hno m hm (by lia) h2) prog w A R _ ⟨hl, he, h⟩)⟩
theorem m_remove (l : Addr) (items : Array Value) (n : Nat) (cls : Value) (dct : Option Addr) (sl : Array (Option Value)) (x : Value) (e : Value → Bool) (j : Nat) (hj : j < items.size)
    (hit : e items[j] = true) (hno : ∀ m (hm : m < items.size), m < j → e items[m] = false) (hs1 : items.size ≤ sizeLine) :
    Meets (Builtin.«list.remove» ⟨[.ref l, x], []⟩)
      (fun A R s => s.heap.get? l = some (SeqObj cls dct sl items n) ∧ (∀ y, y ∈ items → EqAt A.in1 s y x (e y)) ∧ R (.ok (.ret .none)) { s with heap := s.heap.update l (Obj.mapSeq fun xs => xs.eraseIdxIfInBounds j) }) := by
  intro prog w A R s h
  obtain ⟨hp, g, d, tk, os⟩ := s; obtain ⟨hl, he, h⟩ := h
  wp_walk using wpAny_loadPart' hl
  exact ⟨plainId_quiet plain_remove_loop _, codeAny_builtin entry_remove_loop (by
    rw [Around.under_plainId plain_remove_loop _]
    exact m_remove_loop l items n cls dct sl x e j hj hit _ hs1 0 rfl (Nat.zero_le _) (fun m hm _ h2 => hno m hm h2) prog w A R _ ⟨hl, he, h⟩)⟩
theorem m_remove_loop_none (l : Addr) (items : Array Value) (n : Nat) (cls : Value) (dct : Option Addr) (sl : Array (Option Value)) (x : Value) (e : Value → Bool) (hno : ∀ m (hm : m < items.size), e items[m] = false) (k : Nat) :
    ∀ i : Nat, items.size - i = k → Meets (Builtin.«list.remove.loop» ⟨[.ref l, x, rawInt i], []⟩)
      (fun A R s => s.heap.get? l = some (SeqObj cls dct sl items n) ∧ (∀ y, y ∈ items → EqAt A.in1 s y x (e y)) ∧ raisesNew "ValueError" A R s) := by
  induction k with
  | zero =>
    intro i hk prog w A R s h
    obtain ⟨hp, g, d, tk, os⟩ := s; obtain ⟨hl, he, h⟩ := h
    wp_walk using wpAny_loadPart' hl
    have hi : items[((i : Nat) : Int).toNat]? = none := by simp; lia
    rw [hi]
    wp_walk
    exact_raiseError plainExc_ValueError h.1 h.2
  | succ k ih =>
    intro i hk prog w A R s h
    obtain ⟨hp, g, d, tk, os⟩ := s; obtain ⟨hl, he, h⟩ := h
    have hlt : i < items.size := by lia
    wp_walk using wpAny_loadPart' hl
    have hi : items[((i : Nat) : Int).toNat]? = some items[i] := by simp [hlt]
    have hc : ((i : Int) + 1) = ((i + 1 : Nat) : Int) := by push_cast; rfl
    rw [hi]
    refine wpAny_bind (he _ (Array.getElem_mem hlt) prog w _ _ ?_)
    rw [hno i hlt]
    wp_walk
    rw [hc]
    exact ⟨plainId_quiet plain_remove_loop _, codeAny_builtin entry_remove_loop (by
      rw [Around.under_plainId plain_remove_loop _]
      exact ih (i + 1) (by lia) prog w A R _ ⟨hl, he, h⟩)⟩
theorem m_remove_none (l : Addr) (items : Array Value) (n : Nat) (cls : Value) (dct : Option Addr) (sl : Array (Option Value)) (x : Value) (e : Value → Bool) (hno : ∀ m (hm : m < items.size), e items[m] = false) :
    Meets (Builtin.«list.remove» ⟨[.ref l, x], []⟩)
      (fun A R s => s.heap.get? l = some (SeqObj cls dct sl items n) ∧ (∀ y, y ∈ items → EqAt A.in1 s y x (e y)) ∧ raisesNew "ValueError" A R s) := by
  intro prog w A R s h
  obtain ⟨hp, g, d, tk, os⟩ := s; obtain ⟨hl, he, h⟩ := h
  wp_walk using wpAny_loadPart' hl
  exact ⟨plainId_quiet plain_remove_loop _, codeAny_builtin entry_remove_loop (by
    rw [Around.under_plainId plain_remove_loop _]
    exact m_remove_loop_none l items n cls dct sl x e hno _ 0 rfl prog w A R _ ⟨hl, he, h⟩)⟩
section
variable {w : World} {hb : Heap} {n : Nat} {A : Around} {env : Env} {ls ls' : List (Str × D)} {σ σ' σ'' : List Ob} {ad ad' ad'' : List Addr} {s s' s'' : Shared} {E : Value → Shared → Prop} {X Y : List Addr}
theorem Rd.own' {h : Heap} {v : Value} {k : Nat} (r : Rd h ad v (.own k)) : ∃ a, v = .ref a ∧ ad[k]? = some a := by
  cases r with | own h => exact ⟨_, rfl, h⟩
set_option tactic.hygienic true in
theorem FsW.append {k : Nat} {xs : List D} {d : D} (hσ : σ[k]? = some (.lst xs)) (hs : xs.length ≤ 1000000) : FsW w hb n (.builtin "list.append") [.own k, d] σ .none (σ.set k (.lst (xs ++ [d]))) := fun A s ad vals rm i o r => by
  obtain ⟨v, u, rfl, r1, r2⟩ := r.two
  obtain ⟨a, rfl, ha⟩ := r1.own'
  cases o.at' k a _ ha hσ with
  | lst h1 h2 h3 h4 h5 =>
    rename_i ob vs m
    have hl := h5.length
    rw [Array.length_toList] at hl
    obtain ⟨cls, dct, dt, sl⟩ := ob
    simp only at h2 h3 h4
    subst h2 h3 h4
    obtain ⟨kw, ow⟩ := own_upd (xs' := xs ++ [d]) (f := fun vs => vs.push u) i o ha hσ fun vs r => by rw [Array.toList_push]; exact r.append (.cons r2 .nil)
    exact call_meets F.slot_list_append ⟨_, h1, rfl⟩ F.entry_list_append (F.args_list_append_2 _ _) (m_append a vs m _ _ _ u (sz (by lia))) ⟨h1, ad, kw, .refl, ow, .none⟩
set_option tactic.hygienic true in
theorem FsW.pop {k : Nat} {xs : List D} {d : D} (hσ : σ[k]? = some (.lst (xs ++ [d]))) (hs : xs.length ≤ 1000000) : FsW w hb n (.builtin "list.pop") [.own k] σ d (σ.set k (.lst xs)) := fun A s ad vals rm i o r => by
  obtain ⟨v, rfl, r1⟩ := r.one
  obtain ⟨a, rfl, ha⟩ := r1.own'
  cases o.at' k a _ ha hσ with
  | lst h1 h2 h3 h4 h5 =>
    rename_i ob vs m
    have hl := h5.length
    rw [Array.length_toList, List.length_append, List.length_singleton] at hl
    obtain ⟨cls, dct, dt, sl⟩ := ob
    simp only at h2 h3 h4
    subst h2 h3 h4
    obtain ⟨y, hy, ry⟩ := h5.get' (vs.size - 1) d (by rw [hl]; simp)
    have split : ∀ us : Array Value, RdAll s.heap ad us.toList (xs ++ [d]) → RdAll s.heap ad (us.eraseIdxIfInBounds (vs.size - 1)).toList xs := fun us r => by
      have hul := r.length
      rw [Array.length_toList, List.length_append, List.length_singleton] at hul
      have e : (us.eraseIdxIfInBounds (vs.size - 1)).toList = us.toList.take xs.length := by
        have hlt : vs.size - 1 < us.size := by lia
        rw [Array.eraseIdxIfInBounds, dif_pos hlt, Array.toList_eraseIdx, List.eraseIdx_eq_take_drop_succ]
        rw [List.drop_eq_nil_of_le (by rw [Array.length_toList]; lia), List.append_nil]
        congr 1; lia
      rw [e]
      refine RdAll.of_get (by have hz : us.toList.length = us.size := Array.length_toList; rw [List.length_take, hz]; lia) fun j v d' e1 e2 => ?_
      rw [List.getElem?_take] at e1
      split at e1
      · rename_i hj
        obtain ⟨d2, q1, q2⟩ := r.get j v e1
        rw [List.getElem?_append_left hj, e2] at q1; cases q1; exact q2
      · cases e1
    obtain ⟨kw, ow⟩ := own_upd (xs' := xs) (f := fun us => us.eraseIdxIfInBounds (vs.size - 1)) i o ha hσ split
    refine call_meets F.slot_list_pop ⟨_, h1, rfl⟩ F.entry_list_pop (F.args_list_pop_1 _) (m_pop a vs m _ _ _ y (by simpa using hy) (sz (by lia))) ⟨h1, ad, kw, .refl, ow, ?_⟩
    exact ry.car (kw.carG .refl i.tab)
end
end Mine
end

section
open PySem PySem.W PySem.Calls PyProof.Rows PySem.SeqAt
set_option Elab.async false
set_option tactic.hygienic false
set_option linter.unusedVariables false
set_option maxRecDepth 100000
namespace Mine
section
variable {w : World} {hb : Heap} {n : Nat} {A : Around} {env : Env} {ls ls' : List (Str × D)} {σ σ' σ'' τ : List Ob} {ad ad' ad'' : List Addr} {s s' s'' : Shared} {E : Value → Shared → Prop} {X Y : List Addr}
-- how a body ends
noncomputable def Ends (o : OutW) (d : D) (σ' : List Ob) : Prop := o = .ret d σ' ∨ (d = .none ∧ ∃ l, o = .next l σ')
theorem FsW.of_def {f : Addr} {fd : FuncData} {oc : Value} {od : Option Addr} {osl : Array (Option Value)} {body : List Stmt} {args : List D} {d : D} {o' : OutW} (names : List Str)
    (hk : (Kf w).lookup f = some ⟨oc, od, .func fd, osl⟩) (hbody : fd.body = .stmts body) (h : ∀ L, ExsW w hb n (callEnvC fd L f) (names.zip args) σ body o') (hE : Ends o' d σ')
    (hbind : ∀ vals : List Value, vals.length = names.length → bindArgs fd ⟨vals, []⟩ = pure (names.zip vals))
    (hlen : autoParam (names.length = args.length) Mine.auR) (hcd : autoParam (codeIn (Kf w) fd.code fd.qualname = true) Mine.auR)
    (hcl : autoParam (fd.closure = []) Mine.auR) (hg : autoParam (fd.globals = mainGlobals) Mine.auR) (hbu : autoParam (fd.builtins = builtinsNs) Mine.auR) (hkf : autoParam (fd.scope.kind = .function) Mine.auR)
    (hnd : autoParam (names.Nodup) Mine.auD) (hkin' : autoParam ((fd.scope.names.lookup ("_initial_size" : Str) == some .local) = false) Mine.auR)
    (hkind' : autoParam ((names.all fun y => fd.scope.names.lookup y == some .local || fd.scope.names.lookup y == some .cell) = true) Mine.auR)
    (hcells : autoParam (((cellsFrom 0 fd.scope.names []).map (·.1)).Nodup) Mine.auD) (hco : autoParam (fd.scope.isCoroutine = false) Mine.auR) (hgen : autoParam (fd.scope.isGenerator = false) Mine.auR) :
    FsW w hb (n + 1) (.ref f) args σ d σ' := fun A s ad vals rm i o r => by
  have hkin : fd.scope.names.lookup ("_initial_size" : Str) ≠ some .local := fun q => by (first | exact nS q hkin' | exact nS hkin' q | exact nD q hkin' | exact nD hkin' q | cases sE q hkin' | (rw [q] at hkin'; cases hkin'))
  have hkind : ∀ n, ∀ x ∈ names, fd.scope.names.lookup x = some .local ∨ (fd.scope.names.lookup x = some .cell ∧ ((cellsFrom n fd.scope.names []).lookup x).isSome = true) := fun n x hx => by
    rcases Bool.or_eq_true_iff.mp (List.all_eq_true.mp hkind' x hx) with q | q
    · exact .inl (by simpa using q)
    · exact .inr ⟨by simpa using q, cellsFrom_some _ _ _ (.inl (by simpa using q))⟩
  have hl : names.length = vals.length := by rw [hlen, r.length]
  have hmap : (names.zip vals).map (·.1) = names := by rw [List.map_fst_zip]; lia
  refine wpAny_call (codeAny_call_function (by have := rm.depth; show A.depth < 1000; lia) (i.kin _ _ hk) rfl hco hgen hbody (codeRec_of i.kin hcd) ?_)
  rw [hbind vals hl.symm]
  refine wpAny_pure ?_
  rw [hcl]
  refine wpAny_newFunctionEnv_cells hkf (fun x hx => hkind _ x.1 (by rw [← hmap]; exact List.mem_map_of_mem hx)) fun env he s₁ x => ?_
  have hc' : ((cellsFrom (s.heap.objs.size + 1) fd.scope.names []).map (·.1)).Nodup := by rw [cellsFrom_names fd.scope.names 0 (s.heap.objs.size + 1) [] [] rfl] at hcells; exact hcells
  obtain ⟨c1, k1⟩ := enter_ok (f := f) rm i o r hg hbu hkf hnd hl hkin (fun x hx => hkind _ x hx) env he x hc'
  refine ⟨(i.keeps k1).lim, codeAny_func ?_⟩
  have hb' := h s.heap.objs.size
  have henv : callEnvC fd s.heap.objs.size f = env := he.symm
  rw [henv] at hb'
  have hnew : ∀ b ∈ fx env, s.heap.get? b = none := fun b hm => new_none (by
    have hL : @Eq Nat env.locals s.heap.objs.size := by rw [he]; rfl
    rcases mem_fx hm with q | ⟨nm, q, _⟩
    · have q' : @Eq Nat b env.locals := q
      lia
    · have := ltN (x.above nm b q)
      lia)
  refine wpAny_mono (hb' _ s₁ ad c1) (fun fl s2 q => ?_) fun _ _ f => f.elim
  obtain ⟨ad2, k2, g2, ok⟩ := q
  have kk : KeepsW hb ad s s2 := KeepsW.dropNew k1 k2 fun b hm => (List.mem_append.mp hm).elim .inl fun q => .inr (hnew b q)
  rcases hE with rfl | ⟨rfl, l, rfl⟩
  · obtain ⟨v, rfl, rv, ow⟩ := ok
    exact ⟨ad2, kk, .before k1 i.tab g2, ow, rv⟩
  · obtain ⟨rfl, c2⟩ := ok
    exact ⟨ad2, kk, .before k1 i.tab g2, c2.cx.st.own, .none⟩

/-! the owned objects are given up -/
noncomputable def Ob.pl : Ob → Bool
  | .lst xs | .acc xs => D.plAll xs
theorem AccAt.shrink {h : Heap} {a : Addr} {vs : Array Value} (hs : ∀ b ∈ ad, b ∈ ad') (x : AccAt h ad' a vs) : AccAt h ad a vs := by
  obtain ⟨a, b, c, d, e, f1, f2, f3, f4, f5, f6, f7, f8⟩ := x
  exact ⟨a, b, c, d, e, f1, f2, f3, f4, f5, f6, fun hm => f7 (hs _ hm), f8⟩
theorem RdOb.shrink {h : Heap} {a : Addr} {ob : Ob} (hs : ∀ b ∈ ad, b ∈ ad') (x : RdOb h ad' a ob) (hp : ob.pl = true) : RdOb h ad a ob := by
  cases x with
  | lst h1 h2 h3 h4 h5 => exact .lst h1 h2 h3 h4 (h5.shrink hs hp)
  | acc h1 h2 => exact .acc (h1.shrink hs) (h2.shrink hs hp)
theorem Own.drop {h : Heap} {new : List Addr} (o : Own hb (σ ++ τ) (ad ++ new) h) (hl : ad.length = σ.length) (hp : ∀ ob ∈ σ, ob.pl = true) : Own hb σ ad h := by
  refine ⟨hl, (List.nodup_append.mp o.nd).1, fun a ha => o.new a (List.mem_append_left _ ha), fun k a ob e1 e2 => ?_⟩
  refine (o.at' k a ob ?_ ?_).shrink (fun b hm => List.mem_append_left _ hm) (hp ob (List.mem_of_getElem? e2))
  · rw [List.getElem?_append_left (List.getElem?_eq_some_iff.mp e1).1]; exact e1
  · rw [List.getElem?_append_left (List.getElem?_eq_some_iff.mp e2).1]; exact e2
-- an owned thing as a plain one
inductive Fz (σ : List Ob) (m : Nat) : D → D → Prop
  | pl {d : D} : d.pl = true → Fz σ m d d
  | acc {k : Nat} {xs : List D} : m ≤ k → σ[k]? = some (.acc xs) → D.plAll xs = true → Fz σ m (.own k) (.acc xs)
  | lst {k : Nat} {xs : List D} : m ≤ k → σ[k]? = some (.lst xs) → D.plAll xs = true → Fz σ m (.own k) (.lst xs)
theorem Own.notold {h : Heap} {new : List Addr} (o : Own hb τ (ad ++ new) h) {k : Nat} {a : Addr} (hk : ad.length ≤ k) (e : (ad ++ new)[k]? = some a) : a ∉ ad := fun hm => by
  obtain ⟨i, hi⟩ := List.mem_iff_getElem?.mp hm
  have hlt := (List.getElem?_eq_some_iff.mp hi).1
  have e2 : (ad ++ new)[i]? = some a := by rw [List.getElem?_append_left hlt]; exact hi
  have h1 := List.getElem?_eq_some_iff.mp e
  have h2 := List.getElem?_eq_some_iff.mp e2
  have := (List.getElem_inj o.nd).mp (h1.2.trans h2.2.symm)
  lia
theorem Fz.rd {h : Heap} {new : List Addr} {d d' : D} {v : Value} (f : Fz τ ad.length d d') (o : Own hb τ (ad ++ new) h) (r : Rd h (ad ++ new) v d) : Rd h ad v d' := by
  have hs : ∀ b ∈ ad, b ∈ ad ++ new := fun b hm => List.mem_append_left _ hm
  cases f with
  | pl hp => exact r.shrink hs hp
  | acc hk e hp =>
    obtain ⟨a, rfl, ha⟩ := r.own'
    cases o.at' _ a _ ha e with
    | acc h1 h2 => exact .acc (h1.shrink hs) (o.notold hk ha) (h2.shrink hs hp)
  | lst hk e hp =>
    obtain ⟨a, rfl, ha⟩ := r.own'
    cases o.at' _ a _ ha e with
    | lst h1 h2 h3 h4 h5 => exact .lst h1 h2 h3 h4 (o.notold hk ha) (h5.shrink hs hp)
theorem FsW.freeze {f : Value} {args : List D} {d d' : D} (h : FsW w hb n f args σ d (σ ++ τ)) (fz : Fz (σ ++ τ) σ.length d d') (hp : ∀ ob ∈ σ, ob.pl = true) : FsW w hb n f args σ d' σ := fun A s ad vals rm i o r =>
  wpAny_mono (h A s ad vals rm i o r) (fun v s' q => by
    obtain ⟨ad', k, ⟨new, rfl, hn⟩, ow, rv⟩ := q
    exact ⟨ad, k, .refl, ow.drop o.len hp, (o.len.symm ▸ fz : Fz (σ ++ τ) ad.length d d').rd ow rv⟩) fun _ _ f => f

/-! try -/
theorem ExW.tryN {body : List Stmt} {h0 : ExceptHandler} {hs : List ExceptHandler} {pos : Pos} (h : ExsW w hb n env ls σ body (.next ls' σ')) : ExW w hb n env ls σ (.Try body (h0 :: hs) [] [] pos) (.next ls' σ') := fun A s ad c => by
  refine wpAny_Try_except (wpAny_mono (h A s ad c) (fun f s1 q => ?_) fun _ _ f => f.elim)
  obtain ⟨ad1, k1, g1, rfl, c1⟩ := q
  exact wpAny_execs_nil ⟨ad1, k1, g1, rfl, c1⟩
theorem funFrames_of {h h' base : Heap} : ∀ {l : List Env}, FrOk hb h l → (∀ b o, h.get? b = some o → h'.get? b = some o) → (∀ env ∈ l, ∀ a, env.frame = some a → base.get? a = none) → h'.FunFrames base l
  | [], _, _, _ => trivial
  | env :: l, f, k, z => by
    obtain ⟨a, L, o, b, c, d, e, _⟩ := f env List.mem_cons_self
    exact ⟨a, ⟨L, o, b, z env List.mem_cons_self L b, k _ _ d, e⟩, funFrames_of (fun env' he => f env' (List.mem_cons_of_mem _ he)) k fun env' he => z env' (List.mem_cons_of_mem _ he)⟩
theorem Own.keepW (o : Own hb σ ad s.heap) (k : KeepsW hb [] s s') (i : Inv w hb s) : Own hb σ ad s'.heap := by
  have car := (k.mono (Y := ad) (by simp)).carG (.refl (s := s)) i.tab
  refine ⟨o.len, o.nd, o.new, fun j a ob e1 e2 => (o.at' j a ob e1 e2).car car fun ob' e' => ?_⟩
  obtain ⟨o2, vs, m, q1, q2⟩ := o.seqs (List.mem_of_getElem? e1)
  (first | exact nS e' q1 | exact nS q1 e' | exact nD e' q1 | exact nD q1 e' | cases sE e' q1 | (rw [e'] at q1; cases q1))
  exact ⟨ob', k.exact (by simp) e' (o.nottb i.bs (List.mem_of_getElem? e1)) (.inl ⟨vs, m, q2⟩), .refl _⟩
-- a ValueError that this frame's own try takes: the handler's suite is reached with all as it was, but for the frames' slots
theorem caught_ok {e : Addr} {h4 : Heap} {tk : Nat} {np pos : Pos} {b₀ : Stmt} {suite : List Stmt} {Q : Flow → Shared → Prop} (c : Cs w hb n A env ls σ ad s) (hx : Heap.NewExc s.heap h4 e "ValueError")
    (hks : env.kindOf "ValueError" = some .globalImplicit)
    (hE : PassesOwnAt (model pg w) (A.mark (some (.ref e))) A env E)
    (h : ∀ s', KeepsW hb [] s s' → Cs w hb n A env ls σ ad s' → wpAny (model pg w) (A.mark (some (.ref e))) (execs (b₀ :: suite) env) Q E s') :
    wpAny (model pg w) A (noteFrame (.ref e) env) (fun _ s₂ => wpAny (model pg w) A (setFlight (.ref e) none) (fun _ s₃ =>
      wpAny (model pg w) A (handleBy (.ref e) env [.ExceptHandler (some (.Name "ValueError" np)) none (b₀ :: suite) pos]) Q E s₃) E s₂) E { s with heap := h4, toks := tk } := by
  obtain ⟨outer, hfr⟩ := c.top
  obtain ⟨outer', hfr', fo⟩ := c.cx.rm.frames
  (first | exact nS hfr hfr' | exact nS hfr' hfr | exact nD hfr hfr' | exact nD hfr' hfr | cases sE hfr hfr' | (rw [hfr] at hfr'; cases hfr'))
  obtain ⟨ob, tp, he, hcls, hd⟩ := hx.there
  let fs := (env :: outer).filterMap (·.frame)
  let base := hideAll s.heap fs
  have hfs : ∀ b ∈ fs, hb.get? b = none ∧ ∃ o, s.heap.get? b = some o ∧ (∀ vs, o.data ≠ .fields vs) ∧ ∀ vs n, o.data ≠ .seq vs n := fun b hm => by
    obtain ⟨env', h1, h2⟩ := List.mem_filterMap.mp hm
    obtain ⟨_, L, o, q1, q2, q3, q4⟩ := fo env' h1
    (first | exact nS h2 q1 | exact nS q1 h2 | exact nD h2 q1 | exact nD q1 h2 | cases sE h2 q1 | (rw [h2] at q1; cases q1))
    exact ⟨q2, o, q3, q4⟩
  have stays : base.StaysIn h4 := fun b o q => hx.keeps b o (of_hideAll _ q)
  have ff : h4.FunFrames base (env :: outer) := funFrames_of fo hx.keeps fun env' he' a ha => hideAll_none _ (List.mem_filterMap.mpr ⟨env', he', ha⟩)
  have enew : base.get? e = none := by
    cases q : base.get? e with
    | none => rfl
    | some o => have := of_hideAll _ q; (first | exact nS hx.new this | exact nS this hx.new | exact nD hx.new this | exact nD this hx.new | cases sE hx.new this | (rw [hx.new] at this; cases this))
  have keepW : ∀ h6 tk6, base.StaysIn h6 → h4.UpToSlots h6 → KeepsW hb [] s { s with heap := h6, toks := tk6 } := fun h6 tk6 st up => by
    have ex : ∀ b o, b ∉ fs → s.heap.get? b = some o → h6.get? b = some o := fun b o hb' q => st b o (hideAll_get _ q hb')
    refine ⟨fun b o _ q _ => ?_, tabKeeps fun b o q e' => ex b o (fun hm => ?_) e', id, rfl⟩
    · by_cases hm : b ∈ fs
      · obtain ⟨z1, o', z2, z3, z4⟩ := hfs b hm
        (first | exact nS q z2 | exact nS z2 q | exact nD q z2 | exact nD z2 q | cases sE q z2 | (rw [q] at z2; cases z2))
        obtain ⟨sl, z5⟩ := up b o (hx.keeps b o q) z3
        refine ⟨_, z5, ⟨rfl, rfl, rfl⟩, fun z => ?_⟩
        rcases z with ⟨vs, z⟩ | ⟨vs, m, z⟩ | z
        · exact absurd z (z3 vs)
        · exact absurd z (z4 vs m)
        · (first | exact nS z1 z | exact nS z z1 | exact nD z1 z | exact nD z z1 | cases sE z1 z | (rw [z1] at z; cases z))
      · exact ⟨o, ex b o hm q, .refl o, fun _ => rfl⟩
    · obtain ⟨z1, _⟩ := hfs b hm
      rcases q with rfl | rfl
      · (first | exact nS c.cx.inv.bs.tbl z1 | exact nS z1 c.cx.inv.bs.tbl | exact nD c.cx.inv.bs.tbl z1 | exact nD z1 c.cx.inv.bs.tbl | cases sE c.cx.inv.bs.tbl z1 | (rw [c.cx.inv.bs.tbl] at z1; cases z1))
      · (first | exact nS (c.cx.inv.bs.k 173 _ rfl) z1 | exact nS z1 (c.cx.inv.bs.k 173 _ rfl) | exact nD (c.cx.inv.bs.k 173 _ rfl) z1 | exact nD z1 (c.cx.inv.bs.k 173 _ rfl) | cases sE (c.cx.inv.bs.k 173 _ rfl) z1 | (rw [c.cx.inv.bs.k 173 _ rfl] at z1; cases z1))
  have csW : ∀ s', KeepsW hb [] s s' → Cs w hb n A env ls σ ad s' := fun s' k => c.weak (k.mono (by simp)) Grew.refl (c.cx.st.own.keepW k c.cx.inv)
  unfold noteFrame
  simp only [c.fn.frame]
  refine wpAny_bind (wpAny_field he hd (x := .none) rfl ?_)
  rw [if_neg (by decide)]
  refine wpAny_entryW (a0 := tp) hfr ff c.fn.frame he stays enew hd (by show 1 < 6; decide) rfl fun h5 hN => ?_
  obtain ⟨n1, n2, n3, n4⟩ := hN
  have held5 : Heap.HeldW base (env :: outer) e ob.cls tp env.locals h5 := ⟨n1, enew, n2, n3⟩
  refine wpAny_landsW held5 fun h6 fl6 up6 => ?_
  have up46 : h4.UpToSlots h6 := (show h4.UpToSlots h5 from n4).trans up6
  have c6 := csW _ (keepW h6 tk fl6.1 up46)
  obtain ⟨ob6, hob6, hobc6⟩ := fl6.there
  refine wpAny_handleBy_builtin (X := "ValueError") (T := "ValueError") (b := true) PySem.F.isExc_ValueError PySem.F.notTuple_ValueError (by rw [isSubtype_type]; kernel_rfl) ?_
  obtain ⟨mg, hg⟩ := glob_ns c6.cx.kin
  obtain ⟨mb, hm, hq⟩ := c6.cx.inv.blt
  refine Name_function_global c6.cx.st.kind hks (loadGlobal_builtin (c6.cx.st.glo ▸ hg) (mg_none_of c6.cx.kin hg rfl) (c6.cx.st.bui ▸ hm) ((hq _ (by decide)).trans Boot.ValueError) ⟨rfl, ⟨ob6, hob6, hobc6.trans hcls⟩, ?_⟩) (by decide)
  rw [if_pos rfl]
  refine lands_againW fl6 fun h7 fl7 up7 => ?_
  have k7 := keepW h7 tk fl7.1 (up46.trans up7)
  exact wpAny_passesOwnAt hE (h _ k7 (csW _ k7))
end
end Mine
end

section
open PySem PySem.W PySem.Calls PyProof.Rows PySem.SeqAt PySem.MeetsSeq
set_option Elab.async false
set_option tactic.hygienic false
set_option linter.unusedVariables false
set_option maxRecDepth 100000
namespace Mine
section
variable {w : World} {hb : Heap} {n : Nat} {A : Around} {env : Env} {ls ls' : List (Str × D)} {σ σ' σ'' τ : List Ob} {ad ad' ad'' : List Addr} {s s' s'' : Shared} {E : Value → Shared → Prop} {X Y : List Addr}
theorem RdAll.erase {h : Heap} {vs : List Value} {ds : List D} (r : RdAll h ad vs ds) : ∀ j, RdAll h ad (vs.eraseIdx j) (ds.eraseIdx j) :=
  RdAll.ind (P := fun vs ds => ∀ j, RdAll h ad (vs.eraseIdx j) (ds.eraseIdx j)) (fun _ => .nil) (fun h1 h2 ih j => by
    cases j with
    | zero => exact h2
    | succ j => exact .cons h1 (ih j)) r
theorem eraseIdx_map' {α β : Type} (f : α → β) : ∀ (xs : List α) (j : Nat), (xs.map f).eraseIdx j = (xs.eraseIdx j).map f
  | [], j => by simp
  | x :: xs, 0 => by simp
  | x :: xs, j + 1 => by simp [eraseIdx_map' f xs j]
theorem first_at {α : Type} [DecidableEq α] {x : α} : ∀ {ys : List α}, x ∈ ys → ∃ j, ys[j]? = some x ∧ (∀ m, m < j → ys[m]? ≠ some x) ∧ ys.erase x = ys.eraseIdx j
  | y :: ys, h => by
    by_cases e : y = x
    · subst e
      exact ⟨0, by simp, fun m hm => by lia, by simp⟩
    · obtain ⟨j, h1, h2, h3⟩ := first_at (x := x) (ys := ys) (by simpa [Ne.symm e] using h)
      refine ⟨j + 1, by simpa using h1, fun m hm => ?_, ?_⟩
      · cases m with
        | zero => simpa using e
        | succ m => simpa using h2 m (by lia)
      · rw [List.erase_cons, if_neg (by simpa using e), h3]; rfl
set_option tactic.hygienic true in
theorem FsW.remove {α : Type} [DecidableEq α] {kk k : Nat} {emb : α → D} (e : EqT kk emb) {ys : List α} {x : α} (hσ : σ[k]? = some (.lst (ys.map emb))) (hx : x ∈ ys) (hs : ys.length ≤ 1000000) (hk : autoParam (kk ≤ 700) Mine.auD) :
    FsW w hb n (.builtin "list.remove") [.own k, emb x] σ .none (σ.set k (.lst ((ys.erase x).map emb))) := fun A s ad vals rm i o r => by
  obtain ⟨v, u, rfl, r1, r2⟩ := r.two
  obtain ⟨a, rfl, ha⟩ := r1.own'
  obtain ⟨j, j1, j2, j3⟩ := first_at hx
  cases o.at' k a _ ha hσ with
  | lst h1 h2 h3 h4 h5 =>
    rename_i ob vs m
    have hl := h5.length
    rw [Array.length_toList, List.length_map] at hl
    obtain ⟨cls, dct, dt, sl⟩ := ob
    simp only at h2 h3 h4
    subst h2 h3 h4
    obtain ⟨f, hf, hg⟩ := e.mem (A := A.in1) (by have := rm.units' (k := kk + 1) (by lia); show A.units + 1 + kk < cLine; lia) h5 r2
    have hjl : j < vs.size := by rw [hl]; exact (List.getElem?_eq_some_iff.mp j1).1
    have upd : ∀ us : Array Value, RdAll s.heap ad us.toList (ys.map emb) → RdAll s.heap ad (us.eraseIdxIfInBounds j).toList ((ys.erase x).map emb) := fun us r => by
      have hul := r.length
      rw [Array.length_toList, List.length_map] at hul
      rw [Array.eraseIdxIfInBounds, dif_pos (by lia), Array.toList_eraseIdx, j3]
      have := r.erase j
      rwa [eraseIdx_map'] at this
    obtain ⟨kw, ow⟩ := own_upd (xs' := (ys.erase x).map emb) (f := fun us => us.eraseIdxIfInBounds j) i o ha hσ upd
    refine call_meets F.slot_list_remove ⟨_, h1, rfl⟩ F.entry_list_remove (F.args_list_remove_2 _ _) (m_remove a vs m _ _ _ u f j hjl ?_ ?_ (sz (by lia))) ⟨h1, hf, ad, kw, .refl, ow, .none⟩
    · obtain ⟨y, e1, e2⟩ := hg j vs[j] (by simp [hjl])
      (first | exact nS j1 e1 | exact nS e1 j1 | exact nD j1 e1 | exact nD e1 j1 | cases sE j1 e1 | (rw [j1] at e1; cases e1)); rw [e2]; simp
    · intro m hm hmj
      obtain ⟨y, e1, e2⟩ := hg m vs[m] (by simp [hm])
      rw [e2]
      exact decide_eq_false fun q => j2 m hmj (by rw [e1, q])
-- what is not in the list: a ValueError
set_option tactic.hygienic true in
theorem remove_none {α : Type} [DecidableEq α] {kk k : Nat} {emb : α → D} (e : EqT kk emb) {ys : List α} {x : α} {vals : List Value} {Q : Value → Shared → Prop} (hσ : σ[k]? = some (.lst (ys.map emb))) (hx : x ∉ ys) (rm : Rm hb n A s.heap) (i : Inv w hb s)
    (o : Own hb σ ad s.heap) (r : RdAll s.heap ad vals [.own k, emb x]) (hk : kk ≤ 700) (h : ∀ h' tk a, Heap.NewExc s.heap h' a "ValueError" → E (.ref a) { s with heap := h', toks := tk }) :
    wpAny (model pg w) A (call (.builtin "list.remove") vals) Q E s := by
  obtain ⟨v, u, rfl, r1, r2⟩ := r.two
  obtain ⟨a, rfl, ha⟩ := r1.own'
  cases o.at' k a _ ha hσ with
  | lst h1 h2 h3 h4 h5 =>
    rename_i ob vs m
    have hl := h5.length
    rw [Array.length_toList, List.length_map] at hl
    obtain ⟨cls, dct, dt, sl⟩ := ob
    simp only at h2 h3 h4
    subst h2 h3 h4
    obtain ⟨f, hf, hg⟩ := e.mem (A := A.in1) (by have := rm.units' (k := kk + 1) (by lia); show A.units + 1 + kk < cLine; lia) h5 r2
    refine call_meets F.slot_list_remove ⟨_, h1, rfl⟩ F.entry_list_remove (F.args_list_remove_2 _ _) (m_remove_none a vs m _ _ _ u f ?_) ⟨h1, hf, rm.handled, h⟩
    intro m hm
    obtain ⟨y, e1, e2⟩ := hg m vs[m] (by simp [hm])
    rw [e2]
    exact decide_eq_false fun q => hx (q ▸ List.mem_of_getElem? e1)
-- a read name, whatever stands around
theorem name_at {x : Str} {d : D} {pos : Pos} {Q : Value → Shared → Prop} (c : Cs w hb n A env ls σ ad s) {A' : Around} (h : ls.lookup x = some d) (hd : (x == ("__debug__" : Str)) = false) (hq : ∀ v, Rd s.heap ad v d → Q v s) :
    wpAny (model pg w) A' (eval (.Name x pos) env) Q E s := by
  obtain ⟨v, z, r⟩ := c.cx.st.nm x d h
  refine wpAny_Name ?_ hd
  rcases z with ⟨a, m, b, e⟩ | ⟨a, cl, b, e⟩
  · exact wpAny_loadName_local c.cx.st.kind a b e (hq v r)
  · rcases a with a | ⟨a, a'⟩
    · exact wpAny_loadName_cell c.cx.st.kind a b e (hq v r)
    · exact wpAny_loadName_free c.cx.st.kind a b e (hq v r) a'
-- in a handler: one is put behind an owned list
set_option tactic.hygienic true in
theorem append_at {x y : Str} {k : Nat} {xs : List D} {d : D} {p1 p2 p3 p4 p5 : Pos} {A' : Around} {Q : Flow → Shared → Prop} (c : Cs w hb n A env ls σ ad s) (h1 : ls.lookup x = some (.own k)) (h2 : ls.lookup y = some d) (hσ : σ[k]? = some (.lst xs)) (hs : xs.length ≤ 1000000)
    (hdx : (x == ("__debug__" : Str)) = false) (hdy : (y == ("__debug__" : Str)) = false) (hline : (p1.endLine == p3.line) = true)
    (hq : ∀ s', KeepsW hb ad s s' → Cs w hb n A env ls (σ.set k (.lst (xs ++ [d]))) ad s' → Q .next s')
    (hi : autoParam (interactive env = false) Mine.auR) (hsw : autoParam (swapsWith (.Call (.Attribute (.Name x p2) "append" p1) [.Name y p4] [] p3) none p5.line env = pure false) Mine.auR) :
    wpAny (model pg w) A' (execs [.Expr (.Call (.Attribute (.Name x p2) "append" p1) [.Name y p4] [] p3) p5] env) Q E s := by
  refine wpAny_execs_cons (wpAny_Expr_any (wpAny_Call_method rfl rfl hline F.plainAttrs_list F.slot_list_append F.type_list_append (name_at c h1 hdx fun v r1 => ?_)) hi hsw)
  obtain ⟨a, rfl, ha⟩ := r1.own'
  have o := c.cx.st.own
  cases o.at' k a _ ha hσ with
  | lst g1 g2 g3 g4 g5 =>
    rename_i ob vs m
    refine ⟨⟨ob, g1, g2⟩, fun b q => by cases q; exact ⟨ob, g1, g3⟩, ?_⟩
    refine callWith_of (P := (Kf w).In) rfl Kpr.blt (evalArgs_plain (spliced_more (name_at c h2 hdy fun u r2 => spliced_nil ?_) rfl))
    have hl := g5.length
    rw [Array.length_toList] at hl
    obtain ⟨cls, dct, dt, sl⟩ := ob
    simp only at g2 g3 g4
    subst g2 g3 g4
    obtain ⟨kw, ow⟩ := own_upd (xs' := xs ++ [d]) (f := fun vs => vs.push u) c.cx.inv o ha hσ fun vs r => by rw [Array.toList_push]; exact r.append (.cons r2 .nil)
    refine ⟨c.cx.kin, call_meets F.slot_list_append ⟨_, g1, rfl⟩ F.entry_list_append (F.args_list_append_2 _ _) (m_append a vs m _ _ _ u (sz (by lia))) ⟨g1, ?_⟩⟩
    exact wpAny_execs_nil (hq _ kw (c.weak kw Grew.refl ow))
-- actual.remove(item), and what is not there is put behind missing
theorem ExW.tryRemove {α : Type} [DecidableEq α] {kk ka km : Nat} {emb : α → D} (e : EqT kk emb) {ys : List α} {it : α} {ms : List D} {xa xi xm : Str} {p1 p2 p3 p4 p5 q1 q2 q3 q4 q5 np hp pos : Pos}
    (ha : ls.lookup xa = some (.own ka)) (hi : ls.lookup xi = some (emb it)) (hm : ls.lookup xm = some (.own km)) (hσa : σ[ka]? = some (.lst (ys.map emb))) (hσm : σ[km]? = some (.lst ms)) (hx : it ∉ ys) (hs : ms.length ≤ 1000000) (hk : kk ≤ 700)
    (hks : env.kindOf "ValueError" = some .globalImplicit) (hda : (xa == ("__debug__" : Str)) = false) (hdi : (xi == ("__debug__" : Str)) = false) (hdm : (xm == ("__debug__" : Str)) = false) (hl1 : (p1.endLine == p3.line) = true) (hl2 : (q1.endLine == q3.line) = true)
    (hint : autoParam (interactive env = false) Mine.auR) (hs1 : autoParam (swapsWith (.Call (.Attribute (.Name xa p2) "remove" p1) [.Name xi p4] [] p3) none p5.line env = pure false) Mine.auR)
    (hs2 : autoParam (swapsWith (.Call (.Attribute (.Name xm q2) "append" q1) [.Name xi q4] [] q3) none q5.line env = pure false) Mine.auR) :
    ExW w hb n env ls σ (.Try [.Expr (.Call (.Attribute (.Name xa p2) "remove" p1) [.Name xi p4] [] p3) p5] [.ExceptHandler (some (.Name "ValueError" np)) none [.Expr (.Call (.Attribute (.Name xm q2) "append" q1) [.Name xi q4] [] q3) q5] hp] [] [] pos)
      (.next ls (σ.set km (.lst (ms ++ [emb it])))) := fun A s ad c => by
  refine wpAny_Try_except (wpAny_execs_cons (wpAny_Expr_any (wpAny_Call_method rfl rfl hl1 F.plainAttrs_list F.slot_list_remove F.type_list_remove ((Ev.name ha hda).useS c fun v s1 k1 c1 r1 => ?_)) hint hs1))
  obtain ⟨z1, z2⟩ := (show TyD σ (.own ka) "list" from .inr (.inl ⟨rfl, _, .inr ⟨ka, rfl, hσa⟩⟩)).ok r1 c1.cx.st.own
  refine ⟨z1, z2, callWith_any Kpr.blt (EvA.plain (EvS.cons (Ev.name hi hdi) EvS.nil)) c1.cx fun vs s2 k2 c2 r2 => ?_⟩
  have c2' := c1.keeps k2
  refine remove_none e hσa hx c2.rm c2.inv c2.st.own (.cons (r1.keeps (kHeap k2)) r2) hk fun h' tk a hnew => ?_
  refine caught_ok c2' hnew hks PassesOwnAt.never fun s3 k3 c3 => ?_
  refine append_at c3 hm hi hσm hs hdm hdi hl2 (fun s4 k4 c4 => ?_) hint hs2
  exact ⟨ad, ((KeepsW.pure (kTrans k1 k2)).trans0 .refl ((k3.mono (by simp)).trans0 .refl k4)).addF, .refl, rfl, c4⟩
end
end Mine
end

section
open PySem PySem.W PySem.Calls PyProof.Rows PySem.SeqAt PySem.MeetsSeq Builtin.ObjectAttr
set_option Elab.async false
set_option tactic.hygienic false
set_option linter.unusedVariables false
set_option maxRecDepth 100000
namespace Mine
/-! the accumulators: finding a method -/
noncomputable def IsA (σ : List Ob) (d : D) (xs : List D) : Prop := d = .acc xs ∨ ∃ k : Nat, d = .own k ∧ σ[k]? = some (.acc xs)
section
variable {w : World} {hb : Heap} {n : Nat} {A : Around} {env : Env} {ls ls' : List (Str × D)} {σ σ' σ'' τ : List Ob} {ad ad' ad'' : List Addr} {s s' s'' : Shared} {E : Value → Shared → Prop} {X Y : List Addr}
theorem Rd.isA {h : Heap} {v : Value} {d : D} {xs : List D} (r : Rd h ad v d) (l : IsA σ d xs) (o : Own hb σ ad h) : ∃ a vs, v = .ref a ∧ AccAt h ad a vs ∧ RdAll h ad vs.toList xs := by
  rcases l with rfl | ⟨k, rfl, hk⟩
  · cases r with
    | acc h1 h2 h3 => exact ⟨_, _, rfl, h1, h3⟩
  · cases r with
    | own h1 =>
      cases o.at' k _ _ h1 hk with
      | acc g1 g2 => exact ⟨_, _, rfl, g1, g2⟩
theorem lookIn_ns {h : Heap} {a : Addr} {m : Str → Option Value} {o : Obj} (hn : h.Ns a m) (e : h.get? a = some o) (name : Str) : lookIn name o = some (m name) := by
  obtain ⟨o', es, ep, ho, hd, hk, hf⟩ := hn
  (first | exact nS e ho | exact nS ho e | exact nD e ho | exact nD ho e | cases sE e ho | (rw [e] at ho; cases ho))
  unfold lookIn
  rw [hd]
  dsimp only
  rw [← hf name]
  unfold nsFind findBy
  rw [← Array.find?_toList]
  cases q : es.toList.find? fun e => e.key.isStr name with
  | some en => rfl
  | none =>
    have : es.toList.any (·.refKey) = false := by
      rw [List.any_eq_false]
      intro en hm
      obtain ⟨n, t, h⟩ := hk en (Array.mem_toList_iff.mp hm)
      simp [DictEntry.refKey, h]
    rw [this]; rfl
-- what an accumulator is to the library
structure AccI (h : Heap) (a dA : Addr) (ox od : Obj) (t : Tok) (vs : Array Value) (n : Nat) : Prop where
  inst : InstAt h a ox 207 (some od)
  dict : ox.dict = some dA
  data : ox.data = .seq vs n
  ns : h.Ns dA (accNs t)
  look : ∀ name, lookIn name od = some (accNs t name)
  dat : h.get? dA = some od
theorem AccAt.inst {h : Heap} {a : Addr} {vs : Array Value} (x : AccAt h ad a vs) : ∃ dA ox od t n, AccI h a dA ox od t vs n ∧ dA ∉ ad ∧ SmallDict od := by
  obtain ⟨n, o, dA, od, t, h1, h2, h3, h4, h5, h6, h7, h8⟩ := x
  refine ⟨dA, o, od, t, n, ⟨⟨h1, h2, by unfold notCls; rw [h4], by rw [h3]; exact h5⟩, h3, h4, h8, lookIn_ns h8 h5, h5⟩, h7, h6⟩
theorem AccI.keeps {h h' : Heap} {a dA : Addr} {ox od : Obj} {t : Tok} {vs : Array Value} {m : Nat} (k : Kh h h') (x : AccI h a dA ox od t vs m) : AccI h' a dA ox od t vs m := by
  have hd : h'.get? dA = some od := k.get _ _ x.dat fun _ us q => by
    obtain ⟨o2, es, ep, z1, z2, _⟩ := x.ns
    (first | exact nS x.dat z1 | exact nS z1 x.dat | exact nD x.dat z1 | exact nD z1 x.dat | cases sE x.dat z1 | (rw [x.dat] at z1; cases z1)); (first | exact nS z2 q | exact nS q z2 | exact nD z2 q | exact nD q z2 | cases sE z2 q | (rw [z2] at q; cases q))
  exact ⟨⟨k.seq x.inst.at_ x.data, x.inst.cls, x.inst.no, by rw [x.dict]; exact hd⟩, x.dict, x.data, k.ns x.ns, x.look, hd⟩
theorem lga (w : World) : findIn (Kf w) (.ref 207) "__getattribute__" = some (some (.builtin "list.__getattribute__")) := by rfl
theorem lgh (w : World) : findIn (Kf w) (.ref 207) "__getattr__" = some none := by rfl
noncomputable def isMeth (K : Frag) (f : Value) : Bool := match typeIn K f with
  | some t => !(t != .type "function" && t != .type "method_descriptor" && t != .type "wrapper_descriptor")
  | none => false
set_option tactic.hygienic true in
theorem acc_method {name : Str} {f : Value} {x : Addr} {ox od : Obj} {pl : Sem Bool} {Q : Value × List Value → Shared → Prop} (X : (Kf w).In s.heap) (I : InstAt s.heap x ox 207 (some od))
    (hf : findIn (Kf w) (.ref 207) name = some (some f)) (ht : isMeth (Kf w) f = true) (hs : lookIn name od = some none) (h : Q (f, [.ref x]) s) : wpAny (model pg w) A (getMethod (.ref x) name pl) Q E s := by
  have hcan := canon_list_getattribute
  unfold isMeth at ht
  split at ht
  · rename_i t hT
    unfold getMethod specialOf
    refine wpAny_bind (wpAny_bind (I.type.here ((looks_findIn X (lga w)).here ?_)))
    dsimp only
    rw [hcan, if_neg (by decide)]
    refine wpAny_bind (wpAny_bind (I.type.here ((looks_findIn X (lgh w)).here ?_)))
    refine wpAny_bind (wpAny_bind (I.type.here ((looks_findIn X hf).here (wpAny_bind ((looks_typeIn X hT).here ?_)))))
    rw [if_neg (by cases q : (t != Value.type "function" && t != Value.type "method_descriptor" && t != Value.type "wrapper_descriptor") with | false => decide | true => (first | exact nS q ht | exact nS ht q | exact nD q ht | exact nD ht q | cases sE q ht | (rw [q] at ht; cases ht)))]
    refine wpAny_bind (wpAny_loadPart I.at_ ?_)
    have hd := I.dict
    cases e : ox.dict with
    | none => exact wpAny_bind (wpAny_rule (wpAny_pure h))
    | some dx =>
      rw [e] at hd
      refine wpAny_bind (wpAny_bind (wpAny_loadPart hd ?_))
      rw [nsLook_of hs]
      exact wpAny_pure (wpAny_bind (wpAny_rule (wpAny_pure h)))
  · cases ht
-- reading an attribute
noncomputable def foundRun (x : Value) : Found → Sem Fin
  | .value v => ret v
  | .bind g a => bindTo g a x (.ref 207)
  | .missing => pure (.done .next)
theorem acc_get {name : Str} {x : Addr} {ox od : Obj} {ex : Bool} {Q : Value → Shared → Prop} {r : Found} (X : (Kf w).In s.heap) (I : W.InstAt s.heap x ox 207 (some od)) (hf : findObj (Kf w) 207 (some od) name = some r) (hr : r ≠ .missing)
    (h : wpAny (model pg w) A.in1 (foundRun (.ref x) r) (fun (fin : Fin) s' => match fin with | .done (.ret v) => wpAny (model pg w) A (handedOut v) Q E s' | _ => False) (fun _ _ => False) { s with toks := s.toks + 1 }) :
    wpAny (model pg w) A (getAttr (.ref x) name ex) Q E s := by
  obtain ⟨hh, g, d, t, os⟩ := s
  have L0 := I.type (M := model pg w)
  have L1 := looks_findIn (M := model pg w) X (lga w)
  have L2 := looks_find (M := model pg w) X I hf
  have L3 := looks_findIn (M := model pg w) X (lgh w)
  have Ls : Looks (model pg w) hh (isInstance (.ref x) (.type "list")) true := L0.andThen (looks_mroIn X rfl)
  unfold getAttr getAttrBy
  refine wpAny_bind (wpAny_mkText (wpAny_holding (wpAny_bind (L0.at (wpAny_bind (L1.at ?_))))))
  show wpAny _ _ (getAttrByItsOwn (.ref x) (.str name t) (.ref 207) (.builtin "list.__getattribute__") true ex) _ _ _
  unfold getAttrByItsOwn hookBefore callGetattribute boundAndCalled
  rw [if_pos (show onTheHeap (Value.ref 207) = true from rfl)]
  refine wpAny_bind (L3.at (wpAny_bind (wpAny_attempt (wpAny_holding ?_))))
  rw [show (ex && onTheHeap (Value.builtin "list.__getattribute__")) = false from Bool.and_false _, if_neg (by decide), F.slot_list_getattribute.bind]
  refine wpAny_bind (wpAny_pure ?_)
  show wpAny _ _ (call (.builtin "list.__getattribute__") [.ref x, .str name t]) _ _ _
  refine wpAny_call (codeAny_call_builtin F.slot_list_getattribute.plain F.entry_list_ga ?_)
  refine @check_slot (model pg w) _ _ ⟨hh, g, d, t + 1, os⟩ "list.__getattribute__" "list" "__getattribute__" (.ref x) [.str name t] [] _ (by decide +kernel) (by decide +kernel) Ls (F.args_list_getattribute_2 _ _) ?_
  unfold Builtin.«object.__getattribute__»
  refine wpAny_bind (wpAny_pure (wpAny_bind (wpAny_pure (wpAny_bind (L0.at (wpAny_bind (L2.at ?_)))))))
  cases r with
  | value v =>
    refine wpAny_mono h (fun fin s' z => ?_) fun _ _ z => z.elim
    rcases fin with (_ | _ | _ | _) | _ <;> first | exact z | exact z.elim
  | bind g a =>
    refine wpAny_mono h (fun fin s' z => ?_) fun _ _ z => z.elim
    rcases fin with (_ | _ | _ | _) | _ <;> first | exact z | exact z.elim
  | missing => exact absurd rfl hr
theorem find_value {K : Frag} {C : Addr} {cd : ClassData} {od : Obj} {name : Str} {v : Value} (hc : clsIn K C = some cd) (hd : cd.hasDict = true) (hf : findIn K (.ref C) name = some none) (hl : lookIn name od = some (some v)) : findObj K C (some od) name = some (.value v) := by
  unfold findObj W.ownOf
  rw [hc, Option.bind_some, hf, Option.bind_some]
  dsimp only
  rw [Option.bind_some, Option.bind_some]
  dsimp only
  rw [if_pos hd, hl]; rfl
theorem find_bind {K : Frag} {C : Addr} {cd : ClassData} {od : Obj} {name : Str} {a g : Value} (hc : clsIn K C = some cd) (hd : cd.hasDict = true) (hf : findIn K (.ref C) name = some (some a)) (hg : specialIn K a "__get__" = some (some g))
    (ht : takesIn K a = some false) (hl : lookIn name od = some none) (hcp : copiedNames.contains name = false) : findObj K C (some od) name = some (.bind g a) := by
  unfold findObj W.ownOf
  rw [hc, Option.bind_some, hf, Option.bind_some]
  dsimp only
  rw [hg, Option.bind_some]
  dsimp only
  rw [ht, Option.bind_some]
  dsimp only
  rw [if_pos hd, hl, Option.bind_some]
  dsimp only
  rw [hcp]
  simp only [Bool.false_and, Bool.false_eq_true, if_false]
theorem cls207 (w : World) : ∃ cd, clsIn (Kf w) 207 = some cd ∧ cd.hasDict = true := ⟨_, rfl, rfl⟩
-- self._initial_size
theorem acc_size {x : Addr} {ox od : Obj} {t : Tok} {ex : Bool} {Q : Value → Shared → Prop} (X : (Kf w).In s.heap) (I : W.InstAt s.heap x ox 207 (some od)) (hl : ∀ name, lookIn name od = some (accNs t name)) (h : Q (.int 0 t) { s with toks := s.toks + 1 }) :
    wpAny (model pg w) A (getAttr (.ref x) "_initial_size" ex) Q E s := by
  obtain ⟨cd, h1, h2⟩ := cls207 w
  exact acc_get X I (find_value h1 h2 rfl (hl _)) (by nofun) (wpAny_pure (by show wpAny _ _ (handedOut (.int 0 t)) _ _ _; exact wpAny_pure h))
-- a bound method
theorem acc_bound {name : Str} {f : Addr} {x : Addr} {ox od : Obj} {t : Tok} {ex : Bool} {Q : Value → Shared → Prop} (X : (Kf w).In s.heap) (I : W.InstAt s.heap x ox 207 (some od)) (hl : lookIn name od = some none)
    (hf : findIn (Kf w) (.ref 207) name = some (some (.ref f))) (hg : specialIn (Kf w) (.ref f) "__get__" = some (some (.builtin "function.__get__"))) (ht : takesIn (Kf w) (.ref f) = some false) (hT : typeIn (Kf w) (.ref f) = some (.type "function")) (hcp : copiedNames.contains name = false)
    (h : Q (.ref s.heap.objs.size) { s with heap := s.heap.push (methodObj (.ref f) (.ref x)), toks := s.toks + 1 }) :
    wpAny (model pg w) A (getAttr (.ref x) name ex) Q E s := by
  obtain ⟨cd, h1, h2⟩ := cls207 w
  refine acc_get X I (find_bind h1 h2 hf hg ht hl hcp) (by nofun) ?_
  unfold foundRun
  show wpAny _ _ (holding [.ref f] (call (.builtin "function.__get__") [.ref f, .ref x, .ref 207]) >>= ret) _ _ _
  refine wpAny_bind (wpAny_holding (wpAny_call (fn_get (s := { s with toks := s.toks + 1 }) X hT ?_)))
  refine wpAny_pure ?_
  show wpAny _ _ (handedOut (.ref s.heap.objs.size)) _ _ _
  exact wpAny_pure h
end
end Mine
end

section
open PySem PySem.W PySem.Calls PyProof.Rows PySem.SeqAt PySem.MeetsSeq Builtin.ObjectAttr
set_option Elab.async false
set_option tactic.hygienic false
set_option linter.unusedVariables false
set_option maxRecDepth 100000
namespace Mine
section
variable {w : World} {hb : Heap} {n : Nat} {A : Around} {env : Env} {ls ls' : List (Str × D)} {σ σ' σ'' τ : List Ob} {ad ad' ad'' : List Addr} {s s' s'' : Shared} {E : Value → Shared → Prop} {X Y : List Addr}
/-! a def's contract, seen from its code -/
noncomputable def FcW (w : World) (hb : Heap) (n : Nat) (f : Value) (args : List D) (σ : List Ob) (d : D) (σ' : List Ob) : Prop :=
  ∀ (A : Around) (s : Shared) (ad : List Addr) (vals : List Value), Rm hb n A s.heap → Inv w hb s → Own hb σ ad s.heap → RdAll s.heap ad vals args →
    codeAny (model pg w) A (.call f ⟨vals, []⟩) (fun r s' => match r with | .ok (.ret v) => ∃ ad', KeepsW hb ad s s' ∧ Grew ad ad' s ∧ Own hb σ' ad' s'.heap ∧ Rd s'.heap ad' v d | _ => False) s
theorem FcW.of_def {f : Addr} {fd : FuncData} {oc : Value} {od : Option Addr} {osl : Array (Option Value)} {body : List Stmt} {args : List D} {d : D} {o' : OutW} (names : List Str)
    (hk : (Kf w).lookup f = some ⟨oc, od, .func fd, osl⟩) (hbody : fd.body = .stmts body) (h : ∀ L, ExsW w hb n (callEnvC fd L f) (names.zip args) σ body o') (hE : Ends o' d σ')
    (hbind : ∀ vals : List Value, vals.length = names.length → bindArgs fd ⟨vals, []⟩ = pure (names.zip vals))
    (hlen : autoParam (names.length = args.length) Mine.auR) (hcd : autoParam (codeIn (Kf w) fd.code fd.qualname = true) Mine.auR)
    (hcl : autoParam (fd.closure = []) Mine.auR) (hg : autoParam (fd.globals = mainGlobals) Mine.auR) (hbu : autoParam (fd.builtins = builtinsNs) Mine.auR) (hkf : autoParam (fd.scope.kind = .function) Mine.auR)
    (hnd : autoParam (names.Nodup) Mine.auD) (hkin' : autoParam ((fd.scope.names.lookup ("_initial_size" : Str) == some .local) = false) Mine.auR)
    (hkind' : autoParam ((names.all fun y => fd.scope.names.lookup y == some .local || fd.scope.names.lookup y == some .cell) = true) Mine.auR)
    (hcells : autoParam (((cellsFrom 0 fd.scope.names []).map (·.1)).Nodup) Mine.auD) (hco : autoParam (fd.scope.isCoroutine = false) Mine.auR) (hgen : autoParam (fd.scope.isGenerator = false) Mine.auR) :
    FcW w hb (n + 1) (.ref f) args σ d σ' := fun A s ad vals rm i o r => by
  have hkin : fd.scope.names.lookup ("_initial_size" : Str) ≠ some .local := fun q => by (first | exact nS q hkin' | exact nS hkin' q | exact nD q hkin' | exact nD hkin' q | cases sE q hkin' | (rw [q] at hkin'; cases hkin'))
  have hkind : ∀ n, ∀ x ∈ names, fd.scope.names.lookup x = some .local ∨ (fd.scope.names.lookup x = some .cell ∧ ((cellsFrom n fd.scope.names []).lookup x).isSome = true) := fun n x hx => by
    rcases Bool.or_eq_true_iff.mp (List.all_eq_true.mp hkind' x hx) with q | q
    · exact .inl (by simpa using q)
    · exact .inr ⟨by simpa using q, cellsFrom_some _ _ _ (.inl (by simpa using q))⟩
  have hl : names.length = vals.length := by rw [hlen, r.length]
  have hmap : (names.zip vals).map (·.1) = names := by rw [List.map_fst_zip]; lia
  refine codeAny_call_function (by have := rm.depth; show A.depth < 1000; lia) (i.kin _ _ hk) rfl hco hgen hbody (codeRec_of i.kin hcd) ?_
  rw [hbind vals hl.symm]
  refine wpAny_pure ?_
  rw [hcl]
  refine wpAny_newFunctionEnv_cells hkf (fun x hx => hkind _ x.1 (by rw [← hmap]; exact List.mem_map_of_mem hx)) fun env he s₁ x => ?_
  have hc' : ((cellsFrom (s.heap.objs.size + 1) fd.scope.names []).map (·.1)).Nodup := by rw [cellsFrom_names fd.scope.names 0 (s.heap.objs.size + 1) [] [] rfl] at hcells; exact hcells
  obtain ⟨c1, k1⟩ := enter_ok (f := f) rm i o r hg hbu hkf hnd hl hkin (fun x hx => hkind _ x hx) env he x hc'
  refine ⟨(i.keeps k1).lim, codeAny_func ?_⟩
  have hb' := h s.heap.objs.size
  have henv : callEnvC fd s.heap.objs.size f = env := he.symm
  rw [henv] at hb'
  have hnew : ∀ b ∈ fx env, s.heap.get? b = none := fun b hm => new_none (by
    have hL : @Eq Nat env.locals s.heap.objs.size := by rw [he]; rfl
    rcases mem_fx hm with q | ⟨nm, q, _⟩
    · have q' : @Eq Nat b env.locals := q
      lia
    · have := ltN (x.above nm b q)
      lia)
  refine wpAny_mono (hb' _ s₁ ad c1) (fun fl s2 q => ?_) fun _ _ f => f.elim
  obtain ⟨ad2, k2, g2, ok⟩ := q
  have kk : KeepsW hb ad s s2 := KeepsW.dropNew k1 k2 fun b hm => (List.mem_append.mp hm).elim .inl fun q => .inr (hnew b q)
  rcases hE with rfl | ⟨rfl, l, rfl⟩
  · obtain ⟨v, rfl, rv, ow⟩ := ok
    exact ⟨ad2, kk, .before k1 i.tab g2, ow, rv⟩
  · obtain ⟨rfl, c2⟩ := ok
    exact ⟨ad2, kk, .before k1 i.tab g2, c2.cx.st.own, .none⟩

/-! calls of an accumulator's methods -/
noncomputable def accName (name : Str) : Prop := ∀ t, accNs t name = none
theorem accName.mk {name : Str} (h : (name == ("_initial_size" : Str)) = false) : accName name := fun t => by
  unfold accNs
  rw [if_neg (by simpa using h)]
theorem EvW.methA {o : PySem.Expr} {name : Str} {apos pos : Pos} {es : List PySem.Expr} {f : Value} {d0 d : D} {ds xs : List D} (h0 : Ev w hb n env ls σ o d0) (hA : IsA σ d0 xs) (ha : EvAW w hb n env ls σ es ds σ')
    (hf : FsW w hb n f (d0 :: ds) σ' d σ'') (hk : Kpr w f) (hn : accName name) (hm : findIn (Kf w) (.ref 207) name = some (some f)) (ht : isMeth (Kf w) f = true)
    (hbase : autoParam (attributeBase o name env (eval o env) = eval o env) Mine.auR)
    (hfew : autoParam (((backTo pos (starEach es env)).all (fun x => !x.1) && (backToKw pos (keywordEach [] env)).all (fun x => x.1.isSome)
      && decide (es.length + ([] : List Keyword).length + (if ([] : List Keyword).isEmpty then 0 else 1) < 30)) = true) Mine.auR)
    (hline : autoParam ((apos.endLine == pos.line) = true) Mine.auR) : EvW w hb n env ls σ (.Call (.Attribute o name apos) es [] pos) d σ'' := fun A s ad c => by
  rw [arm_eval_Call, hbase]
  refine wpAny_bind (h0.useS c fun v s1 k1 c1 r1 => wpAny_bind (wpAny_standAt ?_))
  have hform : methodCallForm (es.length + ([] : List Keyword).length) (backTo pos (starEach es env)) (backToKw pos (keywordEach [] env)) = true := hfew
  have hpos : methodCallPos true o env apos pos = pure pos := by unfold methodCallPos; simp [hline]
  obtain ⟨x, vs, rfl, at', r'⟩ := r1.isA hA c1.cx.st.own
  obtain ⟨dA, ox, od, t, m, I, _⟩ := at'.inst
  unfold methodCall
  rw [hform]
  refine wpAny_bind (wpAny_holding (acc_method c1.cx.kin I.inst hm ht (by rw [I.look, hn t]) ?_))
  refine wpAny_bind (wpAny_of_eq hpos ?_)
  refine callWith_anyW hk ha c1 fun vs s2 ad2 k2 g2 c2 r2 => ?_
  refine hf.use c2 (.cons (r1.car (k2.carG g2 c1.cx.inv.tab)) r2) fun v s3 ad3 k3 g3 c3 r3 => ⟨ad3, (KeepsW.pure k1).trans0 .refl (k2.trans0 g2 k3), .before k1 c.cx.inv.tab (g2.trans0 k2 g3 c2.cx.st.own c1.cx.inv.tab), c3.cx.st.own, r3⟩
-- with a star: by a bound method
theorem EvW.methS {o : PySem.Expr} {name : Str} {apos pos : Pos} {es : List PySem.Expr} {f : Addr} {d0 d : D} {ds xs : List D} (h0 : Ev w hb n env ls σ o d0) (hA : IsA σ d0 xs) (ha : EvAW w hb n env ls σ es ds σ')
    (hf : FcW w hb n (.ref f) (d0 :: ds) σ' d σ'') (hfn : fnIn (Kf w) f = true) (hn : accName name) (hm : findIn (Kf w) (.ref 207) name = some (some (.ref f))) 
    (hg : specialIn (Kf w) (.ref f) "__get__" = some (some (.builtin "function.__get__"))) (ht : takesIn (Kf w) (.ref f) = some false) (hT : typeIn (Kf w) (.ref f) = some (.type "function")) (hcp : copiedNames.contains name = false)
    (hst : (backTo pos (starEach es env)).any (·.1) = true)
    (hbase : autoParam (attributeBase o name env (eval o env) = eval o env) Mine.auR) 
    (hfew : autoParam (((backTo pos (starEach es env)).all (fun x => !x.1) && (backToKw pos (keywordEach [] env)).all (fun x => x.1.isSome)
      && decide (es.length + ([] : List Keyword).length + (if ([] : List Keyword).isEmpty then 0 else 1) < 30)) = false) Mine.auR) : EvW w hb n env ls σ (.Call (.Attribute o name apos) es [] pos) d σ'' := fun A s ad c => by
  rw [arm_eval_Call, hbase]
  refine wpAny_bind (h0.useS c fun v s1 k1 c1 r1 => wpAny_bind (wpAny_standAt ?_))
  have hform : methodCallForm (es.length + ([] : List Keyword).length) (backTo pos (starEach es env)) (backToKw pos (keywordEach [] env)) = false := hfew
  have hpos : methodCallPos false o env apos pos = pure pos := by unfold methodCallPos; simp
  obtain ⟨x, vs, rfl, at', r'⟩ := r1.isA hA c1.cx.st.own
  obtain ⟨dA, ox, od, t, m, I, _⟩ := at'.inst
  unfold methodCall calleeOf
  rw [hform]
  have kp : Keeps s1 { s1 with heap := s1.heap.push (methodObj (.ref f) (.ref x)), toks := s1.toks + 1 } := kTrans (kPush s1 _) (kToks _ _)
  refine wpAny_bind (wpAny_holding ?_)
  show wpAny _ _ (getAttr (.ref x) name true >>= fun a => pure (a, [])) _ _ _
  refine wpAny_bind (acc_bound (t := t) c1.cx.kin I.inst (by rw [I.look, hn t]) hm hg ht hT hcp (wpAny_pure ?_))
  refine wpAny_bind (wpAny_of_eq hpos ?_)
  have c2 := c1.keeps kp
  have hbn : s1.heap.get? s1.heap.objs.size = none := fresh_none s1
  have hbnd : ({ s1 with heap := s1.heap.push (methodObj (.ref f) (.ref x)), toks := s1.toks + 1 } : Shared).heap.get? s1.heap.objs.size = some (methodObj (.ref f) (.ref x)) := Heap.get?_push_size _ rfl
  have hbad : s1.heap.objs.size ∉ ad := c1.cx.st.own.fresh
  have r1' := r1.keeps (kHeap kp)
  refine ks_call (P := MethP (Kf w) s1.heap.objs.size f (.ref x)) hst (keeps_M hfn) (wpAny_mono (ha A _ ad pos _ c2) (fun a s3 q => ?_) fun _ _ f => f.elim)
  obtain ⟨vs, ad3, rfl, k3, g3, o3, r3⟩ := q
  have c3 := c2.weak k3 g3 o3
  have hb3 : s3.heap.get? s1.heap.objs.size = some (methodObj (.ref f) (.ref x)) := k3.exact hbad hbnd (fun q => by
    obtain ⟨_, _, e, _⟩ := c1.cx.inv.tab.fields
    rw [← q, hbn] at e; cases e) (.inr ⟨_, rfl⟩)
  refine ⟨⟨hb3, c3.cx.kin⟩, wpAny_call (method_call hb3 (codeAny_mono (hf A s3 ad3 (.ref x :: vs) c3.cx.rm c3.cx.inv c3.cx.st.own (.cons (r1'.car (k3.carG g3 c2.cx.inv.tab)) r3)) fun r s' q => ?_))⟩
  rcases r with e | (v | _ | _ | _) <;> first | exact q.elim | skip
  obtain ⟨ad4, k4, g4, o4, r4⟩ := q
  have kk := kTrans k1 kp
  exact ⟨ad4, (KeepsW.pure kk).trans0 .refl (k3.trans0 g3 k4), .before kk c.cx.inv.tab (g3.trans0 k3 g4 o3 c2.cx.inv.tab), o4, r4⟩
end
end Mine
end

section
open PySem PySem.W PySem.Calls PyProof.Rows PySem.SeqAt PySem.MeetsSeq Builtin.ObjectAttr
set_option Elab.async false
set_option tactic.hygienic false
set_option linter.unusedVariables false
set_option maxRecDepth 100000
namespace Mine
section
variable {w : World} {hb : Heap} {n : Nat} {A : Around} {env : Env} {ls ls' : List (Str × D)} {σ σ' σ'' τ : List Ob} {ad ad' ad'' : List Addr} {s s' s'' : Shared} {E : Value → Shared → Prop} {X Y : List Addr}
-- an owned accumulator is updated in place
set_option tactic.hygienic true in
theorem own_updA {k : Nat} {a : Addr} {xs xs' : List D} {f : Array Value → Array Value} (i : Inv w hb s) (o : Own hb σ ad s.heap) (ha : ad[k]? = some a) (hσ : σ[k]? = some (.acc xs))
    (hf : ∀ vs : Array Value, RdAll s.heap ad vs.toList xs → RdAll s.heap ad (f vs).toList xs') :
    KeepsW hb ad s { s with heap := s.heap.update a (Obj.mapSeq f) } ∧ Own hb (σ.set k (.acc xs')) ad (s.heap.update a (Obj.mapSeq f)) := by
  have hm := List.mem_of_getElem? ha
  cases o.at' k a _ ha hσ with
  | acc hA h5 =>
    rename_i vs
    obtain ⟨m, ob, dA, od, t, h1, h2, h3, h4, q5, q6, q7, q8⟩ := hA
    have other : ∀ b o, b ≠ a → s.heap.get? b = some o → (s.heap.update a (Obj.mapSeq f)).get? b = some o := fun b o hb' e => (Heap.get?_update_other _ _ (Ne.symm hb')).trans e
    have kx : KeepsX ad s { s with heap := s.heap.update a (Obj.mapSeq f) } := ⟨fun b o hb' e _ => other b o (fun q => hb' (q ▸ hm)) e, tabKeeps fun b o' q e => other b o' (fun q' => by
      have hn := o.new a hm
      rcases q with rfl | rfl
      · rw [← q', i.bs.tbl] at hn; cases hn
      · rw [← q', i.bs.k 173 _ rfl] at hn; cases hn) e, id, rfl⟩
    have kw : KeepsW hb ad s { s with heap := s.heap.update a (Obj.mapSeq f) } := .of kx
    refine ⟨kw, o.set (s' := { s with heap := s.heap.update a (Obj.mapSeq f) }) kw i.tab (fun b _ hne o e => other b o hne e) ha ?_⟩
    obtain ⟨m', hd'⟩ := Obj.data_mapSeq h4 f
    have car : Car s.heap (s.heap.update a (Obj.mapSeq f)) ad ad [a] := ⟨fun b o hb' e => ⟨o, other b o (by simpa using hb') e, .refl o⟩, fun b hb' => .inl (by replace hb' := (List.mem_singleton.mp hb').symm; subst hb'; exact hm), fun _ _ e => e, fun _ e => .inl e⟩
    have hg := Heap.get?_update_self (Obj.mapSeq f) h1 (by generalize Obj.mapSeq f ob = o2 at hd'; obtain ⟨c1, d1, dt, sl⟩ := o2; simp only at hd'; subst hd'; rfl)
    have hne : dA ≠ a := fun q => q7 (q ▸ hm)
    refine .acc ⟨m', _, dA, od, t, hg, by rw [← h2]; unfold Obj.mapSeq; split <;> rfl, by rw [← h3]; unfold Obj.mapSeq; split <;> rfl, hd', other _ _ hne q5, q6, q7, ns_sm q8 fun o q => ⟨o, other _ _ hne q, .refl o⟩⟩ ((hf vs h5).car car)
theorem check_method {M : Model} {i owner n : String} {self : Value} {rest : List Value} {kw : List (Str × Value)} {Q : Unit → Shared → Prop}
    (hk : builtinKind i = some .method) (hs : splitId i = some (owner, n)) (hi : Looks M s.heap (isInstance self (.type owner)) true) (ha : argsOk i ⟨self :: rest, kw⟩) (q : Q () s) :
    wpAny M A (checkBuiltinCall i ⟨self :: rest, kw⟩) Q E s := by
  simp only [checkBuiltinCall, hk, hs]
  refine wpAny_bind (hi.here ?_)
  simp only [Bool.not_true, Bool.false_eq_true, if_false]
  cases hsig : Manifest.signature? i with
  | none => exact wpAny_pure q
  | some sig =>
    simp only [argsOk, hsig] at ha
    have h2 : Bind.checkArgs i sig ⟨self :: rest, kw⟩ = pure () := ha
    show wpAny M A (Bind.checkArgs i sig ⟨self :: rest, kw⟩) Q E s
    rw [h2]; exact wpAny_pure q
theorem acc_isList {x : Addr} {ox : Obj} {od : Option Obj} {h : Heap} (X : (Kf w).In h) (I : W.InstAt h x ox 207 od) : Looks (model pg w) h (isInstance (.ref x) (.type "list")) true := I.type.andThen (looks_mroIn X rfl)
-- a method of list, called on an accumulator
theorem call_accM {id nm : String} {B : Builtin} {x : Addr} {ox : Obj} {od : Option Obj} {rest : List Value} {S : PySem.Spec} {Q : Value → Shared → Prop} (X : (Kf w).In s.heap) (I : W.InstAt s.heap x ox 207 od) (hk : builtinKind id = some .method) (hs : splitId id = some ("list", nm))
    (plain : plainId id = true) (entry : entryFor table id = some B) (args : argsOk id ⟨.ref x :: rest, []⟩) (g : Meets (B ⟨.ref x :: rest, []⟩) S) (h : S A (wants Q E) s) :
    wpAny (model pg w) A (call (.builtin id) (.ref x :: rest)) Q E s :=
  wpAny_call (codeAny_call_builtin plain entry (check_method hk hs (acc_isList X I) args (g pg w A (wants Q E) s h)))
set_option tactic.hygienic true in
theorem FsW.appendA {k : Nat} {xs : List D} {d : D} (hσ : σ[k]? = some (.acc xs)) (hs : xs.length ≤ 1000000) : FsW w hb n (.builtin "list.append") [.own k, d] σ .none (σ.set k (.acc (xs ++ [d]))) := fun A s ad vals rm i o r => by
  obtain ⟨v, u, rfl, r1, r2⟩ := r.two
  obtain ⟨a, rfl, ha⟩ := r1.own'
  have hσ' := o.at' k a _ ha hσ
  cases hσ' with
  | acc hA h5 =>
    rename_i vs
    obtain ⟨dA, ox, od, t, m, I, _⟩ := hA.inst
    have hl := h5.length
    rw [Array.length_toList] at hl
    obtain ⟨kw, ow⟩ := own_updA (xs' := xs ++ [d]) (f := fun vs => vs.push u) i o ha hσ fun vs r => by rw [Array.toList_push]; exact r.append (.cons r2 .nil)
    refine call_accM (nm := "append") i.kin I.inst (by decide +kernel) (by decide +kernel) F.slot_list_append.plain F.entry_list_append (F.args_list_append_2 _ _) (m_append a vs m ox.cls ox.dict ox.slots u (sz (by lia))) ⟨?_, ad, kw, .refl, ow, .none⟩
    have := I.inst.at_
    rw [this]
    obtain ⟨c1, d1, dt, sl⟩ := ox
    have := I.data
    simp only at this
    subst this; rfl
-- push
theorem fc_push {k : Nat} {xs : List D} {d1 d2 : D} (hσ : σ[k]? = some (.acc xs)) (hs : xs.length ≤ 1000000) : FcW w hb (n + 1) (.ref 151) [.own k, d1, d2] σ .none (σ.set k (.acc (xs ++ [.tup [d1, d2]]))) := by
  refine FcW.of_def ["self", "fws", "string"] rfl rfl (fun L => ExsW.cons (ExW.expr (EvW.methA (Ev.name rfl) (.inr ⟨k, rfl, hσ⟩) (EvA.toW (EvA.plain (EvS.cons (Ev.tuple (EvS.cons (Ev.name rfl) (EvS.cons (Ev.name rfl) EvS.nil))) EvS.nil))) (FsW.appendA hσ hs) Kpr.blt (accName.mk (by decide)) rfl rfl)) ExsW.nil) (.inr ⟨rfl, _, rfl⟩) ?_
  exact len3 fun a b c => rfl
end
end Mine
end

section
open PySem PySem.W PySem.Calls PyProof.Rows PySem.SeqAt PySem.MeetsSeq Builtin.ObjectAttr
set_option Elab.async false
set_option tactic.hygienic false
set_option linter.unusedVariables false
set_option maxRecDepth 100000
namespace Mine
/-! super(), and the methods of list behind it -/
theorem slot_wd : Slot "wrapper_descriptor" "__get__" "wrapper_descriptor.__get__" := .of (owner := "wrapper_descriptor") (n := "__get__") (by rw [typeLookup_type, builtinLookup_eq_fast]; kernel_rfl) (by decide +kernel) (by decide +kernel) (by decide +kernel)
  (by first | exact .inl (by decide +kernel) | exact .inr (by decide +kernel)) (by rw [isSubtype_type]; kernel_rfl)
theorem slot_md : Slot "method_descriptor" "__get__" "method_descriptor.__get__" := .of (owner := "method_descriptor") (n := "__get__") (by rw [typeLookup_type, builtinLookup_eq_fast]; kernel_rfl) (by decide +kernel) (by decide +kernel) (by decide +kernel)
  (by first | exact .inl (by decide +kernel) | exact .inr (by decide +kernel)) (by rw [isSubtype_type]; kernel_rfl)
theorem entry_wd : entryFor table "wrapper_descriptor.__get__" = some Builtin.«wrapper_descriptor.__get__» := entryFor_of_tree (by kernel_rfl)
theorem entry_md : entryFor table "method_descriptor.__get__" = some Builtin.«method_descriptor.__get__» := entryFor_of_tree (by kernel_rfl)
theorem args_wd (a b c : Value) : argsOk "wrapper_descriptor.__get__" ⟨[a, b, c], []⟩ := by unfold argsOk; kernel_rfl
theorem args_md (a b c : Value) : argsOk "method_descriptor.__get__" ⟨[a, b, c], []⟩ := by unfold argsOk; kernel_rfl
noncomputable abbrev boundB (T : String) (id : String) (x : Addr) : Obj := { cls := .type T, data := .fields #[.builtin id, .ref x] }
section
variable {w : World} {hb : Heap} {n : Nat} {A : Around} {env : Env} {ls ls' : List (Str × D)} {σ σ' σ'' τ : List Ob} {ad ad' ad'' : List Addr} {s s' s'' : Shared} {E : Value → Shared → Prop} {X Y : List Addr}
theorem own_len : (".".intercalate ("list.__len__".cutAt '.').dropLast) = "list" := by decide +kernel
theorem own_init : (".".intercalate ("list.__init__".cutAt '.').dropLast) = "list" := by decide +kernel
theorem own_pop : (".".intercalate ("list.pop".cutAt '.').dropLast) = "list" := by decide +kernel
theorem get_len {x : Addr} {ox : Obj} {od : Option Obj} {R : Result → Shared → Prop} (X : (Kf w).In s.heap) (I : W.InstAt s.heap x ox 207 od)
    (hR : R (.ok (.ret (.ref s.heap.objs.size))) { s with heap := s.heap.push (boundB "method-wrapper" "list.__len__" x) }) : codeAny (model pg w) A (.call (.builtin "wrapper_descriptor.__get__") ⟨[.builtin "list.__len__", .ref x, .ref 207], []⟩) R s := by
  obtain ⟨hh, g, d, t, os⟩ := s
  have ht : typeOf (.builtin "list.__len__") = pure (.type "wrapper_descriptor") := by show builtinType _ = _; rw [builtinType_eq_fast]; kernel_rfl
  refine codeAny_call_builtin slot_wd.plain entry_wd (slot_wd.check _ _ _ _ _ _ _ _ (show (⟨hh, g, d, t, os⟩ : Shared).TypeIs (.builtin "list.__len__") "wrapper_descriptor" from ht) (args_wd _ _ _) ?_)
  have L0 := I.type (M := model pg w)
  have L1 : Looks (model pg w) hh (isSubtype (.ref 207) (.type (".".intercalate ("list.__len__".cutAt '.').dropLast))) true := by rw [own_len]; exact looks_mroIn X rfl
  dsimp only at L0
  unfold Builtin.«wrapper_descriptor.__get__»
  repeat lk
  exact hR
theorem get_init {x : Addr} {ox : Obj} {od : Option Obj} {R : Result → Shared → Prop} (X : (Kf w).In s.heap) (I : W.InstAt s.heap x ox 207 od)
    (hR : R (.ok (.ret (.ref s.heap.objs.size))) { s with heap := s.heap.push (boundB "method-wrapper" "list.__init__" x) }) : codeAny (model pg w) A (.call (.builtin "wrapper_descriptor.__get__") ⟨[.builtin "list.__init__", .ref x, .ref 207], []⟩) R s := by
  obtain ⟨hh, g, d, t, os⟩ := s
  have ht : typeOf (.builtin "list.__init__") = pure (.type "wrapper_descriptor") := by show builtinType _ = _; rw [builtinType_eq_fast]; kernel_rfl
  refine codeAny_call_builtin slot_wd.plain entry_wd (slot_wd.check _ _ _ _ _ _ _ _ (show (⟨hh, g, d, t, os⟩ : Shared).TypeIs (.builtin "list.__init__") "wrapper_descriptor" from ht) (args_wd _ _ _) ?_)
  have L0 := I.type (M := model pg w)
  have L1 : Looks (model pg w) hh (isSubtype (.ref 207) (.type (".".intercalate ("list.__init__".cutAt '.').dropLast))) true := by rw [own_init]; exact looks_mroIn X rfl
  dsimp only at L0
  unfold Builtin.«wrapper_descriptor.__get__»
  repeat lk
  exact hR
theorem get_pop {x : Addr} {ox : Obj} {od : Option Obj} {R : Result → Shared → Prop} (X : (Kf w).In s.heap) (I : W.InstAt s.heap x ox 207 od)
    (hR : R (.ok (.ret (.ref s.heap.objs.size))) { s with heap := s.heap.push (boundB "builtin_function_or_method" "list.pop" x) }) : codeAny (model pg w) A (.call (.builtin "method_descriptor.__get__") ⟨[.builtin "list.pop", .ref x, .ref 207], []⟩) R s := by
  obtain ⟨hh, g, d, t, os⟩ := s
  have ht : typeOf (.builtin "list.pop") = pure (.type "method_descriptor") := by show builtinType _ = _; rw [builtinType_eq_fast]; kernel_rfl
  refine codeAny_call_builtin slot_md.plain entry_md (slot_md.check _ _ _ _ _ _ _ _ (show (⟨hh, g, d, t, os⟩ : Shared).TypeIs (.builtin "list.pop") "method_descriptor" from ht) (args_md _ _ _) ?_)
  have L0 := I.type (M := model pg w)
  have L1 : Looks (model pg w) hh (isSubtype (.ref 207) (.type (".".intercalate ("list.pop".cutAt '.').dropLast))) true := by rw [own_pop]; exact looks_mroIn X rfl
  have told : Manifest.toldItsClass.contains "list.pop" = false := by decide +kernel
  dsimp only at L0
  unfold Builtin.«method_descriptor.__get__»
  repeat (first | (with_reducible rw [told]) | lk)
  exact hR
-- a built-in's own __get__, of an accumulator
noncomputable def GetsB (w : World) (x : Addr) (id g B : String) : Prop := ∀ (A : Around) (s : Shared) (ox : Obj) (od : Option Obj) (R : Result → Shared → Prop), (Kf w).In s.heap → W.InstAt s.heap x ox 207 od →
  R (.ok (.ret (.ref s.heap.objs.size))) { s with heap := s.heap.push (boundB B id x) } → codeAny (model pg w) A (.call (.builtin g) ⟨[.builtin id, .ref x, .ref 207], []⟩) R s
theorem super_ga {so x : Addr} {ox : Obj} {od : Option Obj} {id T g B : String} {name : Str} {tk : Tok} {Q : Fin → Shared → Prop} (hso : s.heap.get? so = some (ks_superObj 207 x 207)) (X : (Kf w).In s.heap) (I : W.InstAt s.heap x ox 207 od)
    (hf : alongIn (Kf w) name [.type "list", .type "object"] = some (some (.builtin id))) (ht : typeOf (.builtin id) = pure (.type T)) (hlk : typeLookup (.type T) "__get__" = pure (some (.builtin g))) (hn : (name == ("__class__" : Str)) = false)
    (hg : GetsB w x id g B) (hq : Q (.done (.ret (.ref s.heap.objs.size))) { s with heap := s.heap.push (boundB B id x) }) :
    wpAny (model pg w) A (Builtin.«super.__getattribute__» ⟨[.ref so, .str name tk], []⟩) Q E s := by
  obtain ⟨h, g', d, t, os⟩ := s
  have hno := looks_opaque (M := model pg w) (C := 207) X rfl
  have hC : Looks (model pg w) h (mroOf (.ref 207)) [.ref 207, .type "list", .type "object"] := (looks_clsIn X (cd := _) rfl).andThen .now
  have hl : (([.ref 207, .type "list", .type "object"] : List Value).dropWhile (· != .ref 207)).drop 1 = [.type "list", .type "object"] := by decide +kernel
  have hxne : x ≠ 207 := fun q => by
    have e := X 207 _ rfl
    have := I.at_
    (first | exact nSg q e this | cases sEg q e this | (rw [q, e] at this; cases this))
    exact Bool.noConfusion I.no
  have hne : (Value.ref x == Value.ref 207) = false := by simp [hxne]
  have hdt : (ks_superObj 207 x 207).data = .fields #[.ref 207, .ref x, .ref 207] := rfl
  have f0 : (#[.ref 207, .ref x, .ref 207] : Array Value)[0]? = some (.ref 207) := rfl
  have f1 : (#[.ref 207, .ref x, .ref 207] : Array Value)[1]? = some (.ref x) := rfl
  have f2 : (#[.ref 207, .ref x, .ref 207] : Array Value)[2]? = some (.ref 207) := rfl
  unfold Builtin.«super.__getattribute__»
  repeat (first
    | (with_reducible refine wpAny_field hso hdt f0 ?_) | (with_reducible refine wpAny_field hso hdt f1 ?_) | (with_reducible refine wpAny_field hso hdt f2 ?_)
    | (with_reducible refine ks_wpAny_notOpaque hno ?_)
    | (with_reducible refine Looks.at hC ?_; rw [hl])
    | (refine ks_forIn_along X (fun _ _ => rfl) rfl ?_ hf)
    | (with_reducible refine wpAny_of_eq ht ?_)
    | (with_reducible refine wpAny_of_eq hlk ?_)
    | (with_reducible refine wpAny_call (hg _ _ _ _ _ X I ?_))
    | (simp only [hn, hne, Bool.or_false, Bool.false_eq_true, if_false])
    | wp_step
    | dsimp only)
  all_goals exact hg _ _ _ _ _ X I (wpAny_bind (wpAny_pure (wpAny_pure (wpAny_pure hq))))
theorem super_method {so x : Addr} {ox : Obj} {od : Option Obj} {id T g B : String} {name : Str} {pl : Sem Bool} {Q : Value × List Value → Shared → Prop} (hso : s.heap.get? so = some (ks_superObj 207 x 207)) (X : (Kf w).In s.heap) (I : W.InstAt s.heap x ox 207 od)
    (hf : alongIn (Kf w) name [.type "list", .type "object"] = some (some (.builtin id))) (ht : typeOf (.builtin id) = pure (.type T)) (hlk : typeLookup (.type T) "__get__" = pure (some (.builtin g))) (hn : (name == ("__class__" : Str)) = false)
    (hg : GetsB w x id g B) (hq : Q (.ref s.heap.objs.size, []) { s with heap := s.heap.push (boundB B id x), toks := s.toks + 1 }) :
    wpAny (model pg w) A (getMethod (.ref so) name pl) Q E s := by
  have hlk' := F.ks_slot_super_ga.lookup
  have hcan := F.ks_canon_super_ga
  have hT : s.TypeIs (.ref so) "super" := ⟨_, hso, rfl⟩
  have hT' : ({ s with toks := s.toks + 1 } : Shared).TypeIs (.ref so) "super" := ⟨_, hso, rfl⟩
  unfold getMethod
  refine wpAny_bind (wpAny_specialOf hT hlk' ?_)
  show wpAny _ _ (if (Manifest.canonical "super.__getattribute__" != "object.__getattribute__") = true then _ else _) _ _ _
  rw [if_pos hcan]
  unfold getAttr getAttrBy
  refine wpAny_bind (wpAny_bind (wpAny_mkText (wpAny_holding (wpAny_bind (wpAny_typeOf hT' (wpAny_bind (wpAny_of_eq hlk' ?_)))))))
  show wpAny _ _ (getAttrByItsOwn (.ref so) (.str name s.toks) (.type "super") (.builtin "super.__getattribute__") true false) _ _ _
  unfold getAttrByItsOwn hookBefore callGetattribute boundAndCalled
  refine wpAny_bind (wpAny_of_eq (show (if onTheHeap (.type "super") then typeLookup (.type "super") "__getattr__" else pure none) = pure none from rfl) ?_)
  refine wpAny_bind (wpAny_attempt (wpAny_holding ?_))
  show wpAny _ _ (bindSpecial (.builtin "super.__getattribute__") (.ref so) >>= _) _ _ _
  refine wpAny_bind (wpAny_of_eq (F.ks_slot_super_ga.bind _) ?_)
  refine wpAny_mono (Q := fun v s' => v = .ref s.heap.objs.size ∧ s' = { s with heap := s.heap.push (boundB B id x), toks := s.toks + 1 }) (E := fun _ _ => False)
    (wpAny_call_entry F.ks_slot_super_ga hT' F.ks_entry_super_ga (super_ga (s := { s with toks := s.toks + 1 }) hso X I hf ht hlk hn hg ⟨_, rfl, rfl, rfl⟩) (F.ks_gaArgs_super _ _)) (fun v s' hv => ?_) fun _ _ z => z.elim
  obtain ⟨rfl, rfl⟩ := hv
  exact wpAny_pure (wpAny_pure hq)
-- calling what is bound so
theorem call_boundB {m x : Addr} {id B : String} {Bi : Builtin} {S : PySem.Spec} {Q : Value → Shared → Prop} (hm : s.heap.get? m = some (boundB B id x)) (hB : B = "method-wrapper" ∨ B = "builtin_function_or_method")
    (hc : ∀ (A : Around) (Q : Unit → Shared → Prop) (E : Value → Shared → Prop), Q () s → wpAny (model pg w) A (checkBoundCall id ⟨[.ref x], []⟩) Q E s)
    (entry : entryFor table id = some Bi) (plain : plainId id = true) (g : Meets (Bi ⟨[.ref x], []⟩) S) (h : S A (wants Q E) s) : wpAny (model pg w) A (call (.ref m) []) Q E s := by
  refine wpAny_call (codeAny_of_tree ?_)
  show wpAny _ _ (callAny (.ref m) _) _ _ _
  unfold callAny
  refine wpAny_bind (wpAny_load hm ?_)
  have fin : wpAny (model pg w) (A.under (.call (.ref m) ⟨[], []⟩)) (checkBoundCall id ⟨[.ref x], []⟩ >>= fun _ => again (.builtin id ⟨[.ref x], []⟩)) (fun fin s' => match fin with | .done f => wants Q E (.ok f) s' | .again c' => c'.quiet = true ∧ codeAny (model pg w) A c' (wants Q E) s') (fun e s' => wants Q E (.error e) s') s :=
    wpAny_bind (hc _ _ _ (wpAny_pure ⟨plainId_quiet plain _, codeAny_builtin entry (by rw [Around.under_plainId plain _]; exact g pg w A (wants Q E) s h)⟩))
  rcases hB with rfl | rfl
  · exact fin
  · exact fin
theorem keeps_B {m x : Addr} {id B : String} (hB : B = "method-wrapper" ∨ B = "builtin_function_or_method") (h : Heap) (hm : h.get? m = some (boundB B id x)) : ∃ k, (k = Keeper.frame ∨ k = Keeper.machine ∨ k = Keeper.boundFrame) ∧ Looks (model pg w) h (keeperOf (.ref m)) k := by
  refine ⟨.machine, .inr (.inl rfl), (Looks.ld (part := none) hm).andThen ?_⟩
  rcases hB with rfl | rfl <;> exact .now
end
end Mine
end

section
open PySem PySem.W PySem.Calls PyProof.Rows PySem.SeqAt PySem.MeetsSeq Builtin.ObjectAttr
set_option Elab.async false
set_option tactic.hygienic false
set_option linter.unusedVariables false
set_option maxRecDepth 100000
namespace Mine
section
variable {w : World} {hb : Heap} {n : Nat} {A : Around} {env : Env} {ls ls' : List (Str × D)} {σ σ' σ'' τ : List Ob} {ad ad' ad'' : List Addr} {s s' s'' : Shared} {E : Value → Shared → Prop} {X Y : List Addr}
-- a method's own frame, seen from super()
structure SupEnv (w : World) (env : Env) : Prop where
  ks : env.kindOf "super" = some .globalImplicit
  kc : env.kindOf "__class__" = some .free
  cl : env.cells.lookup ("__class__" : Str) = some 131
  fn : ∃ f oc od fd osl ar cc ox odx vs slx file tf, env.func = some f ∧ (Kf w).lookup f = some ⟨oc, od, .func fd, osl⟩ ∧ (fd.params.posonlyargs ++ fd.params.args).head? = some ar ∧ ar.arg = "self" ∧ env.code = .ref cc ∧
    (Kf w).lookup cc = some ⟨ox, odx, .fields vs, slx⟩ ∧ vs[2]? = some (.str file tf) ∧ (pg.main.file == file) = true
theorem super_baseP {body : List Stmt} {p0 p1 : Pos} {attr : Str} {whole : Sem Value} {d0 : D} {xs : List D} {Q : Value → Shared → Prop} {P : Value → Prop} (S : SupEnv w env) (c : Cs w hb n A env ls σ ad s) (hself : ls.lookup ("self" : Str) = some d0) (hA : IsA σ d0 xs) (hP : ∀ v, Sees env s.heap "self" v → P v) (hat : (attr == ("__class__" : Str)) = false)
    (h : ∀ so x s', Keeps s s' → s'.heap.get? so = some (ks_superObj 207 x 207) → Rd s'.heap ad (.ref x) d0 → P (.ref x) → Q (.ref so) s') :
    PySem.wpAt (model pg w) A (.func body env) (attributeBase (.Call (.Name "super" p0) [] [] p1) attr env whole) Q E s := by
  obtain ⟨ks, kc, cl, f, oc, od, fd, osl, ar, cc, ox, odx, vs, slx, file, tf, hfu, hf, hp, har, hco, hcc, hvs, hfile⟩ := S
  have X := c.cx.kin
  refine ks_wpAt_super_base ks kc hat hfu (X _ _ hf) rfl hp hco (X _ _ hcc) rfl hvs hfile (by decide +kernel) ?_
  obtain ⟨mg, hg⟩ := glob_ns X
  obtain ⟨mb, hm, hq⟩ := c.cx.inv.blt
  refine ks_loadName_global c.cx.st.kind ks (loadGlobal_builtin (c.cx.st.glo ▸ hg) (mg_none_of X hg rfl) (c.cx.st.bui ▸ hm) ((hq _ (by decide)).trans Boot.super) ⟨rfl, ?_⟩)
  obtain ⟨oc1, hc1, hd1⟩ : ∃ oc1, (Kf w).lookup 131 = some oc1 ∧ oc1.data = .cell (some (.ref 207)) := ⟨_, rfl, rfl⟩
  refine wpAny_loadName_free c.cx.st.kind kc cl ⟨oc1, X _ _ hc1, hd1⟩ ?_
  rw [har]
  obtain ⟨v, z, r⟩ := c.cx.st.nm "self" d0 hself
  have hPv := hP v z
  obtain ⟨x, vsx, rfl, at', r'⟩ := r.isA hA c.cx.st.own
  obtain ⟨dA, ox, od', t, m, I, _⟩ := at'.inst
  obtain ⟨oD, hD, cdD, hDt⟩ : ∃ oD, (Kf w).lookup 207 = some oD ∧ ∃ cdD, oD.data = .cls cdD := ⟨_, rfl, _, rfl⟩
  have fin : wpAny (model pg w) A (isType (.ref 207)) (fun b s₄ => b = true ∧ wpAny (model pg w) A (call (.type "super") [.ref 207, .ref x]) Q E s₄) E s := by
    obtain ⟨hh, g, d, t, os⟩ := s
    refine ks_wpAny_isType_cls (X _ _ hD) hDt ⟨rfl, ?_⟩
    refine ks_wpAny_call_super (X _ _ hD) hDt I.inst.at_ I.inst.cls (fun c e => ?_) (looks_mroIn X rfl) (fun h' e k => ?_)
    · (first | exact nS I.data e | exact nS e I.data | exact nD I.data e | exact nD e I.data | cases sE I.data e | (rw [I.data] at e; cases e))
    · exact h _ x _ (kOfh k) e (r.keeps (.of k)) hPv
  rcases z with ⟨a, m', b, e⟩ | ⟨a, cl', b, e⟩
  · exact wpAny_loadName_local c.cx.st.kind a b e fin
  · rcases a with a | ⟨a, a'⟩
    · exact wpAny_loadName_cell c.cx.st.kind a b e fin
    · exact wpAny_loadName_free c.cx.st.kind a b e fin a'
-- super().NAME() of list's own NAME
theorem super_callP {body : List Stmt} {p0 p1 apos pos : Pos} {name : Str} {d0 : D} {xs : List D} {Q : Value → Shared → Prop} {P : Value → Prop} {id T g B : String} {Bi : Builtin} (S : SupEnv w env) (c : Cs w hb n A env ls σ ad s) (hself : ls.lookup ("self" : Str) = some d0) (hA : IsA σ d0 xs) (hP : ∀ v, Sees env s.heap "self" v → P v) (hat : (name == ("__class__" : Str)) = false)
    (hf : alongIn (Kf w) name [.type "list", .type "object"] = some (some (.builtin id))) (ht : typeOf (.builtin id) = pure (.type T)) (hlk : typeLookup (.type T) "__get__" = pure (some (.builtin g)))
    (hg : ∀ x, GetsB w x id g B) (hB : B = "method-wrapper" ∨ B = "builtin_function_or_method")
    (hc : ∀ (x : Addr) (s : Shared) (ox : Obj) (od : Option Obj) (A : Around) (Q : Unit → Shared → Prop) (E : Value → Shared → Prop), (Kf w).In s.heap → W.InstAt s.heap x ox 207 od → Q () s → wpAny (model pg w) A (checkBoundCall id ⟨[.ref x], []⟩) Q E s)
    (entry : entryFor table id = some Bi) (plain : plainId id = true)
    (h : ∀ x s', Keeps s s' → Rd s'.heap ad (.ref x) d0 → P (.ref x) → ∃ S : PySem.Spec, Meets (Bi ⟨[.ref x], []⟩) S ∧ S A (wants Q E) s')
    (he : autoParam (eval (.Call (.Attribute (.Call (.Name "super" p0) [] [] p1) name apos) [] [] pos) env = (do
      let ov ← attributeBase (.Call (.Name "super" p0) [] [] p1) name env (eval (.Call (.Name "super" p0) [] [] p1) env)
      standAt apos.atName
      let (f, first) ← holding [ov] (getMethod ov name (do return (← importBound (.Call (.Name "super" p0) [] [] p1) env).getD true))
      callWith pos f first (backTo pos (starEach [] env)) [])) Mine.auR) :
    PySem.wpAt (model pg w) A (.func body env) (eval (.Call (.Attribute (.Call (.Name "super" p0) [] [] p1) name apos) [] [] pos) env) Q E s := by
  refine ks_wpAt_MethodCall (super_baseP S c hself hA hP hat fun so x s1 k1 hso r1 hPx => ?_) he
  have c1 := c.keeps k1
  obtain ⟨x', vs, q, at', r'⟩ := r1.isA hA c1.cx.st.own
  cases q
  obtain ⟨dA, ox, od, t, m, I, _⟩ := at'.inst
  refine super_method hso c1.cx.kin I.inst hf ht hlk hat (hg x) ?_
  have k2 : Keeps s1 { s1 with heap := s1.heap.push (boundB B id x), toks := s1.toks + 1 } := kTrans (kPush s1 _) (kToks _ _)
  have hm : ({ s1 with heap := s1.heap.push (boundB B id x), toks := s1.toks + 1 } : Shared).heap.get? s1.heap.objs.size = some (boundB B id x) := Heap.get?_push_size _ rfl
  have c2 := c1.keeps k2
  obtain ⟨S', g', q'⟩ := h x _ (kTrans k1 k2) (r1.keeps (kHeap k2)) hPx
  refine callWith_of (P := fun h => h.get? s1.heap.objs.size = some (boundB B id x)) rfl (keeps_B hB) (evalArgs_nil3 ⟨hm, ?_⟩)
  refine call_boundB hm hB (fun A Q E q => ?_) entry plain g' q'
  exact hc x _ ox (some od) A Q E c2.cx.kin (I.keeps (kHeap k2)).inst q
theorem super_call {body : List Stmt} {p0 p1 apos pos : Pos} {name : Str} {d0 : D} {xs : List D} {Q : Value → Shared → Prop} {id T g B : String} {Bi : Builtin} (S : SupEnv w env) (c : Cs w hb n A env ls σ ad s) (hself : ls.lookup ("self" : Str) = some d0) (hA : IsA σ d0 xs) (hat : (name == ("__class__" : Str)) = false)
    (hf : alongIn (Kf w) name [.type "list", .type "object"] = some (some (.builtin id))) (ht : typeOf (.builtin id) = pure (.type T)) (hlk : typeLookup (.type T) "__get__" = pure (some (.builtin g)))
    (hg : ∀ x, GetsB w x id g B) (hB : B = "method-wrapper" ∨ B = "builtin_function_or_method")
    (hc : ∀ (x : Addr) (s : Shared) (ox : Obj) (od : Option Obj) (A : Around) (Q : Unit → Shared → Prop) (E : Value → Shared → Prop), (Kf w).In s.heap → W.InstAt s.heap x ox 207 od → Q () s → wpAny (model pg w) A (checkBoundCall id ⟨[.ref x], []⟩) Q E s)
    (entry : entryFor table id = some Bi) (plain : plainId id = true)
    (h : ∀ x s', Keeps s s' → Rd s'.heap ad (.ref x) d0 → ∃ S : PySem.Spec, Meets (Bi ⟨[.ref x], []⟩) S ∧ S A (wants Q E) s')
    (he : autoParam (eval (.Call (.Attribute (.Call (.Name "super" p0) [] [] p1) name apos) [] [] pos) env = (do
      let ov ← attributeBase (.Call (.Name "super" p0) [] [] p1) name env (eval (.Call (.Name "super" p0) [] [] p1) env)
      standAt apos.atName
      let (f, first) ← holding [ov] (getMethod ov name (do return (← importBound (.Call (.Name "super" p0) [] [] p1) env).getD true))
      callWith pos f first (backTo pos (starEach [] env)) [])) Mine.auR) :
    PySem.wpAt (model pg w) A (.func body env) (eval (.Call (.Attribute (.Call (.Name "super" p0) [] [] p1) name apos) [] [] pos) env) Q E s :=
  super_callP (P := fun _ => True) S c hself hA (fun _ _ => trivial) hat hf ht hlk hg hB hc entry plain (fun x s' k r _ => h x s' k r) he
end
end Mine
end

section
open PySem PySem.W PySem.Calls PyProof.Rows PySem.SeqAt PySem.MeetsSeq Builtin.ObjectAttr
set_option Elab.async false
set_option tactic.hygienic false
set_option linter.unusedVariables false
set_option maxRecDepth 100000
namespace Mine
section
variable {w : World} {hb : Heap} {n : Nat} {A : Around} {env : Env} {ls ls' : List (Str × D)} {σ σ' σ'' τ : List Ob} {ad ad' ad'' : List Addr} {s s' s'' : Shared} {E : Value → Shared → Prop} {X Y : List Addr}
-- into a method with a closure
theorem enterAt {f : Addr} {fd : FuncData} {oc : Value} {od : Option Addr} {osl : Array (Option Value)} {body : List Stmt} {args args' : List D} {vals : List Value} {R : Result → Shared → Prop} (names : List Str)
    (hk : (Kf w).lookup f = some ⟨oc, od, .func fd, osl⟩) (hbody : fd.body = .stmts body) (hbind : Bnd w hb fd args names args') 
    (rm : Rm hb (n + 1) A s.heap) (i : Inv w hb s) (o : Own hb σ ad s.heap) (r : RdAll s.heap ad vals args)
    (h : ∀ L s₁, Keeps s s₁ → Cs w hb n (A.deeper (callEnv fd L f)) (callEnv fd L f) (names.zip args') σ ad s₁ → (∀ b ∈ fx (callEnv fd L f), s.heap.get? b = none) →
      PySem.wpAt (model pg w) (A.deeper (callEnv fd L f)) (.func body (callEnv fd L f)) (execs body (callEnv fd L f)) (fun fl s' => R (.ok (.ret (match fl with | .ret v => v | _ => .none))) s') (fun _ _ => False) s₁)
    (hclo : ∀ nm c, (nm, c) ∈ fd.closure → ∃ ob v, (Kf w).lookup c = some ob ∧ ob.data = .cell v) (hap : fd.closure.Pairwise fun x y => x.2 ≠ y.2)
    (hlen : autoParam (names.length = args'.length) Mine.auR) (hcd : autoParam (codeIn (Kf w) fd.code fd.qualname = true) Mine.auR)
    (hg : autoParam (fd.globals = mainGlobals) Mine.auR) (hbu : autoParam (fd.builtins = builtinsNs) Mine.auR) (hkf : autoParam (fd.scope.kind = .function) Mine.auR)
    (hnd : autoParam (names.Nodup) Mine.auD) (hkin' : autoParam ((fd.scope.names.lookup ("_initial_size" : Str) == some .local) = false) Mine.auR)
    (hkind' : autoParam ((names.all fun y => fd.scope.names.lookup y == some .local) = true) Mine.auR) (hno : autoParam (∀ x ∈ fd.scope.names, x.2 ≠ .cell) Mine.auD)
    (hco : autoParam (fd.scope.isCoroutine = false) Mine.auR) (hgen : autoParam (fd.scope.isGenerator = false) Mine.auR) :
    codeAny (model pg w) A (.call (.ref f) ⟨vals, []⟩) R s := by
  have hkin : fd.scope.names.lookup ("_initial_size" : Str) ≠ some .local := fun q => by (first | exact nS q hkin' | exact nS hkin' q | exact nD q hkin' | exact nD hkin' q | cases sE q hkin' | (rw [q] at hkin'; cases hkin'))
  have hkind : ∀ x ∈ names, fd.scope.names.lookup x = some .local := fun x hx => by simpa using List.all_eq_true.mp hkind' x hx
  refine codeAny_call_function (by have := rm.depth; show A.depth < 1000; lia) (i.kin _ _ hk) rfl hco hgen hbody (codeRec_of i.kin hcd) ?_
  refine wpAny_mono (hbind A.in1 s σ ad vals i o r) (fun binds s0 q => ?_) fun _ _ f => f.elim
  obtain ⟨vals', rfl, k0, r0⟩ := q
  have hl : names.length = vals'.length := by rw [hlen, r0.length]
  have hmap : (names.zip vals').map (·.1) = names := by rw [List.map_fst_zip]; lia
  have i0 := i.keeps k0
  have o0 := o.keeps (kHeap k0)
  have rm0 := rm.keeps (kHeap k0)
  refine wpAny_newFunctionEnv hno (fun x hx => hkind x.1 (by rw [← hmap]; exact List.mem_map_of_mem hx)) (fun h₁ hn hsb => ?_) hkf
  have kk : ∀ b o, s0.heap.get? b = some o → h₁.get? b = some o := fun b ob e => hsb.extBut b ob (Nat.ne_of_lt (Heap.lt_size e)) (Heap.get?_push_of_some _ e)
  have c1 := enter_okC (f := f) (tk := s0.toks + (names.zip vals').length) rm0 i0 o0 r0 hg hbu hkf hnd hl hkin hkind hno hclo hap _ rfl hn kk
  refine ⟨c1.cx.inv.lim, ks_codeAny_funcAt (ks_wpAt_mono (h s0.heap.objs.size _ (kTrans k0 (kOf kk)) c1 fun b hm => ?_) (fun _ _ q => q) fun _ _ f => f.elim)⟩
  rcases mem_fx hm with q | ⟨nm, q1, q2⟩
  · have q' : @Eq Nat b s0.heap.objs.size := q
    rw [show b = s0.heap.objs.size from q]
    exact k0.heap.fresh i.tab (fresh_none s0)
  · have := mem_of_lookup q2
    exact absurd rfl (hno _ this)
theorem Bnd.plain {fd : FuncData} {names : List Str} {args : List D} (hlen : args.length = names.length) (hb1 : ∀ vals : List Value, vals.length = names.length → bindArgs fd ⟨vals, []⟩ = pure (names.zip vals)) : Bnd w hb fd args names args := fun A s σ ad vals i o r => by
  rw [hb1 vals (by rw [r.length, hlen])]
  exact wpAny_pure ⟨vals, rfl, kRefl s, r⟩
theorem clo_ok {c : Addr} (hc : c = 131) : ∀ nm a, (nm, a) ∈ ([("__class__", c)] : List (Str × Addr)) → ∃ ob v, (Kf w).lookup a = some ob ∧ ob.data = .cell v := fun nm a hm => by
  subst hc
  simp only [List.mem_singleton, Prod.mk.injEq] at hm
  obtain ⟨_, rfl⟩ := hm
  exact ⟨_, _, rfl, rfl⟩
theorem supEnv204 (L : Addr) : ∃ fd oc od osl, (Kf w).lookup 204 = some ⟨oc, od, .func fd, osl⟩ ∧ SupEnv w (callEnv fd L 204) := 
  ⟨_, _, _, _, rfl, ⟨rfl, rfl, rfl, _, _, _, _, _, _, _, _, _, _, _, _, _, rfl, rfl, rfl, rfl, rfl, rfl, rfl, by decide +kernel⟩⟩
theorem entry_llen : entryFor table "list.__len__" = some Builtin.«list.__len__» := entryFor_of_tree (by kernel_rfl)
-- len of a list, by the model's own
theorem m_len (l : Addr) (items : Array Value) (n : Nat) (cls : Value) (dct : Option Addr) (sl : Array (Option Value)) (hsz : items.size ≤ sizeLine) :
    Meets (Builtin.«list.__len__» ⟨[.ref l], []⟩) (fun _ R s => s.heap.get? l = some (SeqObj cls dct sl items n) ∧ R (.ok (.ret (.int items.size s.toks))) { s with toks := s.toks + 1 }) :=
  .of_wp fun prog w A R s h => by
    obtain ⟨hp, g, d, tk, os⟩ := s; obtain ⟨hl, h⟩ := h
    wp_walk using wpAny_loadPart' hl
    exact ⟨_, rfl, h⟩
end
end Mine
end

section
open PySem PySem.W PySem.Calls PyProof.Rows PySem.SeqAt PySem.MeetsSeq Builtin.ObjectAttr
set_option Elab.async false
set_option tactic.hygienic false
set_option linter.unusedVariables false
set_option maxRecDepth 100000
namespace Mine
section
variable {w : World} {hb : Heap} {n : Nat} {A : Around} {env : Env} {ls ls' : List (Str × D)} {σ σ' σ'' τ : List Ob} {ad ad' ad'' : List Addr} {s s' s'' : Shared} {E : Value → Shared → Prop} {X Y : List Addr}
theorem len_bound {x : Addr} {ox : Obj} {od : Option Obj} {Q : Unit → Shared → Prop} (X : (Kf w).In s.heap) (I : W.InstAt s.heap x ox 207 od) (q : Q () s) : wpAny (model pg w) A (checkBoundCall "list.__len__" ⟨[.ref x], []⟩) Q E s := by
  have : checkBoundCall "list.__len__" ⟨[.ref x], []⟩ = pure () := by kernel_rfl
  rw [this]; exact wpAny_pure q
theorem seqObj_of {h : Heap} {x dA : Addr} {ox od : Obj} {t : Tok} {vs : Array Value} {m : Nat} (I : AccI h x dA ox od t vs m) : h.get? x = some (SeqObj ox.cls ox.dict ox.slots vs m) := by
  have := I.inst.at_
  rw [this]
  obtain ⟨c1, d1, dt, sl⟩ := ox
  have := I.data
  simp only at this
  subst this; rfl
theorem sup204 {oc : Value} {od : Option Addr} {fd : FuncData} {osl : Array (Option Value)} {L : Addr} (hk : (Kf w).lookup 204 = some ⟨oc, od, .func fd, osl⟩) : SupEnv w (callEnv fd L 204) := by
  obtain ⟨fd', oc', od', osl', h1, h2⟩ := supEnv204 (w := w) L
  (first | exact nS h1 hk | exact nS hk h1 | exact nD h1 hk | exact nD hk h1 | cases sE h1 hk | (rw [h1] at hk; cases hk)); exact h2
theorem fs_part_count {d : D} {xs : List D} (hA : IsA σ d xs) (hs : xs.length ≤ 1000000) : Fs w hb (n + 1) (.ref 204) [d] σ (.int xs.length) := fun A s ad vals rm i o r => by
  refine wpAny_call (enterAt ["self"] rfl rfl (Bnd.plain rfl ?_) rm i o r (fun L s₁ k1 c1 hnew => ?_) (clo_ok rfl) (by simp))
  · exact len1 fun a => rfl
  · refine ks_wpAt_execs_cons (ks_wpAt_Return_some (super_call (B := "method-wrapper") (id := "list.__len__") (sup204 rfl) c1 rfl hA rfl rfl (by show builtinType _ = _; rw [builtinType_eq_fast]; kernel_rfl) slot_wd.lookup (fun x A s ox od R X I hR => get_len X I hR) (.inl rfl)
      (fun x s ox od A Q E X I q => len_bound X I q) entry_llen (by decide +kernel) fun x s2 k2 r2 => ?_))
    have c2 := c1.keeps k2
    obtain ⟨x', vs, q, at', r'⟩ := r2.isA hA c2.cx.st.own
    cases q
    obtain ⟨dA, ox, od, t, m, I, _⟩ := at'.inst
    have hl := r'.length
    rw [Array.length_toList] at hl
    refine ⟨_, m_len x vs m ox.cls ox.dict ox.slots (sz (by lia)), seqObj_of I, kTrans k1 (kTrans k2 (kToks _ _)), ?_⟩
    rw [hl]
    exact .int _ _
end
end Mine
end

section
open PySem PySem.W PySem.Calls PyProof.Rows PySem.SeqAt PySem.MeetsSeq Builtin.ObjectAttr
set_option Elab.async false
set_option tactic.hygienic false
set_option linter.unusedVariables false
set_option maxRecDepth 100000
namespace Mine
section
variable {w : World} {hb : Heap} {n : Nat} {A : Around} {env : Env} {ls ls' : List (Str × D)} {σ σ' σ'' τ : List Ob} {ad ad' ad'' : List Addr} {s s' s'' : Shared} {E : Value → Shared → Prop} {X Y : List Addr}
theorem entry_lpop : entryFor table "list.pop" = some Builtin.«list.pop» := entryFor_of_tree (by kernel_rfl)
-- a method of an accumulator that changes nothing
theorem Ev.methA {o : PySem.Expr} {name : Str} {apos pos : Pos} {es : List PySem.Expr} {f : Value} {d0 d : D} {ds xs : List D} (h0 : Ev w hb n env ls σ o d0) (hA : IsA σ d0 xs) (ha : EvA w hb n env ls σ es ds)
    (hf : Fs w hb n f (d0 :: ds) σ d) (hk : Kpr w f) (hn : accName name) (hm : findIn (Kf w) (.ref 207) name = some (some f)) (ht : isMeth (Kf w) f = true)
    (hbase : autoParam (attributeBase o name env (eval o env) = eval o env) Mine.auR)
    (hfew : autoParam (((backTo pos (starEach es env)).all (fun x => !x.1) && (backToKw pos (keywordEach [] env)).all (fun x => x.1.isSome)
      && decide (es.length + ([] : List Keyword).length + (if ([] : List Keyword).isEmpty then 0 else 1) < 30)) = true) Mine.auR)
    (hline : autoParam ((apos.endLine == pos.line) = true) Mine.auR) : Ev w hb n env ls σ (.Call (.Attribute o name apos) es [] pos) d := fun A s ad c => by
  rw [arm_eval_Call, hbase]
  refine wpAny_bind (h0.use c fun v s1 k1 c1 r1 => wpAny_bind (wpAny_standAt ?_))
  have hform : methodCallForm (es.length + ([] : List Keyword).length) (backTo pos (starEach es env)) (backToKw pos (keywordEach [] env)) = true := hfew
  have hpos : methodCallPos true o env apos pos = pure pos := by unfold methodCallPos; simp [hline]
  obtain ⟨x, vs, rfl, at', r'⟩ := r1.isA hA c1.st.own
  obtain ⟨dA, ox, od, t, m, I, _⟩ := at'.inst
  unfold methodCall
  rw [hform]
  refine wpAny_bind (wpAny_holding (acc_method c1.kin I.inst hm ht (by rw [I.look, hn t]) ?_))
  refine wpAny_bind (wpAny_of_eq hpos ?_)
  refine callWith_any hk ha c1 fun vs s2 k2 c2 r2 => ?_
  exact hf.use c2 (.cons (r1.keeps (kHeap k2)) r2) fun v s3 k3 c3 r3 => ⟨kTrans k1 (kTrans k2 k3), r3⟩
theorem supEnv167 (L : Addr) : ∃ fd oc od osl, (Kf w).lookup 167 = some ⟨oc, od, .func fd, osl⟩ ∧ SupEnv w (callEnv fd L 167) := 
  ⟨_, _, _, _, rfl, ⟨rfl, rfl, rfl, _, _, _, _, _, _, _, _, _, _, _, _, _, rfl, rfl, rfl, rfl, rfl, rfl, rfl, by decide +kernel⟩⟩
theorem sup167 {oc : Value} {od : Option Addr} {fd : FuncData} {osl : Array (Option Value)} {L : Addr} (hk : (Kf w).lookup 167 = some ⟨oc, od, .func fd, osl⟩) : SupEnv w (callEnv fd L 167) := by
  obtain ⟨fd', oc', od', osl', h1, h2⟩ := supEnv167 (w := w) L
  (first | exact nS h1 hk | exact nS hk h1 | exact nD h1 hk | exact nD hk h1 | cases sE h1 hk | (rw [h1] at hk; cases hk)); exact h2
theorem sub207_module (w : World) : subIn (Kf w) (.ref 207) (.type "module") = some false := by rfl
theorem popSig : Manifest.signature? "list.pop" = some ⟨.positional, "list.pop", "pop", .self, [⟨"index", .posOnly, false⟩]⟩ := by kernel_rfl
theorem pop_bound {x : Addr} {ox : Obj} {od : Option Obj} {Q : Unit → Shared → Prop} (X : (Kf w).In s.heap) (I : W.InstAt s.heap x ox 207 od) (q : Q () s) : wpAny (model pg w) A (checkBoundCall "list.pop" ⟨[.ref x], []⟩) Q E s := by
  obtain ⟨hh, g, d, t, os⟩ := s
  have L0 := I.type (M := model pg w)
  have L1 : Looks (model pg w) hh (isInstance (.ref x) (.type "module")) false := L0.andThen (looks_subIn X (sub207_module w))
  have nv : Manifest.varargsMethods.contains "list.pop" = false := by decide +kernel
  have L2 : Looks (model pg w) hh (typeOf (.ref 207)) (.type "type") := looks_typeIn X rfl
  obtain ⟨cd, hcd, hq⟩ : ∃ cd, clsIn (Kf w) 207 = some cd ∧ cd.qualname = "_Accumulator" := ⟨_, rfl, rfl⟩
  have L3 : Looks (model pg w) hh (classData 207) cd := looks_clsIn X hcd
  have hx := I.at_
  have hno := I.no
  have nT : ∀ (A : Around) (Q : Bool → Shared → Prop) (E : Value → Shared → Prop), Q false ⟨hh, g, d, t, os⟩ → wpAny (model pg w) A (isType (.ref x)) Q E ⟨hh, g, d, t, os⟩ := fun A Q E q => ks_wpAny_isType_inst hx (fun c e => by unfold notCls at hno; rw [e] at hno; exact Bool.noConfusion hno) q
  dsimp only at hx
  have hsig := popSig
  obtain ⟨kd, hkd, hkm⟩ : ∃ kd, builtinKind "list.pop" = some kd ∧ kd = .method := ⟨_, by decide +kernel, rfl⟩
  subst hkm
  unfold checkBoundCall
  rw [hsig, hkd]
  dsimp only
  rw [if_neg (by decide)]
  refine wpAny_bind (L1.at ?_)
  rw [nv]
  simp only [Bool.or_false, Bool.false_eq_true, if_false]
  refine wpAny_bind (nT _ _ _ ?_)
  simp only [Bool.false_eq_true, if_false]
  refine wpAny_bind (L0.at ?_)
  dsimp only
  refine wpAny_bind (L3.at (wpAny_bind (L2.at ?_)))
  rw [if_pos (by decide), hq]
  refine wpAny_of_eq (a := ()) (by kernel_rfl) q
-- list.pop by super() on an owned accumulator
set_option tactic.hygienic true in
theorem meets_popA {k : Nat} {xs : List D} {d : D} {x : Addr} (hσ : σ[k]? = some (.acc (xs ++ [d]))) (hs : xs.length ≤ 1000000) (i : Inv w hb s) (o : Own hb σ ad s.heap) (ha : ad[k]? = some x) {R : Result → Shared → Prop}
    (hR : ∀ v s', KeepsW hb ad s s' → Own hb (σ.set k (.acc xs)) ad s'.heap → Rd s'.heap ad v d → R (.ok (.ret v)) s') : ∃ S : PySem.Spec, Meets (Builtin.«list.pop» ⟨[.ref x], []⟩) S ∧ S A R s := by
  have hσ' := o.at' k x _ ha hσ
  cases hσ' with
  | acc hA h5 =>
    rename_i vs
    obtain ⟨dA, ox, od, t, m, I, _⟩ := hA.inst
    have hl := h5.length
    rw [Array.length_toList, List.length_append, List.length_singleton] at hl
    obtain ⟨y, hy, ry⟩ := h5.get' (vs.size - 1) d (by rw [hl]; simp)
    have split : ∀ us : Array Value, RdAll s.heap ad us.toList (xs ++ [d]) → RdAll s.heap ad (us.eraseIdxIfInBounds (vs.size - 1)).toList xs := fun us r => by
      have hul := r.length
      rw [Array.length_toList, List.length_append, List.length_singleton] at hul
      have e : (us.eraseIdxIfInBounds (vs.size - 1)).toList = us.toList.eraseIdx xs.length := by
        rw [Array.eraseIdxIfInBounds, dif_pos (by lia), Array.toList_eraseIdx]
        congr 1; lia
      rw [e]
      have := r.erase xs.length
      rwa [List.eraseIdx_append_of_length_le (Nat.le_refl _), Nat.sub_self, List.eraseIdx_cons_zero, List.append_nil] at this
    obtain ⟨kw, ow⟩ := own_updA (xs' := xs) (f := fun us => us.eraseIdxIfInBounds (vs.size - 1)) i o ha hσ split
    exact ⟨_, m_pop x vs m ox.cls ox.dict ox.slots y (by simpa using hy) (sz (by lia)), seqObj_of I, hR y _ kw ow (ry.car (kw.carG .refl i.tab))⟩
theorem fs_popA {k : Nat} {xs : List D} {d : D} (hσ : σ[k]? = some (.acc (xs ++ [d]))) (hs : xs.length ≤ 900000) : FsW w hb (n + 2) (.ref 167) [.own k] σ d (σ.set k (.acc xs)) := fun A s ad vals rm i o r => by
  refine wpAny_call (enterAt ["self"] rfl rfl (Bnd.plain rfl ?_) rm i o r (fun L s₁ k1 c1 hnew => ?_) (clo_ok rfl) (by simp))
  · exact len1 fun a => rfl
  · have hA : IsA σ (.own k) (xs ++ [d]) := .inr ⟨k, rfl, hσ⟩
    refine ks_wpAt_execs_cons (wpAt_of_wpAny (wpAny_mono (Ex.iff (b := false) (Tr.cmp (Ev.methA (Ev.name rfl) hA EvA.nil (fs_part_count (n := n) hA (by simp; lia)) (Kpr.K rfl) (accName.mk (by decide)) rfl rfl) Ev.int ?_) Exs.nil _ s₁ ad c1) (fun fl s2 q => ?_) fun _ _ f => f))
    · have : (((xs ++ [d]).length : Int) == 0) = false := by simp; lia
      exact this ▸ Co.eqI
    · obtain ⟨k2, rfl, c2⟩ := q
      refine ks_wpAt_execs_cons (ks_wpAt_Return_some (super_call (id := "list.pop") (B := "builtin_function_or_method") (sup167 rfl) c2 rfl hA rfl rfl (by show builtinType _ = _; rw [builtinType_eq_fast]; kernel_rfl) slot_md.lookup (fun x A s ox od R X I hR => get_pop X I hR) (.inr rfl)
        (fun x s ox od A Q E X I q => pop_bound X I q) entry_lpop (by decide +kernel) fun x s3 k3 r3 => ?_))
      have c3 := c2.keeps k3
      obtain ⟨x', q, ha⟩ := r3.own'
      cases q
      refine meets_popA hσ (by lia) c3.cx.inv c3.cx.st.own ha fun v s4 k4 o4 r4 => ⟨ad, ?_, .refl, o4, r4⟩
      have k13 : Keeps s s3 := kTrans (leave_ok k1 k2 hnew) k3
      exact (KeepsW.pure k13).trans0 .refl k4
end
end Mine
end

section
open PySem PySem.W PySem.Calls PyProof.Rows PySem.SeqAt PySem.MeetsSeq Builtin.ObjectAttr
set_option Elab.async false
set_option tactic.hygienic false
set_option linter.unusedVariables false
set_option maxRecDepth 100000
namespace Mine
/-! walking along an accumulator -/
noncomputable def SqAt (h : Heap) (l : Addr) (items : Array Value) : Prop := ∃ o, h.get? l = some o ∧ ∃ n, o.data = .seq items n
theorem SqAt.at {h h' : Heap} {l : Addr} {items : Array Value} (x : SqAt h l items) (k : ∀ o, h.get? l = some o → h'.get? l = some o) : SqAt h' l items := let ⟨o, e, r⟩ := x; ⟨o, k o e, r⟩
section
variable {prog : Program} {w : World} {A : Around} {E : Value → Shared → Prop} {s : Shared}
theorem next_sq {it l : Addr} {i : Nat} {items : Array Value} {x : Value} {Q : Option Value → Shared → Prop} (hit : s.heap.IsListIter it l i) (hl : SqAt s.heap l items) (hx : items[i]? = some x)
    (hQ : ∀ h', h'.IsListIter it l (i + 1) → Heap.SameBut it s.heap h' → Q (some x) { s with heap := h' }) : wpAny (model prog w) A (pyNext (.ref it)) Q E s := by
  obtain ⟨o, ho, hc, hd⟩ := id hit
  obtain ⟨ol, hol, nl, hdl⟩ := hl
  unfold pyNext
  refine wpAny_bind (wpAny_attempt (wpAny_callSpecial?_slot (name := Str.ofString "__next__") hit.typeIs slot_listiter_next (wpAny_call_entry slot_listiter_next hit.typeIs entry_listiter_next ?_ (args_listiter_next _))))
  show wpAny _ _ (field (.ref it) 0 >>= _) _ _ s
  refine wpAny_bind (wpAny_field ho hd (x := .ref l) rfl ?_)
  show wpAny _ _ (if (Value.ref l == Value.none) = true then _ else _) _ _ s
  rw [if_neg (show ¬ ((Value.ref l == Value.none) = true) from Bool.false_ne_true)]
  show wpAny _ _ (field (.ref it) 1 >>= _) _ _ s
  refine wpAny_bind (wpAny_field ho hd (x := .int i 0) rfl ?_)
  show wpAny _ _ (seqItems? (.ref l) >>= _) _ _ s
  refine wpAny_bind (wpAny_seqItems hol hdl ?_)
  simp only [Int.toNat_natCast, hx]
  refine wpAny_bind (wpAny_setField ho hd (by simp) (wpAny_pure ⟨x, rfl, wpAny_pure (hQ _ ?_ (Heap.SameBut.update ..))⟩))
  exact ⟨_, Heap.get?_update_self _ ho (Obj.isFreed_of_fields (Obj.data_mapFields hd _)), (Obj.cls_mapFields ..).trans hc, by rw [Obj.data_mapFields hd]; simp [rawInt]⟩
theorem done_sq {it l : Addr} {i : Nat} {items : Array Value} {Q : Option Value → Shared → Prop} (hh : A.handled = none) (hit : s.heap.IsListIter it l i) (hl : SqAt s.heap l items) (hx : items[i]? = none)
    (hQ : ∀ h', Heap.ExtBut it s.heap h' → Q none { s with heap := h' }) : wpAny (model prog w) A (pyNext (.ref it)) Q E s := by
  obtain ⟨o, ho, hc, hd⟩ := id hit
  obtain ⟨ol, hol, nl, hdl⟩ := hl
  unfold pyNext
  refine wpAny_bind (wpAny_attempt (wpAny_callSpecial?_slot (name := Str.ofString "__next__") hit.typeIs slot_listiter_next (wpAny_call_entry slot_listiter_next hit.typeIs entry_listiter_next ?_ (args_listiter_next _))))
  show wpAny _ _ (field (.ref it) 0 >>= _) _ _ s
  refine wpAny_bind (wpAny_field ho hd (x := .ref l) rfl ?_)
  show wpAny _ _ (if (Value.ref l == Value.none) = true then _ else _) _ _ s
  rw [if_neg (show ¬ ((Value.ref l == Value.none) = true) from Bool.false_ne_true)]
  show wpAny _ _ (field (.ref it) 1 >>= _) _ _ s
  refine wpAny_bind (wpAny_field ho hd (x := .int i 0) rfl ?_)
  show wpAny _ _ (seqItems? (.ref l) >>= _) _ _ s
  refine wpAny_bind (wpAny_seqItems hol hdl ?_)
  simp only [Int.toNat_natCast, hx]
  refine wpAny_bind (wpAny_rule (wpAny_bind (wpAny_setField ho hd (by simp) ?_)))
  show wpAny _ _ (newExc (.type "StopIteration") [] >>= _) _ _ _
  refine wpAny_bind ?_
  simp only [newExc, newTuple]
  refine wpAny_bind (wpAny_newObj_type ?_ (by size_fits))
  refine wpAny_bind (m := firstArgMember _ _) (wpAny_of_eq (a := Value.none) (by first | rfl | (simp only [firstArgMember]; rfl)) ?_)
  refine wpAny_newObj_type ?_ (by size_fits)
  simp only [raiseNew]
  refine wpAny_bind (wpAny_handled ?_)
  rw [show A.in1.handled = none from hh]
  refine wpAny_bind (wpAny_pure (wpAny_throw ?_))
  refine wpAny_bind (wpAny_isInstance (T := "StopIteration") (b := true) ⟨_, Heap.get?_push_size _ rfl, rfl⟩ isSubtype_stop ?_)
  exact wpAny_pure (hQ _ (((Heap.SameBut.update ..).extBut.push _).push _))
theorem Walks.sq (hh : A.handled = none) (I ax : Addr) (hne : ax ≠ I) (items : Array Value) :
    Walks prog w A I [I, ax] [I] items.size (fun i v => items[i]? = some v) (fun i h => h.IsListIter I ax i ∧ SqAt h ax items) where
  sub := fun b hb => by simp at hb; simp [hb]
  frame := fun _ _ _ st hk => ⟨st.1.at fun o e => hk I (by simp) o e, st.2.at fun o e => hk ax (by simp) o e⟩
  item := fun i s Q E hi st hQ => by
    refine next_sq st.1 st.2 (x := items[i]) (by simp [hi]) fun h' hit' hs' => ?_
    exact hQ _ h' s.toks (by simp [hi]) ⟨hit', st.2.at fun o e => hs'.extBut _ o hne e⟩ fun b o hb e => hs'.extBut b o (fun h => hb (by simp [h])) e
  done := fun s Q E st hQ => done_sq hh st.1 st.2 (by simp) fun h' he' => hQ h' s.toks fun b o hb e => he' b o (fun h => hb (by simp [h])) e
  self := fun _ _ _ _ st hQ => wpAny_pyIter_listiter st.1 hQ
theorem WalksU.sq (hh : A.handled = none) (I ax : Addr) (hne : ax ≠ I) (items : Array Value) (Ts : Nat → Addr) (vals : Nat → Array Value)
    (hit : ∀ j, j < items.size → items[j]? = some (.ref (Ts j))) (hTI : ∀ j, j < items.size → Ts j ≠ I) :
    WalksU prog w A I (I :: ax :: (List.range items.size).map Ts) [I] items.size (fun j v => v = vals j)
      (fun j h => h.IsListIter I ax j ∧ SqAt h ax items ∧ ∀ k, k < items.size → h.IsTuple (Ts k) (vals k))
      (fun j T h => (j < items.size ∧ T = Ts j) ∧ h.IsListIter I ax (j + 1) ∧ SqAt h ax items ∧ ∀ k, k < items.size → h.IsTuple (Ts k) (vals k)) where
  sub := fun b hb => by simp at hb; simp [hb]
  frame := fun _ _ _ st hk => ⟨st.1.at fun o e => hk I (by simp) o e, st.2.1.at fun o e => hk ax (by simp) o e,
    fun k hk' => (st.2.2 k hk').at fun o e => hk (Ts k) (List.mem_cons_of_mem _ (List.mem_cons_of_mem _ (List.mem_map.mpr ⟨k, List.mem_range.mpr hk', rfl⟩))) o e⟩
  item := fun i s Q E hi st hQ => by
    refine next_sq st.1 st.2.1 (x := .ref (Ts i)) (hit i hi) fun h' hit' hs' => ?_
    have tup : ∀ k, k < items.size → h'.IsTuple (Ts k) (vals k) := fun k hk' => (st.2.2 k hk').extBut hs'.extBut (hTI k hk')
    exact hQ (Ts i) (vals i) h' s.toks rfl (tup i hi) ⟨⟨hi, rfl⟩, hit', st.2.1.at fun o e => hs'.extBut _ o hne e, tup⟩ fun b o hb e => hs'.extBut b o (fun h => hb (by simp [h])) e
  go := fun _ _ _ _ _ s Q _ hm hQ => wpAny_letOwnedTupleGo_listiter hm.2.1 (hQ s.heap hm.2 fun _ _ _ e => e)
  apart := fun j T _ hm hmem => by
    rcases List.mem_cons.mp hmem with e | e
    · exact hTI j hm.1.1 (hm.1.2 ▸ e)
    · cases e
  done := fun s Q E st hQ => done_sq hh st.1 st.2.1 (by simp) fun h' he' => hQ h' s.toks fun b o hb e => he' b o (fun h => hb (by simp [h])) e
  self := fun _ _ _ _ st hQ => wpAny_pyIter_listiter st.1 hQ
end
section
variable {w : World} {hb : Heap} {n : Nat} {A : Around} {env : Env} {ls ls' : List (Str × D)} {σ σ' σ'' τ : List Ob} {ad ad' ad'' : List Addr} {s s' s'' : Shared} {E : Value → Shared → Prop} {X Y : List Addr}
theorem acc_iter (w : World) : findIn (Kf w) (.ref 207) "__iter__" = some (some (.builtin "list.__iter__")) := by rfl
theorem iter_acc {x : Addr} {ox : Obj} {od : Option Obj} {Q : Value → Shared → Prop} (X : (Kf w).In s.heap) (I : W.InstAt s.heap x ox 207 od)
    (hQ : Q (.ref s.heap.objs.size) { s with heap := s.heap.push { cls := .type "list_iterator", data := .fields #[.ref x, .int 0 0] } }) : wpAny (model pg w) A (pyIter (.ref x)) Q E s := by
  unfold pyIter specialOf
  have LT := I.type (M := model pg w)
  have LI := looks_findIn (M := model pg w) X (acc_iter w)
  refine wpAny_bind (wpAny_bind (LT.here (LI.here ?_)))
  dsimp only
  refine wpAny_bind ?_
  have call' : wpAny (model pg w) A (call (.builtin "list.__iter__") [.ref x]) (fun it s' => it = .ref s.heap.objs.size ∧ s' = { s with heap := s.heap.push { cls := .type "list_iterator", data := .fields #[.ref x, .int 0 0] } }) E s := by
    refine wpAny_call (codeAny_call_builtin slot_list_iter.plain entry_list_iter (@check_slot (model pg w) _ _ s "list.__iter__" "list" "__iter__" (.ref x) [] [] _ (by decide +kernel) (by decide +kernel) (acc_isList X I) (args_list_iter _) ?_))
    show wpAny _ _ (do ret (← newFields "list_iterator" [.ref x, rawInt 0])) _ _ s
    exact wpAny_bind (wpAny_newObj_type (wpAny_pure ⟨rfl, rfl⟩))
  have fin : wpAny (model pg w) A (callSpecialIfBoundUnlessNone? (.ref x) "__iter__" (do rule "iter.none"; raiseError "TypeError" s!"'{← typeNameOf (.ref x)}' object is not iterable")) (fun it s' => it = some (.ref s.heap.objs.size) ∧ s' = { s with heap := s.heap.push { cls := .type "list_iterator", data := .fields #[.ref x, .int 0 0] } }) E s := by
    simp only [callSpecialIfBoundUnlessNone?, bindSpecialIfBound?, specialOf]
    refine wpAny_holding (wpAny_bind (wpAny_bind (wpAny_bind (LT.here (LI.here ?_)))))
    simp only [slot_list_iter.bind]
    refine wpAny_bind (wpAny_askSetting (wpAny_ite ?_))
    have fin : wpAny (model pg w) A (if (Value.builtin "list.__iter__" == Value.none) = true then ((do rule "iter.none"; raiseError "TypeError" s!"'{← typeNameOf (.ref x)}' object is not iterable") >>= fun v => pure (some v)) else (call (.builtin "list.__iter__") [.ref x] >>= fun v => pure (some v)))
        (fun it s' => it = some (.ref s.heap.objs.size) ∧ s' = { s with heap := s.heap.push { cls := .type "list_iterator", data := .fields #[.ref x, .int 0 0] } }) E s := by
      rw [if_neg (by decide)]
      exact wpAny_bind (wpAny_mono call' (fun v s' h' => wpAny_pure ⟨by rw [h'.1], h'.2⟩) fun _ _ h' => h')
    split
    · exact wpAny_bind (wpAny_pure (wpAny_pure fin))
    · exact wpAny_tryCatch (wpAny_bind (wpAny_pure (wpAny_pure fin)))
  refine wpAny_mono fin (fun it s' q => ?_) fun _ _ h' => h'
  obtain ⟨rfl, rfl⟩ := q
  refine wpAny_bind (wpAny_specialOf (T := "list_iterator") ⟨_, Heap.get?_push_size _ rfl, rfl⟩ slot_listiter_next.lookup (wpAny_pure hQ))
theorem Src.acc {d : D} {xs : List D} (hd : IsA σ d xs) : Src w hb σ d xs := fun A s ad v hh i o r Q E h => by
  obtain ⟨a, vs, rfl, at', e5⟩ := r.isA hd o
  obtain ⟨dA, ox, od, t, m, I, _⟩ := at'.inst
  have e1 := I.inst.at_
  have il : SqAt s.heap a vs := ⟨ox, e1, m, I.data⟩
  have l1 := e5.length
  rw [Array.length_toList] at l1
  have hlt := Heap.lt_size e1
  refine iter_acc i.kin I.inst (h _ _ _ _ _ (kPush _ _) (fresh_none s) ⟨l1 ▸ Walks.sq hh s.heap.objs.size a (Nat.ne_of_lt hlt) vs, ⟨⟨_, Heap.get?_push_size _ rfl, rfl, rfl⟩, il.at fun o e => Heap.get?_push_of_some _ e⟩, ?_, i.newer (Nat.le_refl _), ?_, ?_⟩)
  · rintro j h' ⟨⟨o', q1, q2, q3⟩, _⟩; exact ⟨o', _, q1, q3⟩
  · intro h' ad' ex car j v hv
    have r' := (e5.keeps (kHeap (kPush s { cls := .type "list_iterator", data := .fields #[.ref a, .int 0 0] }))).car car
    exact r'.get j v (by simpa using hv)
  · intro b hb'
    (first | replace hb' := mem2 hb' | replace hb' := mem3 hb' | simp only [List.mem_cons, List.not_mem_nil, or_false] at hb')
    have tbf := i.tab.fields
    rcases hb' with rfl | rfl
    · refine ⟨fun q => ?_, _, Heap.get?_push_size _ rfl, .inr ⟨_, rfl⟩⟩
      obtain ⟨_, _, e, _⟩ := tbf
      rw [← q, fresh_none] at e; cases e
    · refine ⟨fun q => ?_, ox, Heap.get?_push_of_some _ e1, .inl ⟨vs, m, I.data⟩⟩
      obtain ⟨_, _, e, hd⟩ := tbf
      rw [← q, e1] at e; cases e; (first | exact nS I.data hd | exact nS hd I.data | exact nD I.data hd | exact nD hd I.data | cases sE I.data hd | (rw [I.data] at hd; cases hd))
end
end Mine
end

section
open PySem PySem.W PySem.Calls PyProof.Rows PySem.SeqAt PySem.MeetsSeq Builtin.ObjectAttr
set_option Elab.async false
set_option tactic.hygienic false
set_option linter.unusedVariables false
set_option maxRecDepth 100000
namespace Mine
/-! len of an accumulator: sum over a generator -/
theorem args_sum2 (a b : Value) : argsOk "sum" ⟨[a, b], []⟩ := by unfold argsOk; kernel_rfl
section
variable {w : World} {hb : Heap} {n : Nat} {A : Around} {env : Env} {ls ls' : List (Str × D)} {σ σ' σ'' τ : List Ob} {ad ad' ad'' : List Addr} {s s' s'' : Shared} {E : Value → Shared → Prop} {X Y : List Addr}
-- sum(x, 0)
theorem call_sum2 {prog : Program} {x : Value} {t : Tok} {Q : Value → Shared → Prop}
    (h : wpAny (model prog w) A.in1 (pyIter x) (fun it s₂ => ∃ I fp wr G n P St val, it = .ref I ∧ WalksS prog w A.in1 I fp wr G n P St ∧ St 0 s₂ ∧ (∀ b ∈ fp, b < s₂.heap.objs.size) ∧
      (∀ i v, P i v → ∃ t, v = .int (val i) t) ∧ (∀ j, j < n → InLong (val j) ∧ InLong (preSum val (j + 1))) ∧
      ∀ s' t', Moved wr G s₂ s' → Q (.int (preSum val n) t') s') E s) :
    wpAny (model prog w) A (call (.builtin "sum") [x, .int 0 t]) Q E s := by
  refine call_function_tree F.kind_sum F.plain_sum F.entry_sum (args_sum2 _ _) ?_
  unfold Builtin.«sum»
  simp only [List.length_cons, List.length_nil]
  rw [if_neg (by decide)]
  refine wpAny_bind (wpAny_of_eq (show Builtin.Builtins.bindParams "sum" ["start"] 0 ⟨[.int 0 t], []⟩ = pure [some (.int 0 t)] from rfl) ?_)
  refine wpAny_bind (wpAny_mono h (fun it s₂ h₂ => ?_) fun _ _ e => e)
  obtain ⟨I, fp, wr, G, n, P, St, val, rfl, W, hst, hfp, hval, hfit, hQ⟩ := h₂
  refine wpAny_bind (wpAny_rule (wpAny_bind (wpAny_mkInt (wpAny_bind (wpAny_pure ?_)))))
  simp only [List.forIn_cons, List.forIn_nil]
  refine wpAny_bind (wpAny_bind (wpAny_bind (wpAny_isInstance (T := "int") (b := false) (typeIs_int _ _ _) PySem.sub_int_str ?_)))
  simp only [Bool.false_eq_true, if_false]
  refine wpAny_pure (wpAny_bind (wpAny_bind (wpAny_isInstance (T := "int") (b := false) (typeIs_int _ _ _) PySem.sub_int_bytes ?_)))
  simp only [Bool.false_eq_true, if_false]
  refine wpAny_pure (wpAny_bind (wpAny_bind (wpAny_isInstance (T := "int") (b := false) (typeIs_int _ _ _) PySem.sub_int_bytearray ?_)))
  simp only [Bool.false_eq_true, if_false]
  refine wpAny_pure (wpAny_pure ?_)
  refine wpAny_bind (wpAny_newObj_type ?_)
  have hSf : s₂.heap.objs.size ∉ fp := fun hm => Nat.lt_irrefl _ (hfp _ hm)
  refine wpAny_pure ⟨plainId_quiet F.plain_sum_loop _, codeAny_sum_loopS W val hval hfit s₂.heap.objs.size hSf n 0 _ s₂.toks 0 rfl (Nat.zero_le _)
    (W.frame 0 s₂ _ _ hst (by first | exact Nat.le_refl _ | exact Nat.le_succ _ | lia) fun b _ o e => Heap.get?_push_of_some _ e) (Heap.get?_push_size _ rfl) fun s' t' hm => ?_⟩
  exact hQ s' t' (hm.drop_new (by first | exact Nat.le_refl _ | exact Nat.le_succ _ | lia))
theorem args2 {M : Model} {f : Value} {e1 e2 : PySem.Expr} {pos : Pos} {Q : Args → Shared → Prop} (h : wpAny M A (eval e1 env) (fun v1 s1 => wpAny M A (eval e2 env) (fun v2 s2 => Q ⟨[v1, v2], []⟩ s2) E s1) E s)
    (he1 : autoParam (starEach [e1, e2] env = (false, eval e1 env) :: starEach [e2] env) Mine.auR) (he2 : autoParam (starEach [e2] env = (false, eval e2 env) :: starEach [] env) Mine.auR) : wpAny M A (evalArgs f true (backTo pos (starEach [e1, e2] env)) []) Q E s := by
  have z : wpAny M A (spliced (backTo pos (starEach [e1, e2] env))) (fun vs s' => Q ⟨vs, []⟩ s') E s := spliced_more (wpAny_mono h (fun v1 s1 h1 => spliced_more (wpAny_mono h1 (fun v2 s2 h2 => spliced_nil h2) fun _ _ x => x) he2) fun _ _ x => x) he1
  rw [he1] at z ⊢
  exact evalArgs_plain z
-- the generator's own code
theorem genCode {pos : Pos} {qualname : Str} {scope : Scope} {Q : Value → Shared → Prop} (hc : env.code = .ref 173) (t : TabOk s.heap)
    (hQ : ∀ v h' tk, Keeps s { s with heap := h', toks := tk } → Q v { s with heap := h', toks := tk }) : wpAny (model pg w) A (genexprCode env pos qualname scope) Q E s := by
  obtain ⟨ps, hcode, htab⟩ := t
  cases hnf : codeAmong pos ps.toList with
  | some c' => exact wpAny_genexprCode_hit hc hcode hnf (hQ c' s.heap s.toks (kRefl s))
  | none =>
    refine wpAny_genexprCodeX hc hcode htab hnf fun c' h' tk hx hge hlt hcode' _ htab' _ => hQ _ _ _ ⟨⟨fun b o e hd => hx b o (fun q => ?_) e, fun _ => ⟨_, hcode', htab'⟩⟩, id, rfl⟩
    have := hd q
    (first | exact nSg q htab.2 e | cases sEg q htab.2 e | (rw [q, htab.2] at e; cases e))
    exact this _ rfl
-- len(x) of a name of the generator's
theorem len_name {cenv : Env} {A' : Around} {x y : Str} {t : Tok} {m : Str → Option Value} {p1 p2 p3 : Pos} {Q : Value → Shared → Prop} (X : (Kf w).In s.heap) (hblt : ∃ mb, s.heap.Ns builtinsNs mb ∧ ∀ x : Str, x ≠ "__name__" → mb x = bootBuiltins x)
    (hk : cenv.scope.kind = .function) (hg : cenv.globals = mainGlobals) (hbu : cenv.builtins = builtinsNs) (hx : cenv.kindOf x = some .local) (hl : cenv.kindOf "len" = some .globalImplicit) (hn : s.heap.Ns cenv.locals m) (hm : m x = some (.str y t)) (hy : y.length < 2 ^ 60)
    (hd : (x == ("__debug__" : Str)) = false) (hq : ∀ t' k, Q (.int y.length t') { s with toks := k }) : wpAny (model pg w) A' (eval (.Call (.Name "len" p1) [.Name x p2] [] p3) cenv) Q E s := by
  obtain ⟨mg, hmg⟩ := glob_ns X
  obtain ⟨mb, hmb, hq'⟩ := hblt
  refine wpAny_Call_NameR (Name_function_global hk hl (loadGlobal_builtin (hg ▸ hmg) (mg_none_of X hmg rfl) (hbu ▸ hmb) ((hq' _ (by decide)).trans Boot.len) ?_) (by decide))
  refine callWith_of (P := (Kf w).In) rfl Kpr.blt (evalArgs_plain (spliced_more (wpAny_Name (wpAny_loadName_local hk hx hn hm ?_) hd) rfl))
  refine spliced_nil ⟨X, ?_⟩
  exact P.len_str (by lia) (hq _ _)
theorem name_cx {x : Str} {d : D} {pos : Pos} {Q : Value → Shared → Prop} (c : Cx w hb n A env ls σ ad s) {A' : Around} (h : ls.lookup x = some d) (hq : ∀ v, Rd s.heap ad v d → Q v s) (hd : autoParam ((x == ("__debug__" : Str)) = false) Mine.auD) :
    wpAny (model pg w) A' (eval (.Name x pos) env) Q E s := by
  obtain ⟨v, z, r⟩ := c.st.nm x d h
  refine wpAny_Name ?_ hd
  rcases z with ⟨a, m, b, e⟩ | ⟨a, cl, b, e⟩
  · exact wpAny_loadName_local c.st.kind a b e (hq v r)
  · rcases a with a | ⟨a, a'⟩
    · exact wpAny_loadName_cell c.st.kind a b e (hq v r)
    · exact wpAny_loadName_free c.st.kind a b e (hq v r) a'
theorem kDropX {s₁ s₂ : Shared} (k1 : Keeps s s₁) (k2 : KeepsX X s₁ s₂) (hnew : ∀ b ∈ X, s.heap.get? b = none) : Keeps s s₂ :=
  ⟨⟨fun b o e q => k2.get b o (fun hm => by (first | exact nS (hnew b hm) e | exact nS e (hnew b hm) | exact nD (hnew b hm) e | exact nD e (hnew b hm) | cases sE (hnew b hm) e | (rw [hnew b hm] at e; cases e))) (k1.heap.get b o e q) q, fun t => k2.tab (k1.heap.tab t)⟩, fun t => k2.bare (k1.bare t), k2.os.trans k1.os⟩
set_option tactic.hygienic true in
theorem Rd.pairT {h : Heap} {v : Value} {p : Str × Str} (r : Rd h ad v (prD p)) : ∃ T t1 t2, v = .ref T ∧ h.IsTuple T #[.str p.1 t1, .str p.2 t2] := by
  obtain ⟨a, ob, vs, m, rfl, e1, e2, e3, e4, e5⟩ := Rd.isT r
  obtain ⟨v1, v2, hvs, r1, r2⟩ : ∃ v1 v2, vs.toList = [v1, v2] ∧ Rd h ad v1 (.str p.1) ∧ Rd h ad v2 (.str p.2) := by
    generalize vs.toList = l at e5
    cases e5 with | cons x y => cases y with | cons y z => cases z; exact ⟨_, _, rfl, x, y⟩
  cases r1; cases r2
  rename_i t1 t2
  refine ⟨a, t1, t2, rfl, ob, e1, e2, m, ?_⟩
  rw [e4]
  congr 1
  exact Array.toList_inj.mp hvs
noncomputable def lenP (p : Str × Str) : Int := ((p.1.length + p.2.length : Nat) : Int)
-- sum((len(fws) + len(part) for fws, part in self), self._initial_size)
theorem fs_len {d : D} {xs : List (Str × Str)} (hA : IsA σ d (xs.map prD)) (hx : ∀ p ∈ xs, p.1.length ≤ 2 ^ 30 ∧ p.2.length ≤ 2 ^ 30) (hn : xs.length ≤ 2 ^ 20) : Fs w hb (n + 2) (.ref 174) [d] σ (.int (xs.map lenP).sum) := by
  refine Fs.of_def ["self"] rfl rfl (fun L => Exs.ret (Ex.ret ?_)) ?_
  · intro A s ad c
    refine wpAny_Call_NameR ((Ev.blt rfl rfl Boot.sum).use c fun v s1 k1 c1 r1 => ?_)
    (first | obtain rfl := r1.toV | obtain ⟨t, rfl⟩ := r1.toS | obtain ⟨t, rfl⟩ := r1.toI | obtain rfl := r1.toB | cases r1)
    refine callWith_of (P := (Kf w).In) rfl Kpr.blt (args2 ?_)
    refine wpAny_GeneratorExp_walksQTD (cl := []) c1.rm.handled rfl rfl (by decide) rfl rfl rfl (by decide) rfl (by have := c1.rm.depth; show A.depth < 1000; lia) ?_ (by intro _; rfl)
    refine name_cx c1 rfl fun v r2 => ?_
    refine Classical.byContradiction fun hN => ?_
    obtain ⟨x, vs, rfl, at', r'⟩ := r2.isA hA c1.st.own
    obtain ⟨dA, ox, od, t, m, I, _⟩ := at'.inst
    have hlt := Heap.lt_size I.inst.at_
    have l1 := r'.length
    rw [Array.length_toList, List.length_map] at l1
    refine hN (iter_acc c1.kin I.inst ?_)
    clear hN
    have k2 : Keeps s1 { s1 with heap := s1.heap.push { cls := .type "list_iterator", data := .fields #[.ref x, .int 0 0] } } := kPush s1 _
    have c2 := c1.keeps k2
    refine ⟨c2.inv.lim, genCode rfl c2.inv.tab fun cv h4 tk4 k4 => ?_⟩
    have c4 := c2.keeps k4
    refine Classical.byContradiction fun hN => ?_
    obtain ⟨mg, bm, ob, g1, g2, g3, g4, g5, g6, g7, g8⟩ := c4.inv.bs.bm
    have kb : ∀ b o, b ≠ tb → hb.get? b = some o → h4.get? b = some o := c4.inv.keep
    -- the tuples
    have tups : ∀ j : Nat, ∃ T t1 t2, j < vs.size → vs[j]? = some (.ref T) ∧ h4.IsTuple T #[.str (xs.getD j ("", "")).1 t1, .str (xs.getD j ("", "")).2 t2] ∧ s1.heap.get? T ≠ none := fun j => by
      by_cases hj : j < vs.size
      · have hj' : j < xs.length := by lia
        obtain ⟨v, hv, rv⟩ := r'.get' j (prD xs[j]) (by simp [hj'])
        obtain ⟨T, t1, t2, rfl, hT⟩ := rv.pairT
        refine ⟨T, t1, t2, fun _ => ⟨by simpa using hv, ?_, ?_⟩⟩
        · rw [List.getD_eq_getElem?_getD, List.getElem?_eq_getElem hj', Option.getD_some]
          obtain ⟨o, e, hc, m', hd⟩ := hT
          exact ⟨o, (kHeap k4).seq ((kHeap k2).seq e hd) hd, hc, m', hd⟩
        · obtain ⟨o, e, _⟩ := hT
          rw [e]; simp
      · exact ⟨0, 0, 0, fun q => absurd q hj⟩
    obtain ⟨Ts, hT⟩ := Classical.axiomOfChoice tups
    obtain ⟨ta, hT⟩ := Classical.axiomOfChoice hT
    obtain ⟨tc, hT⟩ := Classical.axiomOfChoice hT
    refine hN (wpAny_builtinsFor (m := mg) (ns_sm (a := mainGlobals) g1 fun o q => ⟨o, kb mainGlobals o (by decide) q, .refl o⟩) g2 g3 (kb _ _ g4 g5) g6 g7 g8 ?_)
    clear hN
    let vals : Nat → Array Value := fun j => #[.str (xs.getD j ("", "")).1 (ta j), .str (xs.getD j ("", "")).2 (tc j)]
    have hI : s1.heap.get? s1.heap.objs.size = none := fresh_none s1
    have hTI : ∀ j, j < vs.size → Ts j ≠ s1.heap.objs.size := fun j hj q => (hT j hj).2.2 (by rw [q]; exact hI)
    have W₀ := fun (A' : Around) (hA' : A'.handled = none) => (WalksU.sq (prog := pg) (w := w) hA' s1.heap.objs.size x (Nat.ne_of_lt hlt) vs Ts vals (fun j hj => (hT j hj).1) hTI).bound
    have hIit : h4.get? s1.heap.objs.size = some { cls := .type "list_iterator", data := .fields #[.ref x, .int 0 0] } := (kHeap k4).get _ _ (Heap.get?_push_size _ rfl) fun q => by
      obtain ⟨_, _, e, _⟩ := c1.inv.tab.fields
      rw [← q, hI] at e; cases e
    have hSq : SqAt h4 x vs := ⟨ox, (kHeap k4).seq ((kHeap k2).seq I.inst.at_ I.data) I.data, m, I.data⟩
    have hcs : cStatics ∉ [s1.heap.objs.size] := fun hm => by
      replace hm := List.mem_singleton.mp hm
      obtain ⟨_, hns, _⟩ := c1.inv.lim
      exact absurd hns.lt (by rw [hm]; exact Nat.lt_irrefl _)
    have hl0 : vs.size = xs.length := l1
    let F : Nat → Value → Prop := fun j y => ∃ t, y = .int ((xs.map lenP).getD j 0) t
    refine ⟨s1.heap.objs.size, _, _, vs.size, _, _, _, fun _ => true, F, rfl, W₀, fun i vals' hv => ?_, ⟨⟨_, hIit, rfl, rfl⟩, hSq, fun k hk => (hT k hk).2.1⟩, fun b hb' => ?_, c4.inv.lim, hcs, fun href hh => ?_, fun a h₅ tk gs hgb hag hsz₅ hk₅ W hat => ?_⟩
    · obtain ⟨_, rfl⟩ := hv; exact ⟨_, _, rfl⟩
    · rcases memc hb' with rfl | hb'
      · exact Heap.lt_size hIit
      · rcases memc hb' with rfl | hb'
        · obtain ⟨_, e, _⟩ := hSq; exact Heap.lt_size e
        · obtain ⟨k, hk, rfl⟩ := List.mem_map.mp hb'
          obtain ⟨_, e, _⟩ := (hT k (List.mem_range.mp hk)).2.1
          exact Heap.lt_size e
    · have inK : ∀ (u : Shared), (∀ b ∈ List.range h4.objs.size, b ∉ [s1.heap.objs.size] → ∀ o, href.get? b = some o → u.heap.get? b = some o) → ∀ b o, s1.heap.get? b = some o → b ≠ tb → u.heap.get? b = some o := fun u hk b o e hbt => by
        have e4 : h4.get? b = some o := (kHeap (kTrans k2 k4)).get b o e fun q => absurd q hbt
        refine hk b (List.mem_range.mpr (Heap.lt_size e4)) (fun hm => ?_) o (hh b o e4)
        replace hm := List.mem_singleton.mp hm
        (first | exact nSg hm hI e | cases sEg hm hI e | (rw [hm, hI] at e; cases e))
      have hK : ∀ (u : Shared), (∀ b ∈ List.range h4.objs.size, b ∉ [s1.heap.objs.size] → ∀ o, href.get? b = some o → u.heap.get? b = some o) → (Kf w).In u.heap := fun u hk b o e => inK u hk b o (c1.kin b o e) fun q => by
        subst q
        rw [show (Kf w).lookup tb = none from rfl] at e; cases e
      have hB : ∀ (u : Shared), (∀ b ∈ List.range h4.objs.size, b ∉ [s1.heap.objs.size] → ∀ o, href.get? b = some o → u.heap.get? b = some o) → ∃ mb, u.heap.Ns builtinsNs mb ∧ ∀ x : Str, x ≠ "__name__" → mb x = bootBuiltins x := fun u hk => by
        obtain ⟨mb, h1, h2⟩ := c1.inv.blt
        exact ⟨mb, ns_sm h1 fun o q => ⟨o, inK u hk builtinsNs o q (by decide), .refl o⟩, h2⟩
      refine ⟨fun A' E' i va vb s₂ m₂ hA' hD hU hP hn' hma hmb hkp => wpAny_pure ⟨rfl, ⟨s₂.heap, s₂.toks, rfl, fun _ _ e => e⟩⟩, fun A' E' i va vb s₂ m₂ hA' hD hU hP _ hn' hma hmb hkp => ?_⟩
      obtain ⟨hi, hv⟩ := hP
      have hv' : [va, vb] = [.str (xs.getD i ("", "")).1 (ta i), .str (xs.getD i ("", "")).2 (tc i)] := congrArg Array.toList hv
      simp only [List.cons.injEq, and_true] at hv'
      obtain ⟨rfl, rfl⟩ := hv'
      have hix : i < xs.length := by lia
      have hp := hx xs[i] (List.getElem_mem hix)
      have hg : xs.getD i ("", "") = xs[i] := by rw [List.getD_eq_getElem?_getD, List.getElem?_eq_getElem hix]; rfl
      rw [hg] at hma hmb
      refine wpAny_BinOp (len_name (hK s₂ hkp) (hB s₂ hkp) rfl rfl rfl rfl rfl hn' hma (by lia) (by decide) fun t1 tk1 => ?_)
      refine len_name (s := { s₂ with toks := tk1 }) (hK s₂ hkp) (hB s₂ hkp) rfl rfl rfl rfl rfl hn' hmb (by lia) (by decide) fun t2 tk2 => ?_
      refine P.add_int ⟨?_, ⟨s₂.heap, _, rfl, fun _ _ e => e⟩⟩
      show ∃ t, _ = Value.int ((xs.map lenP).getD i 0) t
      rw [show (xs.map lenP).getD i 0 = (xs[i].1.length : Int) + xs[i].2.length by
        rw [List.getD_eq_getElem?_getD, List.getElem?_map, List.getElem?_eq_getElem hix]
        exact Int.natCast_add _ _]
      exact ⟨_, rfl⟩
    · let s₅ : Shared := { s1 with heap := h₅, gens := s1.gens.push gs, toks := tk }
      have k5 : Keeps { s1 with heap := h4, toks := tk4 } s₅ := ⟨.of hk₅, fun ab => ab.push hgb, rfl⟩
      have c5 := c4.keeps k5
      refine Attribute_Name_ (name_cx c5 rfl fun v r5 => ?_)
      obtain ⟨x5, vs5, rfl, at5, _⟩ := r5.isA hA c5.st.own
      obtain ⟨dA5, ox5, od5, t5, m5, I5, _⟩ := at5.inst
      refine acc_size c5.kin I5.inst I5.look ⟨c5.kin, ?_⟩
      show wpAny _ _ (call (.builtin "sum") [.ref a, .int 0 t5]) _ _ _
      have W1 := WalksS.in4_1 W
      have hat6 := W.frame 0 s₅ h₅ (tk + 1) hat (Nat.le_succ _) fun _ _ _ e => e
      have hpas : passing (fun _ => true) vs.size 0 = List.range vs.size := by
        unfold passing
        rw [List.drop_zero]
        exact List.filter_eq_self.mpr fun _ _ => rfl
      have hplen : (passing (fun _ => true) vs.size 0).length = (xs.map lenP).length := by rw [hpas, List.length_range, List.length_map, hl0]
      have hsum : PyProof.Rows.SumFits (xs.map lenP) := sumFits_small (fun z hz => by
        obtain ⟨p, hp, rfl⟩ := List.mem_map.mp hz
        have := hx p hp
        show -(2 ^ 40) ≤ ((p.1.length + p.2.length : Nat) : Int) ∧ ((p.1.length + p.2.length : Nat) : Int) ≤ 2 ^ 40
        lia) (by rw [List.length_map]; exact hn)
      refine call_sum2 (W1.self 0 _ _ _ hat6 ⟨a, _, _, _, _, _, _, fun j => (xs.map lenP).getD j 0, rfl, W1, hat6, fun b hb' => ?_, fun i v ⟨j, hj, t', ht'⟩ => ?_, fun j hj => ?_, fun s' t'' hm => ?_⟩)
      · show b < h₅.objs.size
        rw [hsz₅]
        rcases memc hb' with rfl | hb'
        · exact Nat.lt_succ_self _
        · rcases memc hb' with rfl | hb'
          · exact Nat.lt_succ_of_lt hag
          · exact Nat.lt_succ_of_lt (Nat.lt_trans (List.mem_range.mp hb') hag)
      · rw [hpas] at hj
        obtain ⟨h1, h2⟩ := List.getElem?_eq_some_iff.mp hj
        rw [List.getElem_range] at h2
        subst h2
        exact ⟨t', ht'⟩
      · have := hsum j (by rw [← hplen]; exact hj)
        rw [preSum_getD]; exact this
      · have e1 := preSum_getD (xs.map lenP) (xs.map lenP).length
        rw [List.take_length] at e1
        rw [hplen, e1]
        have k15 : Keeps s1 s₅ := kTrans k2 (kTrans k4 k5)
        have hsz4 : s1.heap.objs.size < h4.objs.size := Heap.lt_size hIit
        have hwr : ∀ b ∈ [h4.objs.size, s1.heap.objs.size], s1.heap.get? b = none := fun b hb' => by
          replace hb' := mem2f hb'
          rcases hb' with rfl | rfl
          · exact new_none (Nat.le_of_lt hsz4)
          · exact hI
        have kX : KeepsX [h4.objs.size, s1.heap.objs.size] s₅ s' := by
          refine ⟨fun b o hb' e _ => hm.heap b o hb' e, tabKeeps fun b o q e => hm.heap b o (fun hb' => ?_) e, fun ab => hm.gens.bare ab, hm.os⟩
          have hnn := hwr b hb'
          rcases q with rfl | rfl
          · obtain ⟨_, _, e', _⟩ := c1.inv.tab.fields
            (first | exact nS e' hnn | exact nS hnn e' | exact nD e' hnn | exact nD hnn e' | cases sE e' hnn | (rw [e'] at hnn; cases hnn))
          · have e' := Inv.kin c1.inv (173 : Addr) _ rfl
            (first | exact nS e' hnn | exact nS hnn e' | exact nD e' hnn | exact nD hnn e' | cases sE e' hnn | (rw [e'] at hnn; cases hnn))
        exact ⟨kTrans k1 (kDropX k15 kX hwr), .int _ _⟩
  · exact len1 fun a => rfl
end
end Mine
end

section
open PySem PySem.W PySem.Calls PyProof.Rows PySem.SeqAt PySem.MeetsSeq Builtin.ObjectAttr
set_option Elab.async false
set_option tactic.hygienic false
set_option linter.unusedVariables false
set_option maxRecDepth 100000
namespace Mine
/-! self._initial_size = v -/
section
variable {w : World} {hb : Heap} {n : Nat} {A : Around} {env : Env} {ls ls' : List (Str × D)} {σ σ' σ'' τ : List Ob} {ad ad' ad'' : List Addr} {s s' s'' : Shared} {E : Value → Shared → Prop} {X Y : List Addr}
theorem refuse_list (self : Value) : refuseLoop self "__setattr__" [.type "list", .type "object"] = pure () := by kernel_rfl
-- a dict of the one name at most, after a store
theorem small_put {h : Heap} {dA : Addr} {od : Obj} {m : Str → Option Value} {hs : Int} {key : Str} {t : Tok} {v : Value} (e : h.get? dA = some od) (hn : h.Ns dA m) (hsm : SmallDict od) (hk : ∀ y, y ≠ key → m y = none) :
    ∃ od', Obj.putName key hs (.str key t) v od = od' ∧ SmallDict od' ∧ (h.update dA (Obj.putName key hs (.str key t) v)).get? dA = some od' ∧ (h.update dA (Obj.putName key hs (.str key t) v)).Ns dA (fun y => if y = key then some v else none) := by
  obtain ⟨hc, es, mm, hd, hz⟩ := hsm
  obtain ⟨o2, es2, ep, e2, hd2, hsk, hf⟩ := hn
  (first | exact nS e e2 | exact nS e2 e | exact nD e e2 | exact nD e2 e | cases sE e e2 | (rw [e] at e2; cases e2))
  (first | exact nS hd hd2 | exact nS hd2 hd | exact nD hd hd2 | exact nD hd2 hd | cases sE hd hd2 | (rw [hd] at hd2; cases hd2))
  obtain ⟨c1, d1, dt, sl⟩ := od
  simp only at hd hc
  subst hd hc
  have hl : es.toList = [] ∨ ∃ en, es.toList = [en] := by
    match hq : es.toList with
    | [] => exact .inl rfl
    | [en] => exact .inr ⟨en, rfl⟩
    | a :: b :: r => rw [← Array.length_toList, hq] at hz; simp at hz
  rcases hl with hl | ⟨en, hl⟩
  · have hes : es = #[] := by rw [← Array.toList_inj]; simpa using hl
    subst hes
    have hput : Obj.putName key hs (.str key t) v ⟨.type "dict", d1, .dict #[] mm, sl⟩ = ⟨.type "dict", d1, .dict #[⟨hs, .str key t, v⟩] (mm + 1), sl⟩ := by rw [Obj.putName_eq]; simp [Obj.putNameByArray]
    have hg := Heap.get?_update_self (Obj.putName key hs (.str key t) v) e (by rw [hput]; rfl)
    rw [hput] at hg
    refine ⟨_, hput, ⟨rfl, _, _, rfl, by simp⟩, hg, _, _, _, hg, rfl, ?_, fun y => ?_⟩
    · intro e he; simp at he; subst he; exact ⟨_, _, rfl⟩
    · unfold nsFind findBy
      by_cases hy : y = key
      · subst hy; simp [Value.isStr]
      · have : (key == y) = false := by simpa using Ne.symm hy
        simp [Value.isStr, this, hy]
  · have hes : es = #[en] := by rw [← Array.toList_inj]; simpa using hl
    subst hes
    obtain ⟨k0, t0, hk0⟩ := hsk en (by simp)
    have hkey : k0 = key := by
      apply Classical.byContradiction
      intro hne
      have h1 := hf k0
      rw [hk k0 hne] at h1
      unfold nsFind findBy at h1
      simp [hk0, Value.isStr] at h1
    subst hkey
    obtain ⟨eh, ek, ev⟩ := en
    simp only at hk0
    subst hk0
    have hput : Obj.putName k0 hs (.str k0 t) v ⟨.type "dict", d1, .dict #[⟨eh, .str k0 t0, ev⟩] mm, sl⟩ = ⟨.type "dict", d1, .dict #[⟨eh, .str k0 t0, v⟩] mm, sl⟩ := by
      rw [Obj.putName_eq]
      simp [Obj.putNameByArray, Value.isStr]
    have hg := Heap.get?_update_self (Obj.putName k0 hs (.str k0 t) v) e (by rw [hput]; rfl)
    rw [hput] at hg
    refine ⟨_, hput, ⟨rfl, _, _, rfl, by simp⟩, hg, _, _, _, hg, rfl, ?_, fun y => ?_⟩
    · intro e he; simp at he; subst he; exact ⟨_, _, rfl⟩
    · unfold nsFind findBy
      by_cases hy : y = k0
      · subst hy; simp [Value.isStr]
      · have : (k0 == y) = false := by simpa using Ne.symm hy
        simp [Value.isStr, this, hy]
theorem taker_size (w : World) : takerIn (Kf w) 207 "_initial_size" = some none := by rfl
theorem setattr207 (w : World) : findIn (Kf w) (.ref 207) "__setattr__" = some (some (.builtin "object.__setattr__")) := by rfl
theorem osa_acc {x dA : Addr} {ox od : Obj} {m : Str → Option Value} {v : Value} {tk0 : Tok} {R : Result → Shared → Prop} (X : (Kf w).In s.heap) (I : W.InstAt s.heap x ox 207 (some od)) (hd : ox.dict = some dA) (hn : s.heap.Ns dA m) (hsm : SmallDict od) (hk : ∀ y, y ≠ ("_initial_size" : Str) → m y = none)
    (h : ∀ h' tk od', h'.get? dA = some od' → SmallDict od' → h'.Ns dA (fun y => if y = ("_initial_size" : Str) then some v else none) → Heap.SameBut dA s.heap h' → R (.ok (.ret .none)) { s with heap := h', toks := tk }) :
    codeAny (model pg w) A (.call (.builtin "object.__setattr__") ⟨[.ref x, .str "_initial_size" tk0, v], []⟩) R s := by
  have D : s.heap.get? dA = some od := by have := I.dict; rw [hd] at this; exact this
  have SF := PySem.F.store_object
  obtain ⟨cd, hc, hdict⟩ := cls207 w
  have hmro : cd.mro = [.ref 207, .type "list", .type "object"] := by
    obtain ⟨cd', h1, h2⟩ : ∃ cd', clsIn (Kf w) 207 = some cd' ∧ cd'.mro = [.ref 207, .type "list", .type "object"] := ⟨_, rfl, rfl⟩
    (first | exact nS h1 hc | exact nS hc h1 | exact nD h1 hc | exact nD hc h1 | cases sE h1 hc | (rw [h1] at hc; cases hc)); exact h2
  have sub : Looks (model pg w) s.heap (isInstance (.ref x) (.type "object")) true := I.type.andThen (looks_mroIn X rfl)
  refine codeAny_call_builtin SF.slot.plain SF.entry (@check_slot (model pg w) _ _ s "object.__setattr__" "object" "__setattr__" (.ref x) [.str "_initial_size" tk0, v] [] _ SF.kind SF.split sub (SF.args (.ref x) (.str "_initial_size" tk0) v) ?_)
  obtain ⟨attr, ha, hr⟩ := Option.bind_eq_some_iff.mp (taker_size w)
  have hm : Looks (model pg w) s.heap (mroOf (.ref 207)) cd.mro := (looks_clsIn X hc).andThen .now
  have L3 : Looks (model pg w) s.heap (storeTaker? attr) none := by
    cases attr with
    | none => exact .now
    | some a =>
      obtain ⟨b, hb, hbb⟩ := Option.map_eq_some_iff.mp hr
      refine (looks_takesIn X hb).andThen ?_
      cases b with
      | true => cases hbb
      | false => exact .now
  rw [osa_eq, refuse_eq]
  refine wpAny_bind (wpAny_bind (I.type.here (wpAny_bind (hm.here ?_))))
  rw [hmro, refuseLoop_ref, refuse_list]
  refine wpAny_pure (wpAny_bind (I.type.here (wpAny_bind ((looks_findIn X ha).here (wpAny_bind (L3.here ?_))))))
  have hx := I.at_
  have hcl := I.cls
  obtain ⟨oc, odi, oda, osl⟩ := ox
  dsimp only at hcl hd
  subst hcl hd
  refine wpAny_bind (wpAny_pure (wpAny_bind (wpAny_bind (wpAny_loadPart hx (wpAny_bind ((looks_clsIn X hc).here ?_))))))
  rw [hdict]
  refine wpAny_pure (a := some dA) (wpAny_bind (wpAny_pure (wpAny_bind ?_)))
  obtain ⟨od', hput, hsm', hg, hns⟩ := small_put (h := s.heap) (hs := PyData.keyHash w.params "_initial_size") (t := s.toks) (v := v) D hn hsm hk
  obtain ⟨hcd, es, mm, hes, hz⟩ := hsm
  unfold nsSet
  refine wpAny_bind (wpAny_bind (wpAny_askSetting (wpAny_pure (wpAny_bind (wpAny_mkText (wpAny_bind (wpAny_loadPart D ?_)))))))
  rw [hes]
  dsimp only
  have c : (!es.any (·.key.isStr "_initial_size") && es.any (·.refKey)) = false := by
    obtain ⟨o2, es2, ep, e2, hd2, hsk, hf⟩ := hn
    (first | exact nS D e2 | exact nS e2 D | exact nD D e2 | exact nD e2 D | cases sE D e2 | (rw [D] at e2; cases e2))
    (first | exact nS hes hd2 | exact nS hd2 hes | exact nD hes hd2 | exact nD hd2 hes | cases sE hes hd2 | (rw [hes] at hd2; cases hd2))
    have : es.any (·.refKey) = false := by
      rw [Array.any_eq_false']; intro e he; obtain ⟨n, t, h⟩ := hsk e he; simp [DictEntry.refKey, h]
    rw [this, Bool.and_false]
  rw [aRefKeyMayBeTheName_at, c]
  refine wpAny_updatePart D ?_
  obtain ⟨_, es', m', hes', hz'⟩ := id hsm'
  refine wpAny_bind (wpAny_lookBehind hg (by rw [hes']; exact pastItsLine_dict (by rw [sizeLine_eq]; lia)) ?_)
  exact wpAny_pure (h _ _ od' hg hsm' hns (Heap.SameBut.update ..))
theorem set_acc {x dA : Addr} {ox od : Obj} {m : Str → Option Value} {v : Value} {Q : Unit → Shared → Prop} (X : (Kf w).In s.heap) (I : W.InstAt s.heap x ox 207 (some od)) (hd : ox.dict = some dA) (hn : s.heap.Ns dA m) (hsm : SmallDict od) (hk : ∀ y, y ≠ ("_initial_size" : Str) → m y = none)
    (h : ∀ h' tk od', h'.get? dA = some od' → SmallDict od' → h'.Ns dA (fun y => if y = ("_initial_size" : Str) then some v else none) → Heap.SameBut dA s.heap h' → Q () { s with heap := h', toks := tk }) :
    wpAny (model pg w) A (setAttr (.ref x) "_initial_size" v) Q E s :=
  set_plain X I (setattr207 w) (osa_acc (s := { s with toks := s.toks + 1 }) X I hd hn hsm hk h)
end
end Mine
end

section
open PySem PySem.W PySem.Calls PyProof.Rows PySem.SeqAt PySem.MeetsSeq Builtin.ObjectAttr
open AutoSeq1 (wpAny_loadPart')
set_option Elab.async false
set_option tactic.hygienic false
set_option linter.unusedVariables false
set_option maxRecDepth 100000
namespace Mine
/-! reset: self[:] = startval -/
section
variable {w : World} {hb : Heap} {n : Nat} {A : Around} {env : Env} {ls ls' : List (Str × D)} {σ σ' σ'' τ : List Ob} {ad ad' ad'' : List Addr} {s s' s'' : Shared} {E : Value → Shared → Prop} {X Y : List Addr}
theorem slice_index : typeLookup (.type "slice") "__index__" = pure none := by rw [typeLookup_type, builtinLookup_eq_fast]; kernel_rfl
-- an empty list's whole is set
theorem m_setall (l sl m : Addr) (k : Nat) (cls : Value) (dct : Option Addr) (slo : Array (Option Value)) (os : Obj) (om : Obj) (ys : Array Value) (km : Nat) (hne : l ≠ m) (hys : ys.size ≤ 1000000) :
    Meets (Builtin.«list.__setitem__» ⟨[.ref l, .ref sl, .ref m], []⟩) (fun _ R s => s.heap.get? l = some (SeqObj cls dct slo #[] k) ∧ s.heap.get? sl = some { cls := .type "slice", data := .fields #[.none, .none, .none] } ∧
      s.heap.get? m = some om ∧ om.cls = .type "list" ∧ om.data = .seq ys km ∧
      R (.ok (.ret .none)) { s with heap := s.heap.update l (Obj.mapSeq fun xs => xs.extract 0 0 ++ ys ++ xs.extract 0 xs.size) }) :=
  .of_wp fun prog w A R s h => by
    obtain ⟨hp, g, d, tk, os⟩ := s; obtain ⟨hl, hs, hm, hmc, hmd, h⟩ := h
    obtain ⟨c1, d1, dt1, sl1⟩ := om
    simp only at hmc hmd
    subst hmc hmd
    have hTs : (⟨hp, g, d, tk, os⟩ : Shared).TypeIs (.ref sl) "slice" := ⟨_, hs, rfl⟩
    have hTm : (⟨hp, g, d, tk, os⟩ : Shared).TypeIs (.ref m) "list" := ⟨_, hm, rfl⟩
    have f1 := slice_index
    have hz' : ((fun xs : Array Value => xs.extract 0 (0 : Int).toNat ++ ys ++ xs.extract (max (0 : Int) 0).toNat) #[]).size ≤ sizeLine + 1 := by
      simp; exact Nat.le_trans hys (by decide)
    have hne' : Builtin.List.listSameRef (.ref l) (.ref m) = false := by show (l == m) = false; simpa using hne
    have hdt : ({ cls := .type "slice", data := .fields #[.none, .none, .none] } : Obj).data = .fields #[.none, .none, .none] := rfl
    have q0 : (#[.none, .none, .none] : Array Value)[0]? = some .none := rfl
    have q1 : (#[.none, .none, .none] : Array Value)[1]? = some .none := rfl
    have q2 : (#[.none, .none, .none] : Array Value)[2]? = some .none := rfl
    unfold Builtin.«list.__setitem__»
    wp_walk using wpAny_loadPart' hl, wpAny_field hs hdt q0, wpAny_field hs hdt q1, wpAny_field hs hdt q2, wpAny_loadPart' hm, (wpAny_updateSeq hl rfl (_hz' := hz'))
    have htl : Builtin.List.listTooLong ((#[] : Array Value).size + ys.size) = false := by
      unfold Builtin.List.listTooLong
      exact decide_eq_false (by simp; exact Nat.le_trans hys (by decide))
    rw [htl, if_neg (by decide)]
    have hf : (fun xs : Array Value => xs.extract 0 (if (1 : Int) > 0 then (0 : Int) else ((#[] : Array Value).size : Int) - 1).toNat ++ ys ++ xs.extract (max (if (1 : Int) > 0 then (0 : Int) else ((#[] : Array Value).size : Int) - 1) (if (1 : Int) > 0 then ((#[] : Array Value).size : Int) else -1)).toNat) = fun xs => xs.extract 0 0 ++ ys ++ xs.extract 0 xs.size := by
      funext xs
      rfl
    refine wpAny_bind ?_
    rw [hf]
    refine wpAny_updateSeq hl rfl ?_ (by decide) (by simp; exact Nat.le_trans hys (by decide))
    wp_walk
    exact ⟨_, rfl, h⟩
end
end Mine
end

section
open PySem PySem.W PySem.Calls PyProof.Rows PySem.SeqAt PySem.MeetsSeq Builtin.ObjectAttr
set_option Elab.async false
set_option tactic.hygienic false
set_option linter.unusedVariables false
set_option maxRecDepth 100000
namespace Mine
section
variable {w : World} {hb : Heap} {n : Nat} {A : Around} {env : Env} {ls ls' : List (Str × D)} {σ σ' σ'' τ : List Ob} {ad ad' ad'' : List Addr} {s s' s'' : Shared} {E : Value → Shared → Prop} {X Y : List Addr}
theorem noseq207 (w : World) : noSeq (Kf w) 207 = true := by rfl
theorem setitem207 (w : World) : findIn (Kf w) (.ref 207) "__setitem__" = some (some (.builtin "list.__setitem__")) := by rfl
-- x[i] = v on an accumulator is list's own
theorem setItem_acc {x : Addr} {ox : Obj} {od : Option Obj} {i v : Value} {S : PySem.Spec} {Q : Unit → Shared → Prop} (K : (Kf w).In s.heap) (I : W.InstAt s.heap x ox 207 od) (g : Meets (Builtin.«list.__setitem__» ⟨[.ref x, i, v], []⟩) S) (h : S A (wants (fun _ => Q ()) E) s) :
    wpAny (model pg w) A (setItem (.ref x) i v) Q E s := by
  unfold setItem sequenceKey
  refine wpAny_holding (wpAny_bind (wpAny_bind (I.type.here ?_)))
  refine wpAny_bind ((anyM_none K (noseq207 w)).here ?_)
  rw [if_pos (show (!false) = true from rfl)]
  refine wpAny_pure (wpAny_bind ?_)
  unfold callSpecial? specialOf
  refine wpAny_bind (wpAny_bind (I.type.here ((looks_findIn K (setitem207 w)).here ?_)))
  dsimp only
  refine wpAny_holding ?_
  rw [F.slot_list_setitem.bind]
  refine wpAny_bind (wpAny_pure (wpAny_bind ?_))
  refine wpAny_mono (Q := fun _ s' => Q () s') (E := E) ?_ (fun _ _ z => wpAny_pure (wpAny_pure z)) fun _ _ z => z
  show wpAny _ _ (call (.builtin "list.__setitem__") [.ref x, i, v]) _ _ _
  refine wpAny_call (codeAny_call_builtin F.slot_list_setitem.plain F.entry_list_setitem (@check_slot (model pg w) _ _ s "list.__setitem__" "list" "__setitem__" (.ref x) [i, v] [] _ (by decide +kernel) (by decide +kernel) (acc_isList K I) (F.args_list_setitem_3 _ _ _) ?_))
  exact g pg w A _ s h
theorem AccI.upd {h : Heap} {a dA : Addr} {ox od : Obj} {t : Tok} {vs : Array Value} {m : Nat} (x : AccI h a dA ox od t vs m) (f : Array Value → Array Value) : ∃ ox' m', AccI (h.update a (Obj.mapSeq f)) a dA ox' od t (f vs) m' := by
  obtain ⟨⟨h1, h2, h3, h4⟩, hd, hda, hns, hl, hat⟩ := x
  obtain ⟨m', hd'⟩ := Obj.data_mapSeq hda f
  have hne : dA ≠ a := fun q => by
    obtain ⟨o2, es, ep, e2, hd2, _⟩ := hns
    (first | exact nSg q h1 e2 | cases sEg q h1 e2 | (rw [q, h1] at e2; cases e2)); (first | exact nS hda hd2 | exact nS hd2 hda | exact nD hda hd2 | exact nD hd2 hda | cases sE hda hd2 | (rw [hda] at hd2; cases hd2))
  have hg := Heap.get?_update_self (Obj.mapSeq f) h1 (by generalize Obj.mapSeq f ox = o2 at hd'; obtain ⟨c1, d1, dt, sl⟩ := o2; simp only at hd'; subst hd'; rfl)
  have hdx : (Obj.mapSeq f ox).dict = some dA := by rw [← hd]; unfold Obj.mapSeq; split <;> rfl
  have hg2 : (h.update a (Obj.mapSeq f)).get? dA = some od := (Heap.get?_update_other _ _ (Ne.symm hne)).trans hat
  exact ⟨_, m', ⟨⟨hg, by rw [← h2]; unfold Obj.mapSeq; split <;> rfl, by unfold notCls; rw [hd'], by rw [hdx]; exact hg2⟩, hdx, hd', ns_sm hns fun o q => ⟨o, (Heap.get?_update_other _ _ (Ne.symm hne)).trans q, .refl o⟩, hl, hg2⟩⟩
theorem AccI.ne {h : Heap} {a dA : Addr} {ox od : Obj} {t : Tok} {vs : Array Value} {m : Nat} (x : AccI h a dA ox od t vs m) : dA ≠ a := fun q => by
  obtain ⟨o2, es, ep, e2, hd2, _⟩ := x.ns
  (first | exact nSg q x.inst.at_ e2 | cases sEg q x.inst.at_ e2 | (rw [q, x.inst.at_] at e2; cases e2)); (first | exact nS x.data hd2 | exact nS hd2 x.data | exact nD x.data hd2 | exact nD hd2 x.data | cases sE x.data hd2 | (rw [x.data] at hd2; cases hd2))
theorem kxUpd {a : Addr} {f : Obj → Obj} (bs : Bs w hb) (ha : hb.get? a = none) : KeepsX [a] s { s with heap := s.heap.update a f } := by
  have other : ∀ b o, b ≠ a → s.heap.get? b = some o → (s.heap.update a f).get? b = some o := fun b o hb' e => (Heap.get?_update_other _ _ (Ne.symm hb')).trans e
  refine ⟨fun b o hb' e _ => other b o (by simpa using hb') e, tabKeeps fun b o q e => other b o (fun q' => ?_) e, id, rfl⟩
  rcases q with rfl | rfl
  · rw [← q', bs.tbl] at ha; cases ha
  · rw [← q', bs.k 173 _ rfl] at ha; cases ha
theorem kxSame {a : Addr} {h' : Heap} {tk : Nat} (bs : Bs w hb) (ha : hb.get? a = none) (hs : Heap.SameBut a s.heap h') : KeepsX [a] s { s with heap := h', toks := tk } := by
  have other : ∀ b o, b ≠ a → s.heap.get? b = some o → h'.get? b = some o := fun b o hb' e => hs.extBut b o hb' e
  refine ⟨fun b o hb' e _ => other b o (by simpa using hb') e, tabKeeps fun b o q e => other b o (fun q' => ?_) e, id, rfl⟩
  rcases q with rfl | rfl
  · rw [← q', bs.tbl] at ha; cases ha
  · rw [← q', bs.k 173 _ rfl] at ha; cases ha
theorem kin_x {X : List Addr} {s s' : Shared} (bs : Bs w hb) (K : (Kf w).In s.heap) (k : KeepsX X s s') (hX : ∀ b ∈ X, hb.get? b = none) : (Kf w).In s'.heap := fun b o e => by
  have hbb := bs.k b o e
  refine k.get b o (fun hm => by (first | exact nS (hX b hm) hbb | exact nS hbb (hX b hm) | exact nD (hX b hm) hbb | exact nD hbb (hX b hm) | cases sE (hX b hm) hbb | (rw [hX b hm] at hbb; cases hbb))) (K b o e) fun q => ?_
  subst q
  rw [show (Kf w).lookup tb = none from rfl] at e; cases e
theorem Co.isNoneVal {a : Addr} : Co w hb n .Is σ (.val (.ref a)) .none false := fun A s ad u v rm i o r1 r2 => by
  (first | obtain rfl := r1.toV | obtain ⟨t, rfl⟩ := r1.toS | obtain ⟨t, rfl⟩ := r1.toI | obtain rfl := r1.toB | cases r1); (first | obtain rfl := r2.toV | obtain ⟨t, rfl⟩ := r2.toS | obtain ⟨t, rfl⟩ := r2.toI | obtain rfl := r2.toB | cases r2)
  exact is_none_ne (by nofun) ⟨kRefl s, rfl⟩
-- into a plain def
theorem enterP {f : Addr} {fd : FuncData} {oc : Value} {od : Option Addr} {osl : Array (Option Value)} {body : List Stmt} {args args' : List D} {vals : List Value} {R : Result → Shared → Prop} (names : List Str)
    (hk : (Kf w).lookup f = some ⟨oc, od, .func fd, osl⟩) (hbody : fd.body = .stmts body) (rm : Rm hb (n + 1) A s.heap) (i : Inv w hb s) (o : Own hb σ ad s.heap) (r : RdAll s.heap ad vals args)
    (hbind : Bnd w hb fd args names args')
    (h : ∀ L env s₁, env = callEnvC fd L f → Keeps s s₁ → Cs w hb n (A.deeper env) env (names.zip args') σ ad s₁ → (∀ b ∈ fx env, s.heap.get? b = none) →
      wpAny (model pg w) (A.deeper env) (execs body env) (fun fl s' => R (.ok (.ret (match fl with | .ret v => v | _ => .none))) s') (fun _ _ => False) s₁)
    (hlen : autoParam (names.length = args'.length) Mine.auR) (hcd : autoParam (codeIn (Kf w) fd.code fd.qualname = true) Mine.auR)
    (hcl : autoParam (fd.closure = []) Mine.auR) (hg : autoParam (fd.globals = mainGlobals) Mine.auR) (hbu : autoParam (fd.builtins = builtinsNs) Mine.auR) (hkf : autoParam (fd.scope.kind = .function) Mine.auR)
    (hnd : autoParam (names.Nodup) Mine.auD) (hkin' : autoParam ((fd.scope.names.lookup ("_initial_size" : Str) == some .local) = false) Mine.auR)
    (hkind' : autoParam ((names.all fun y => fd.scope.names.lookup y == some .local || fd.scope.names.lookup y == some .cell) = true) Mine.auR)
    (hcells : autoParam (((cellsFrom 0 fd.scope.names []).map (·.1)).Nodup) Mine.auD) (hco : autoParam (fd.scope.isCoroutine = false) Mine.auR) (hgen : autoParam (fd.scope.isGenerator = false) Mine.auR) :
    codeAny (model pg w) A (.call (.ref f) ⟨vals, []⟩) R s := by
  have hkin : fd.scope.names.lookup ("_initial_size" : Str) ≠ some .local := fun q => by (first | exact nS q hkin' | exact nS hkin' q | exact nD q hkin' | exact nD hkin' q | cases sE q hkin' | (rw [q] at hkin'; cases hkin'))
  have hkind : ∀ n, ∀ x ∈ names, fd.scope.names.lookup x = some .local ∨ (fd.scope.names.lookup x = some .cell ∧ ((cellsFrom n fd.scope.names []).lookup x).isSome = true) := fun n x hx => by
    rcases Bool.or_eq_true_iff.mp (List.all_eq_true.mp hkind' x hx) with q | q
    · exact .inl (by simpa using q)
    · exact .inr ⟨by simpa using q, cellsFrom_some _ _ _ (.inl (by simpa using q))⟩
  refine codeAny_call_function (by have := rm.depth; show A.depth < 1000; lia) (i.kin _ _ hk) rfl hco hgen hbody (codeRec_of i.kin hcd) ?_
  refine wpAny_mono (hbind A.in1 s σ ad vals i o r) (fun binds s0 q => ?_) fun _ _ f => f.elim
  obtain ⟨vals', rfl, k0, r0⟩ := q
  have hl : names.length = vals'.length := by rw [hlen, r0.length]
  have hmap : (names.zip vals').map (·.1) = names := by rw [List.map_fst_zip]; lia
  have i0 := i.keeps k0
  have o0 := o.keeps (kHeap k0)
  have rm0 := rm.keeps (kHeap k0)
  rw [hcl]
  refine wpAny_newFunctionEnv_cells hkf (fun x hx => hkind _ x.1 (by rw [← hmap]; exact List.mem_map_of_mem hx)) fun env he s₁ x => ?_
  have hc' : ((cellsFrom (s0.heap.objs.size + 1) fd.scope.names []).map (·.1)).Nodup := by rw [cellsFrom_names fd.scope.names 0 (s0.heap.objs.size + 1) [] [] rfl] at hcells; exact hcells
  obtain ⟨c1, k1⟩ := enter_ok (f := f) rm0 i0 o0 r0 hg hbu hkf hnd hl hkin (fun x hx => hkind _ x hx) env he x hc'
  refine ⟨(i0.keeps k1).lim, codeAny_func ?_⟩
  have henv : callEnvC fd s0.heap.objs.size f = env := he.symm
  have hnew : ∀ b ∈ fx env, s.heap.get? b = none := fun b hm => k0.heap.fresh i.tab (new_none (by
    have hL : @Eq Nat env.locals s0.heap.objs.size := by rw [he]; rfl
    rcases mem_fx hm with q | ⟨nm, q, _⟩
    · have q' : @Eq Nat b env.locals := q
      lia
    · have := ltN (x.above nm b q)
      lia))
  exact wpAny_mono (h _ env s₁ henv.symm (kTrans k0 k1) c1 hnew) (fun fl s2 q => q) fun _ _ f => f.elim
theorem bnd_189 {fd : FuncData} {oc : Value} {od : Option Addr} {osl : Array (Option Value)} {d1 d2 : D} (hk : (Kf w).lookup 189 = some ⟨oc, od, .func fd, osl⟩) : Bnd w hb fd [d1, d2] ["self", "startval"] [d1, d2] := fun A s σ ad vals i o r => by
  obtain ⟨v, u, rfl, r1, r2⟩ := r.two
  obtain ⟨fd', oc', od', osl', h1, h2⟩ : ∃ fd' oc' od' osl', (Kf w).lookup 189 = some ⟨oc', od', .func fd', osl'⟩ ∧ ∃ it, ∃ e : Sem (List (Str × Value)), bindArgs fd' ⟨[v, u], []⟩ = (seqItems? (.ref 182) >>= it) ∧ it (some #[.none]) = pure ([(Str.ofString "self", v), (Str.ofString "startval", u)] : List (Str × Value)) := ⟨_, _, _, _, rfl, _, pure [], rfl, by kernel_rfl⟩
  (first | exact nS h1 hk | exact nS hk h1 | exact nD h1 hk | exact nD hk h1 | cases sE h1 hk | (rw [h1] at hk; cases hk))
  obtain ⟨it, _, h2, h3⟩ := h2
  rw [h2]
  obtain ⟨o1, e1, m1, e2⟩ : ∃ o1, (Kf w).lookup 182 = some o1 ∧ ∃ m1, o1.data = .seq #[.none] m1 := ⟨_, rfl, _, rfl⟩
  refine wpAny_bind (wpAny_seqItems (i.kin _ _ e1) e2 ?_)
  rw [h3]
  exact wpAny_pure ⟨[v, u], rfl, kRefl s, r⟩
-- part.reset(lst), of an empty accumulator
theorem call_reset {a dA b : Addr} {ox od ol : Obj} {t : Tok} {m mu : Nat} {us : Array Value} {Q : Value → Shared → Prop} (rm : Rm hb (n + 1) A s.heap) (i : Inv w hb s) (o : Own hb σ ad s.heap) (I : AccI s.heap a dA ox od t #[] m) (hsm : SmallDict od) (ha : hb.get? a = none) (hd : hb.get? dA = none)
    (g1 : s.heap.get? b = some ol) (g2 : ol.cls = .type "list") (g4 : ol.data = .seq us mu) (hz : us.size ≤ 1000000)
    (hq : ∀ s' ox' od' t' m', KeepsX [a, dA] s s' → AccI s'.heap a dA ox' od' t' us m' → SmallDict od' → Q .none s') : wpAny (model pg w) A (call (.ref 189) [.ref a, .ref b]) Q E s := by
  refine wpAny_call (enterP (args := [.val (.ref a), .val (.ref b)]) ["self", "startval"] rfl rfl rm i o (.cons (.val _) (.cons (.val _) .nil)) (bnd_189 rfl) fun L env s1 he k1 c1 hnew => ?_)
  subst he
  refine wpAny_execs_cons (wpAny_mono (Ex.iff (b := false) (Tr.cmp (Ev.name rfl) Ev.none Co.isNoneVal) Exs.nil _ s1 ad c1) (fun fl s2 q => ?_) fun _ _ f => f.elim)
  obtain ⟨k2, rfl, c2⟩ := q
  have k12 : Keeps s s2 := leave_ok k1 k2 hnew
  refine wpAny_execs_cons (wpAny_Assign_Subscript ((Ev.name rfl).useS c2 fun v s3 k3 c3 r3 => (Ev.name rfl).useS c3 fun u s4 k4 c4 r4 => ?_) rfl)
  (first | obtain rfl := r3.toV | obtain ⟨t, rfl⟩ := r3.toS | obtain ⟨t, rfl⟩ := r3.toI | obtain rfl := r3.toB | cases r3); (first | obtain rfl := r4.toV | obtain ⟨t, rfl⟩ := r4.toS | obtain ⟨t, rfl⟩ := r4.toI | obtain rfl := r4.toB | cases r4)
  refine wpAny_Slice ?_
  rw [evalPart_none]
  refine wpAny_pure (wpAny_pure (wpAny_pure ?_))
  have k5 : Keeps s4 { s4 with heap := s4.heap.push { cls := .type "slice", data := .fields #[.none, .none, .none] } } := kPush s4 _
  have c5 := c4.keeps k5
  have k15 : Keeps s { s4 with heap := s4.heap.push { cls := .type "slice", data := .fields #[.none, .none, .none] } } := kTrans k12 (kTrans k3 (kTrans k4 k5))
  have I5 := I.keeps (kHeap k15)
  have gb := (kHeap k15).seq g1 g4
  have hab : a ≠ b := fun q => by
    subst q
    have e := I.inst.at_
    (first | exact nS g1 e | exact nS e g1 | exact nD g1 e | exact nD e g1 | cases sE g1 e | (rw [g1] at e; cases e))
    have := I.inst.cls
    (first | exact nS g2 this | exact nS this g2 | exact nD g2 this | exact nD this g2 | cases sE g2 this | (rw [g2] at this; cases this))
  obtain ⟨vself, zs, rs⟩ := c5.cx.st.nm "self" _ rfl
  (first | obtain rfl := rs.toV | obtain ⟨t, rfl⟩ := rs.toS | obtain ⟨t, rfl⟩ := rs.toI | obtain rfl := rs.toB | cases rs)
  refine setItem_acc c5.cx.kin I5.inst (m_setall a s4.heap.objs.size b m ox.cls ox.dict ox.slots default ol us mu hab hz) ⟨seqObj_of I5, Heap.get?_push_size _ rfl, gb, g2, g4, ?_⟩
  obtain ⟨ox6, m6, I6⟩ := I5.upd fun xs => xs.extract 0 0 ++ us ++ xs.extract 0 xs.size
  have hus : ((#[] : Array Value).extract 0 0 ++ us ++ (#[] : Array Value).extract 0 (#[] : Array Value).size) = us := by simp
  rw [hus] at I6
  have k6 : KeepsX [a] { s4 with heap := s4.heap.push { cls := .type "slice", data := .fields #[.none, .none, .none] } } { s4 with heap := (s4.heap.push { cls := .type "slice", data := .fields #[.none, .none, .none] }).update a (Obj.mapSeq fun xs => xs.extract 0 0 ++ us ++ xs.extract 0 xs.size) } := kxUpd c5.cx.inv.bs ha
  have c6kin := kin_x c5.cx.inv.bs c5.cx.kin k6 (by simpa using ha)
  have hloc : (callEnvC _ L 189).locals ≠ a := fun q => by
    obtain ⟨_, o1, es, ep, e1, d1, _⟩ := c5.cx.st.ns
    (first | exact nSg q I5.inst.at_ e1 | cases sEg q I5.inst.at_ e1 | (rw [q, I5.inst.at_] at e1; cases e1))
    (first | exact nS I5.data d1 | exact nS d1 I5.data | exact nD I5.data d1 | exact nD d1 I5.data | cases sE I5.data d1 | (rw [I5.data] at d1; cases d1))
  refine wpAny_execs_cons (plainObj_wpAny_Assign_Attribute (wpAny_Constant_int ?_) rfl)
  rcases zs with ⟨kl, ml, hns, hml⟩ | ⟨_, cl, hcl, _⟩
  · have hns6 := k6.ns hns (by simpa using hloc)
    refine wpAny_Name (wpAny_loadName_local (m := ml) c5.cx.st.kind kl hns6 hml ?_) (by decide)
    refine set_acc (m := accNs t) c6kin I6.inst I6.dict I6.ns hsm (fun y hy => by unfold accNs; rw [if_neg hy]) fun h' tk od' hg hsm' hns' hsb => ?_
    refine wpAny_execs_nil ?_
    have hne := I6.ne
    have hgo : h'.get? a = some ox6 := (hsb.2 a (Ne.symm hne)).trans I6.inst.at_
    have ns7 : h'.Ns dA (accNs s4.toks) := hns'
    refine hq _ ox6 od' s4.toks m6 ((KeepsX.of (X := [a, dA]) k15).trans ((k6.mono (Y := [a, dA]) (by simp)).trans ?_)) ⟨⟨hgo, I6.inst.cls, I6.inst.no, by rw [I6.dict]; exact hg⟩, I6.dict, I6.data, ns7, lookIn_ns ns7 hg, hg⟩ hsm'
    exact KeepsX.mono (kxSame (tk := tk) c5.cx.inv.bs hd hsb) (by simp)
  · cases hcl
end
end Mine
end

section
open PySem PySem.W PySem.Calls PyProof.Rows PySem.SeqAt PySem.MeetsSeq Builtin.ObjectAttr
set_option Elab.async false
set_option tactic.hygienic false
set_option linter.unusedVariables false
set_option maxRecDepth 100000
namespace Mine
/-! _Accumulator() -/
theorem kind_lnew : builtinKind "list.__new__" = some .builtinFn := by decide +kernel
theorem split_lnew : splitId "list.__new__" = some ("list", "__new__") := by decide +kernel
theorem sig_lnew : Manifest.signature? "list.__new__" = some ⟨.any, "list", "list", .cls, [⟨"args", .varPos, false⟩, ⟨"kwargs", .varKw, false⟩]⟩ := by kernel_rfl
noncomputable abbrev rawAcc (dA : Addr) : Obj := { cls := .ref 207, dict := some dA, data := .seq #[] }
section
variable {w : World} {hb : Heap} {n : Nat} {A : Around} {env : Env} {ls ls' : List (Str × D)} {σ σ' σ'' τ : List Ob} {ad ad' ad'' : List Addr} {s s' s'' : Shared} {E : Value → Shared → Prop} {X Y : List Addr}
theorem made207 {M : Model} {h : Heap} (X : (Kf w).In h) : Looks M h (Bind.madeBy (.ref 207)) (some "list.__new__") := by
  obtain ⟨oc, od, cd, sl, ho, hm, h4⟩ : ∃ oc od cd sl, (Kf w).lookup 207 = some ⟨oc, od, .cls cd, sl⟩ ∧ cd.mro = [.ref 207, .type "list", .type "object"] ∧ (sl.toList[4]?).join = some (.builtin "list.__new__") := ⟨_, _, _, _, rfl, rfl, rfl⟩
  have hc : clsIn (Kf w) 207 = some cd := by unfold clsIn; rw [ho]
  have hmro : Looks M h (mroOf (.ref 207)) cd.mro := (looks_clsIn X hc).andThen .now
  intro A Q E s k q
  unfold Bind.madeBy
  refine wpAny_bind (hmro A _ E s k ?_)
  rw [hm, List.forIn_cons]
  refine wpAny_bind (wpAny_bind (wpAny_bind (wpAny_bind (wpAny_loadPart (k _ _ (X _ _ ho)) (wpAny_pure ?_)))))
  dsimp only
  rw [← Array.getElem?_toList, h4]
  exact wpAny_pure (wpAny_pure (wpAny_pure q))
theorem base207 {M : Model} {h : Heap} (X : (Kf w).In h) : Looks M h (Bind.staticBase (.ref 207)) (.ref 207) := by
  obtain ⟨oc, od, cd, sl, ho, hm⟩ : ∃ oc od cd sl, (Kf w).lookup 207 = some ⟨oc, od, .cls cd, sl⟩ ∧ cd.mro = [.ref 207, .type "list", .type "object"] := ⟨_, _, _, _, rfl, rfl⟩
  have hc : clsIn (Kf w) 207 = some cd := by unfold clsIn; rw [ho]
  have hmro : Looks M h (mroOf (.ref 207)) cd.mro := (looks_clsIn X hc).andThen .now
  intro A Q E s k q
  unfold Bind.staticBase
  refine wpAny_bind (hmro A _ E s k ?_)
  rw [hm, List.forIn_cons]
  exact wpAny_bind (wpAny_bind (wpAny_bind (made207 X A _ E s k (wpAny_pure (wpAny_pure (wpAny_pure q))))))
theorem code_new207 {R : Result → Shared → Prop} (X : (Kf w).In s.heap)
    (h : R (.ok (.ret (.ref (s.heap.objs.size + 1)))) { s with heap := (s.heap.push emptyDict).push (rawAcc s.heap.objs.size) }) : codeAny (model pg w) A (.call (.builtin "list.__new__") ⟨[.ref 207], []⟩) R s := by
  obtain ⟨hh, g, d, t, os⟩ := s
  have made := made207 (M := model pg w) X
  have base := base207 (M := model pg w) X
  have subl : Looks (model pg w) hh (isSubtype (.ref 207) (.type "list")) true := looks_mroIn X rfl
  obtain ⟨oc, od, cd, sl, ho, hdel, hdict⟩ : ∃ oc od cd sl, (Kf w).lookup 207 = some ⟨oc, od, .cls cd, sl⟩ ∧ cd.hasDel = false ∧ cd.hasDict = true := ⟨_, _, _, _, rfl, rfl, rfl⟩
  have hC : hh.get? 207 = some ⟨oc, od, .cls cd, sl⟩ := X _ _ ho
  have args : Bind.checkArgs "list.__new__" ⟨.any, "list", "list", .cls, [⟨"args", .varPos, false⟩, ⟨"kwargs", .varKw, false⟩]⟩ ⟨[.ref 207], []⟩ = pure () := by kernel_rfl
  refine codeAny_of_tree ?_
  show wpAny _ A.in1 (do checkBuiltinCall "list.__new__" ⟨[.ref 207], []⟩; again (.builtin "list.__new__" ⟨[.ref 207], []⟩)) _ _ _
  refine wpAny_bind ?_
  simp only [checkBuiltinCall, kind_lnew, split_lnew, sig_lnew]
  rw [args]
  dsimp only at made base subl
  repeat (first | simp only [bne_self_eq_false, Bool.false_eq_true, if_false] | (with_reducible refine ks_wpAny_isType_cls hC rfl ?_) | lk)
  refine ⟨plainId_quiet F.plain_list_new _, codeAny_builtin_stack F.entry_list_new rfl fun p st => ?_⟩
  rw [Around.under_plainId F.plain_list_new _]
  have hown := owner_list_new
  simp only [hown]
  have hcm : clsIn (Kf w) 207 = some cd := by unfold clsIn; rw [ho]
  repeat (first | simp only [bne_self_eq_false, Bool.false_eq_true, if_false] | (with_reducible refine ks_wpAny_isType_cls hC rfl ?_) | lk)
  have hC2 := Heap.get?_push_of_some ({ cls := .ref 207, dict := some hh.objs.size, data := .seq #[] } : Obj) (Heap.get?_push_of_some ({ cls := .type "dict", data := .dict #[] } : Obj) hC)
  refine nd_load hC2 (wpAny_pure ?_)
  dsimp only
  rw [hdel]
  refine wpAny_pure ?_
  rw [if_neg (by decide)]
  refine wpAny_pure (wpAny_pure ?_)
  have hs : (hh.push { cls := .type "dict", data := .dict #[] }).objs.size = hh.objs.size + 1 := Heap.size_push ..
  show R (.ok (.ret (.ref (hh.push { cls := .type "dict", data := .dict #[] }).objs.size))) _
  rw [hs]
  exact h
-- the class is called
theorem code_make207 {R : Result → Shared → Prop} (X : (Kf w).In s.heap)
    (h : codeAny (model pg w) (A.under (.builtin "type.__call__" ⟨[.ref 207], []⟩)) (.call (.ref 144) ⟨[.ref (s.heap.objs.size + 1)], []⟩) (InitBack (s.heap.objs.size + 1) R) { s with heap := (s.heap.push emptyDict).push (rawAcc s.heap.objs.size) }) :
    codeAny (model pg w) A (.call (.ref 207) ⟨[], []⟩) R s := by
  obtain ⟨hh, g, d, t, os⟩ := s
  have made := made207 (M := model pg w) X
  have call : Looks (model pg w) hh (specialOf (.ref 207) "__call__") (some (.builtin "type.__call__")) := looks_specialIn X rfl
  have typ : Looks (model pg w) hh (isInstance (.ref 207) (.type "type")) true := looks_instIn X rfl
  have self : Looks (model pg w) hh (isSubtype (.ref 207) (.ref 207)) true := looks_mroIn X rfl
  have hi : Looks (model pg w) hh (typeLookup (.ref 207) "__init__") (some (.ref 144)) := looks_findIn X rfl
  obtain ⟨oc, od, cd, sl, ho, hm0⟩ : ∃ oc od cd sl, (Kf w).lookup 207 = some ⟨oc, od, .cls cd, sl⟩ ∧ cd.mro = [.ref 207, .type "list", .type "object"] := ⟨_, _, _, _, rfl, rfl⟩
  have hC : hh.get? 207 = some ⟨oc, od, .cls cd, sl⟩ := X _ _ ho
  have e4 : cd.mro.isEmpty = false := by rw [hm0]; rfl
  dsimp only at made
  refine codeAny_of_tree ?_
  show wpAny _ _ (callAny (.ref 207) _) _ _ _
  refine nd_load hC ?_
  show wpAny _ _ (callAny.viaDunder (.ref 207) _) _ _ _
  unfold callAny.viaDunder
  refine wpAny_bind (call.at ?_)
  dsimp only
  rw [tc_bind]
  refine wpAny_bind (wpAny_pure (wpAny_bind (wpAny_pure ?_)))
  refine wpAny_pure (a := Fin.again (.call (.builtin "type.__call__") ⟨[.ref 207], []⟩)) (And.intro rfl ?_)
  refine codeAny_call_builtin_at (Code.quiet_builtin _ (by decide +kernel)) entry_typeCall (check_slot tc_kind tc_split typ (tc_args _ _ _) ?_)
  unfold Builtin.«type.__call__»
  have hm : Looks (model pg w) hh (mroOf (.ref 207)) cd.mro := ((Looks.ld (part := none) hC).andThen .now).andThen .now
  repeat (first | simp only [e4, Bool.false_eq_true, if_false] | with_reducible refine wpAny_call ?_ | lk)
  refine code_new207 (s := ⟨hh, g, d, t, os⟩) X ?_
  have k : ∀ b o, hh.get? b = some o → ((hh.push emptyDict).push (rawAcc hh.objs.size)).get? b = some o := fun b o e => Heap.get?_push_of_some _ (Heap.get?_push_of_some _ e)
  have hx : ((hh.push emptyDict).push (rawAcc hh.objs.size)).get? (hh.objs.size + 1) = some (rawAcc hh.objs.size) := by heap_get
  have t1 : Looks (model pg w) ((hh.push emptyDict).push (rawAcc hh.objs.size)) (typeOf (.ref (hh.objs.size + 1))) (.ref 207) := (Looks.ld hx).andThen .now
  have s1 := self.keeps k
  have i1 := hi.keeps k
  have b1 := (bind_fn X (.ref (hh.objs.size + 1)) (f := 144) rfl : Looks (model pg w) hh _ _).keeps k
  unfold isInstance callSpecial? specialOf
  dsimp only
  repeat (first | with_reducible refine wpAny_call ?_ | lk)
  refine codeAny_mono h fun r s' z => ?_
  rcases r with e | (v | _ | _ | _) <;> first | exact z | exact z.elim | skip
  obtain ⟨rfl, z⟩ := z
  exact wpAny_pure (wpAny_pure z)
end
end Mine
end

section
open PySem PySem.W PySem.Calls PyProof.Rows PySem.SeqAt PySem.MeetsSeq Builtin.ObjectAttr
open AutoSeq1 (wpAny_loadPart')
set_option Elab.async false
set_option tactic.hygienic false
set_option linter.unusedVariables false
set_option maxRecDepth 100000
namespace Mine
section
variable {w : World} {hb : Heap} {n : Nat} {A : Around} {env : Env} {ls ls' : List (Str × D)} {σ σ' σ'' τ : List Ob} {ad ad' ad'' : List Addr} {s s' s'' : Shared} {E : Value → Shared → Prop} {X Y : List Addr}
theorem Rm.under207 {h : Heap} (r : Rm hb (n + 1) A h) : Rm hb n (A.under (.builtin "type.__call__" ⟨[.ref 207], []⟩)) h := by
  refine ⟨r.handled, ?_, ?_, ?_⟩
  · have := r.depth
    show A.depth + Code.weight (.builtin "type.__call__" ⟨[.ref 207], []⟩) + n ≤ 900
    have hw : Code.weight (.builtin "type.__call__" ⟨[.ref 207], []⟩) ≤ 1 := by decide +kernel
    lia
  · have := r.units
    show A.units + Code.cUnits (.builtin "type.__call__" ⟨[.ref 207], []⟩) + 20 * n ≤ 9000
    have hw : Code.cUnits (.builtin "type.__call__" ⟨[.ref 207], []⟩) ≤ 2 := by decide +kernel
    lia
  · obtain ⟨outer, e1, e2⟩ := r.frames
    exact ⟨outer, by unfold Around.under; dsimp only; rw [e1]; rfl, e2⟩
theorem bnd_144 {fd : FuncData} {oc : Value} {od : Option Addr} {osl : Array (Option Value)} {d1 : D} (hk : (Kf w).lookup 144 = some ⟨oc, od, .func fd, osl⟩) : Bnd w hb fd [d1] ["self", "initial_size"] [d1, .int 0] := fun A s σ ad vals i o r => by
  obtain ⟨v, rfl, r1⟩ := r.one
  obtain ⟨o1, e1, m1, t0, e2⟩ : ∃ o1, (Kf w).lookup 136 = some o1 ∧ ∃ m1 t0, o1.data = .seq #[.int 0 t0] m1 := ⟨_, rfl, _, _, rfl⟩
  obtain ⟨fd', oc', od', osl', h1, h2⟩ : ∃ fd' oc' od' osl', (Kf w).lookup 144 = some ⟨oc', od', .func fd', osl'⟩ ∧ ∃ it, ∃ e : Sem (List (Str × Value)), bindArgs fd' ⟨[v], []⟩ = (seqItems? (.ref 136) >>= it) ∧ it (some #[.int 0 t0]) = pure ([(Str.ofString "self", v), (Str.ofString "initial_size", .int 0 t0)] : List (Str × Value)) := ⟨_, _, _, _, rfl, _, pure [], rfl, by kernel_rfl⟩
  (first | exact nS h1 hk | exact nS hk h1 | exact nD h1 hk | exact nD hk h1 | cases sE h1 hk | (rw [h1] at hk; cases hk))
  obtain ⟨it, _, h2, h3⟩ := h2
  rw [h2]
  refine wpAny_bind (wpAny_seqItems (i.kin _ _ e1) e2 ?_)
  rw [h3]
  exact wpAny_pure ⟨[v, .int 0 t0], rfl, kRefl s, .cons r1 (.cons (.int _ _) .nil)⟩
theorem supEnv144 (L : Addr) : ∃ fd oc od osl, (Kf w).lookup 144 = some ⟨oc, od, .func fd, osl⟩ ∧ SupEnv w (callEnv fd L 144) := 
  ⟨_, _, _, _, rfl, ⟨rfl, rfl, rfl, _, _, _, _, _, _, _, _, _, _, _, _, _, rfl, rfl, rfl, rfl, rfl, rfl, rfl, by decide +kernel⟩⟩
theorem sup144 {oc : Value} {od : Option Addr} {fd : FuncData} {osl : Array (Option Value)} {L : Addr} (hk : (Kf w).lookup 144 = some ⟨oc, od, .func fd, osl⟩) : SupEnv w (callEnv fd L 144) := by
  obtain ⟨fd', oc', od', osl', h1, h2⟩ := supEnv144 (w := w) L
  (first | exact nS h1 hk | exact nS hk h1 | exact nD h1 hk | exact nD hk h1 | cases sE h1 hk | (rw [h1] at hk; cases hk)); exact h2
theorem init_bound {x : Addr} {ox : Obj} {od : Option Obj} {Q : Unit → Shared → Prop} (X : (Kf w).In s.heap) (I : W.InstAt s.heap x ox 207 od) (q : Q () s) : wpAny (model pg w) A (checkBoundCall "list.__init__" ⟨[.ref x], []⟩) Q E s := by
  have : checkBoundCall "list.__init__" ⟨[.ref x], []⟩ = pure () := by kernel_rfl
  rw [this]; exact wpAny_pure q
theorem entry_linit : entryFor table "list.__init__" = some Builtin.«list.__init__» := entryFor_of_tree (by kernel_rfl)
theorem m_init (l : Addr) (k : Nat) (cls : Value) (dct : Option Addr) (slo : Array (Option Value)) :
    Meets (Builtin.«list.__init__» ⟨[.ref l], []⟩) (fun _ R s => s.heap.get? l = some (SeqObj cls dct slo #[] k) ∧ R (.ok (.ret .none)) { s with heap := s.heap.update l (Obj.mapSeq fun _ => #[]) }) :=
  .of_wp fun prog w A R s h => by
    obtain ⟨hp, g, d, tk, os⟩ := s; obtain ⟨hl, h⟩ := h
    wp_walk using wpAny_loadPart' hl, (wpAny_updateSeq hl rfl (hz := by decide) (_hz' := by decide))
    exact ⟨_, rfl, h⟩
end
end Mine
end

section
open PySem PySem.W PySem.Calls PyProof.Rows PySem.SeqAt PySem.MeetsSeq Builtin.ObjectAttr
set_option Elab.async false
set_option tactic.hygienic false
set_option linter.unusedVariables false
set_option maxRecDepth 100000
namespace Mine
section
variable {w : World} {hb : Heap} {n : Nat} {A : Around} {env : Env} {ls ls' : List (Str × D)} {σ σ' σ'' τ : List Ob} {ad ad' ad'' : List Addr} {s s' s'' : Shared} {E : Value → Shared → Prop} {X Y : List Addr}
theorem Sees.unique {h : Heap} {x : Str} {v u : Value} (a : Sees env h x v) (b : Sees env h x u) : v = u := by
  rcases a with ⟨k, m, n, e⟩ | ⟨k, c, l, n⟩
  · rcases b with ⟨k', m', n', e'⟩ | ⟨k', _⟩
    · rw [ns_unique n n', e'] at e; cases e; rfl
    · rw [k] at k'
      rcases k' with k' | ⟨k', _⟩ <;> cases k'
  · rcases b with ⟨k', _⟩ | ⟨k', c', l', n'⟩
    · rw [k'] at k
      rcases k with k | ⟨k, _⟩ <;> cases k
    · (first | exact nS l l' | exact nS l' l | exact nD l l' | exact nD l' l | cases sE l l' | (rw [l] at l'; cases l'))
      obtain ⟨o, e, d⟩ := n
      obtain ⟨o', e', d'⟩ := n'
      (first | exact nS e e' | exact nS e' e | exact nD e e' | exact nD e' e | cases sE e e' | (rw [e] at e'; cases e'))
      (first | exact nS d d' | exact nS d' d | exact nD d d' | exact nD d' d | cases sE d d' | (rw [d] at d'; cases d')); rfl
-- a name's very value, read as something more
theorem Cs.redat {x : Str} {v : Value} {d : D} (c : Cs w hb n A env ls σ ad s) (hx : ls.lookup x = some (.val v)) (r : Rd s.heap ad v d) : Cs w hb n A env ((x, d) :: ls) σ ad s := by
  refine ⟨⟨c.cx.rm, c.cx.inv, { c.cx.st with nm := fun y dy e => ?_ }⟩, c.top, c.fn⟩
  rw [look_cons] at e
  by_cases hy : (y == x) = true
  · rw [if_pos hy] at e; cases e
    obtain ⟨v', z, r'⟩ := c.cx.st.nm x _ hx
    (first | obtain rfl := r'.toV | obtain ⟨t, rfl⟩ := r'.toS | obtain ⟨t, rfl⟩ := r'.toI | obtain rfl := r'.toB | cases r')
    rw [beq_iff_eq.mp hy]
    exact ⟨v, z, r⟩
  · rw [if_neg hy] at e
    exact c.cx.st.nm y dy e
theorem Cs.seesVal {x : Str} {v u : Value} (c : Cs w hb n A env ls σ ad s) (hx : ls.lookup x = some (.val v)) (z : Sees env s.heap x u) : u = v := by
  obtain ⟨v', z', r'⟩ := c.cx.st.nm x _ hx
  (first | obtain rfl := r'.toV | obtain ⟨t, rfl⟩ := r'.toS | obtain ⟨t, rfl⟩ := r'.toI | obtain rfl := r'.toB | cases r')
  exact z.unique z'
theorem loc_fx {env : Env} : env.locals ∈ fx env := List.mem_cons_self
theorem deeper_outer {A' : Around} {env : Env} {outer outer0 : List Env} (e1 : A'.frames = some outer0) (ho : (A'.deeper env).frames = some outer) : outer = env :: outer0 := by
  have h1 : Option.map (env :: ·) A'.frames = some outer := ho
  rw [e1] at h1
  exact (Option.some.inj h1).symm
-- a new, empty accumulator
set_option tactic.hygienic true in
theorem call_new {Q : Value → Shared → Prop} (rm : Rm hb (n + 2) A s.heap) (i : Inv w hb s) (o : Own hb σ ad s.heap)
    (hq : ∀ s' a dA ox od t m, Keeps s s' → s.heap.get? a = none → s.heap.get? dA = none → AccI s'.heap a dA ox od t #[] m → SmallDict od → Q (.ref a) s') : wpAny (model pg w) A (call (.ref 207) []) Q E s := by
  refine wpAny_call (code_make207 i.kin ?_)
  have k1 : Keeps s { s with heap := (s.heap.push emptyDict).push (rawAcc s.heap.objs.size) } := kTrans (kPush s _) (kPush _ _)
  have hdn : s.heap.get? s.heap.objs.size = none := fresh_none s
  have han : s.heap.get? (s.heap.objs.size + 1) = none := new_none (Nat.le_succ _)
  have hd1 : ((s.heap.push emptyDict).push (rawAcc s.heap.objs.size)).get? s.heap.objs.size = some emptyDict := Heap.get?_push_of_some _ (Heap.get?_push_size _ rfl)
  have ha1 : ((s.heap.push emptyDict).push (rawAcc s.heap.objs.size)).get? (s.heap.objs.size + 1) = some (rawAcc s.heap.objs.size) := by
    have : ((s.heap.push emptyDict).push (rawAcc s.heap.objs.size)).get? (s.heap.push emptyDict).objs.size = some (rawAcc s.heap.objs.size) := Heap.get?_push_size _ rfl
    rwa [Heap.size_push] at this
  have hdb : hb.get? s.heap.objs.size = none := i.newer (Nat.le_refl _)
  have hab : hb.get? (s.heap.objs.size + 1) = none := i.newer (Nat.le_succ _)
  have hdad : s.heap.objs.size ∉ ad := o.fresh
  have haad : s.heap.objs.size + 1 ∉ ad := fun hm => by have := o.old hm; exact Nat.lt_irrefl _ (Nat.lt_of_le_of_lt (Nat.le_succ _) this)
  have hfr0 := (Rm.under207 rm).frames
  generalize hs1 : ({ s with heap := (s.heap.push emptyDict).push (rawAcc s.heap.objs.size) } : Shared) = s1 at k1
  have hd1 : s1.heap.get? s.heap.objs.size = some emptyDict := by rw [← hs1]; exact hd1
  have ha1 : s1.heap.get? (s.heap.objs.size + 1) = some (rawAcc s.heap.objs.size) := by rw [← hs1]; exact ha1
  generalize hdA : s.heap.objs.size = dA at *
  generalize haA : dA + 1 = a at *
  refine enterAt (args := [.val (.ref a)]) ["self", "initial_size"] rfl rfl (bnd_144 rfl) ((Rm.under207 rm).keeps (kHeap k1)) (i.keeps k1) (o.keeps (kHeap k1)) (.cons (.val _) .nil) (fun L s2 k2 c2 hnew => ?_) (clo_ok rfl) (by simp)
  refine ks_wpAt_execs_cons (wpAt_of_wpAny (plainObj_wpAny_Assign_Attribute ((Ev.name rfl).useS c2 fun v s3 k3 c3 r3 => (Ev.name rfl).useS c3 fun u s4 k4 c4 r4 => ?_) rfl))
  cases r3; cases r4
  rename_i t0
  have k24 : Keeps s1 s4 := kTrans k2 (kTrans k3 k4)
  have hd4 : s4.heap.get? dA = some emptyDict := (kHeap k24).get _ _ hd1 fun _ vs q => by cases q
  have ha4 : s4.heap.get? a = some (rawAcc dA) := (kHeap k24).get _ _ ha1 fun _ vs q => by cases q
  have ns4 : s4.heap.Ns dA (fun _ => none) := ⟨_, #[], 0, hd4, rfl, (by intro e he; simp at he), fun _ => rfl⟩
  have I4 : W.InstAt s4.heap a (rawAcc dA) 207 (some emptyDict) := ⟨ha4, rfl, rfl, hd4⟩
  refine set_acc (m := fun _ => none) c4.cx.kin I4 rfl ns4 ⟨rfl, _, _, rfl, by simp⟩ (fun _ _ => rfl) fun h5 tk5 od5 hg5 hsm5 hns5 hsb5 => ?_
  have hfx := fun b hm => (show b ≠ dA ∧ b ≠ a from ⟨fun q => (by have z := hnew b hm; (first | exact nSg q hd1 z | cases sEg q hd1 z | (rw [q, hd1] at z; cases z))), fun q => (by have z := hnew b hm; (first | exact nSg q ha1 z | cases sEg q ha1 z | (rw [q, ha1] at z; cases z)))⟩)
  have hloc := hfx _ loc_fx
  have c5 := c4.skipG (h' := h5) (tk := tk5) hdb (nd_ns ns4 rfl) (fun b o hb' e => hsb5.extBut b o hb' e) (Ne.symm hloc.1) (fun nm b hm q => by
      obtain ⟨_, _, _, v, o', e', _⟩ := c4.cx.st.cel nm b hm
      have hm' : b = 131 := by
        have : (nm, b) ∈ ([("__class__", 131)] : List (Str × Addr)) := hm
        simp only [List.mem_singleton, Prod.mk.injEq] at this
        exact this.2
      rw [← q, hm', i.bs.k 131 _ rfl] at hdb; cases hdb) hdad (fun outer ho env' hm q => by
      obtain ⟨outer0, e1, e2⟩ := hfr0
      rw [deeper_outer e1 ho] at hm
      rcases memc hm with rfl | hm
      · (first | exact nS c4.fn.frame q | exact nS q c4.fn.frame | exact nD c4.fn.frame q | exact nD q c4.fn.frame | cases sE c4.fn.frame q | (rw [c4.fn.frame] at q; cases q)); exact hloc.1 rfl
      · obtain ⟨_, L', ob, h1, h2, h3, _⟩ := e2 env' hm
        (first | exact nS h1 q | exact nS q h1 | exact nD h1 q | exact nD q h1 | cases sE h1 q | (rw [h1] at q; cases q))
        (first | exact nS h3 hdn | exact nS hdn h3 | exact nD h3 hdn | exact nD hdn h3 | cases sE h3 hdn | (rw [h3] at hdn; cases hdn)))
  have hloc' := hloc
  have ha5 : h5.get? a = some (rawAcc dA) := hsb5.extBut a _ (by rw [← haA]; exact Nat.succ_ne_self _) ha4
  have at5 : AccAt h5 ad a #[] := ⟨0, rawAcc dA, dA, od5, t0, ha5, rfl, rfl, rfl, hg5, hsm5, hdad, hns5⟩
  have c6 := c5.redat (x := "self") (v := .ref a) (d := .acc []) rfl (.acc at5 haad .nil)
  refine ks_wpAt_execs_cons (ks_wpAt_Expr_any (super_callP (P := fun v => v = .ref a) (id := "list.__init__") (B := "method-wrapper") (sup144 rfl) c6 rfl (.inl rfl) (fun v z => c5.seesVal rfl z) rfl rfl (by show builtinType _ = _; rw [builtinType_eq_fast]; kernel_rfl) slot_wd.lookup (fun x A s ox od R X I hR => get_init X I hR) (.inl rfl)
    (fun x s ox od A Q E X I q => init_bound X I q) entry_linit (by decide +kernel) fun x s7 k7 r7 hx => ?_) rfl rfl)
  cases hx
  have c7 := c6.keeps k7
  obtain ⟨x', vs7, q, at7, r7'⟩ := r7.isA (σ := σ) (.inl rfl) c7.cx.st.own
  cases q
  have hvs : vs7 = #[] := by
    have := r7'.length
    rw [Array.length_toList] at this
    exact Array.eq_empty_of_size_eq_zero this
  subst hvs
  obtain ⟨dA7, ox7, od7, t7, m7, I7, hdad7, hsm7⟩ := at7.inst
  refine ⟨_, m_init a m7 ox7.cls ox7.dict ox7.slots, seqObj_of I7, ?_⟩
  obtain ⟨ox8, m8, I8⟩ := I7.upd fun _ => #[]
  refine wpAt_of_wpAny (wpAny_execs_nil ⟨rfl, ?_⟩)
  have kk : Keeps s { s4 with heap := h5, toks := tk5 } := kDropX (X := [dA]) (kTrans k1 k24) (kxSame (s := s4) (tk := tk5) i.bs hdb hsb5) (by simpa using hdn)
  have kk2 : Keeps s s7 := kTrans kk k7
  have hd7 : dA7 = dA := by
    have e1 := (kHeap k7).get _ _ ha5 fun _ vs q => by cases q
    (first | exact nS I7.inst.at_ e1 | exact nS e1 I7.inst.at_ | exact nD I7.inst.at_ e1 | exact nD e1 I7.inst.at_ | cases sE I7.inst.at_ e1 | (rw [I7.inst.at_] at e1; cases e1))
    have := I7.dict
    cases this; rfl
  rw [hd7] at I8
  exact hq _ a dA ox8 od7 t7 m8 (kDropX (X := [a]) kk2 (kxUpd i.bs hab) (by simpa using han)) han hdn I8 hsm7
end
end Mine
end

section
open PySem PySem.W PySem.Calls PyProof.Rows PySem.SeqAt PySem.MeetsSeq Builtin.ObjectAttr
set_option Elab.async false
set_option tactic.hygienic false
set_option linter.unusedVariables false
set_option maxRecDepth 100000
namespace Mine
section
variable {w : World} {hb : Heap} {n : Nat} {A : Around} {env : Env} {ls ls' : List (Str × D)} {σ σ' σ'' τ : List Ob} {ad ad' ad'' : List Addr} {s s' s'' : Shared} {E : Value → Shared → Prop} {X Y : List Addr}
theorem Rm.in1 {h : Heap} (r : Rm hb (n + 1) A h) : Rm hb n A.in1 h := ⟨r.handled, (by have := r.depth; show A.depth + n ≤ 900; lia), (by have := r.units; show A.units + 1 + 20 * n ≤ 9000; lia), r.frames⟩
theorem len207 (w : World) : findIn (Kf w) (.ref 207) "__len__" = some (some (.ref 174)) := by rfl
theorem bool207 (w : World) : findIn (Kf w) (.ref 207) "__bool__" = some none := by rfl
-- the sizes of pairs
noncomputable def Szs (xs : List (Str × Str)) : Prop := (∀ p ∈ xs, p.1.length ≤ 2 ^ 30 ∧ p.2.length ≤ 2 ^ 30) ∧ xs.length ≤ 2 ^ 20
noncomputable def tot (xs : List (Str × Str)) : Int := (xs.map lenP).sum
theorem lenP_nonneg (p : Str × Str) : 0 ≤ lenP p := Int.natCast_nonneg _
theorem tot_nonneg (xs : List (Str × Str)) : 0 ≤ tot xs := by
  induction xs with
  | nil => exact Int.le_refl 0
  | cons p xs ih => 
    show 0 ≤ (lenP p :: xs.map lenP).sum
    rw [List.sum_cons]
    have := lenP_nonneg p
    have ih' : 0 ≤ (xs.map lenP).sum := ih
    lia
theorem tot_bound {xs : List (Str × Str)} (h : Szs xs) : tot xs < 2 ^ 62 := by
  have h2 := abs_sum_le (B := 2 ^ 31) (xs.map lenP) fun x hx => by
    obtain ⟨p, hp, rfl⟩ := List.mem_map.mp hx
    have := h.1 p hp
    show -(2 ^ 31) ≤ ((p.1.length + p.2.length : Nat) : Int) ∧ ((p.1.length + p.2.length : Nat) : Int) ≤ 2 ^ 31
    lia
  have h3 := h.2
  rw [List.length_map] at h2
  have : ((xs.length : Nat) : Int) * 2 ^ 31 ≤ 2 ^ 20 * 2 ^ 31 := Int.mul_le_mul_of_nonneg_right (by lia) (by decide)
  unfold tot
  have : (2 : Int) ^ 20 * 2 ^ 31 < 2 ^ 62 := by decide
  lia
theorem len_body {d : D} {xs : List (Str × Str)} {v : Value} {Q : Value → Shared → Prop} (hA : IsA σ d (xs.map prD)) (hx : Szs xs) (rm : Rm hb (n + 2) A s.heap) (i : Inv w hb s) (o : Own hb σ ad s.heap) (r : Rd s.heap ad v d)
    (hq : ∀ s' t, Keeps s s' → Q (.int (tot xs) t) s') : wpAny (model pg w) A (Builtin.«len» ⟨[v], []⟩) (fun fin s' => ∃ u, fin = .done (.ret u) ∧ Q u s') E s := by
  obtain ⟨x, vs, rfl, at', r'⟩ := r.isA hA o
  obtain ⟨dA, ox, od, t, m, I, _⟩ := at'.inst
  have h0 := tot_nonneg xs
  have h1 := tot_bound hx
  unfold Builtin.«len»
  refine wpAny_bind (m := oneArg "len" _) (wpAny_pure ?_)
  refine wpAny_bind (m := callSpecial? (.ref x) (Str.ofString "__len__")) (special_fn i.kin I.inst (len207 w) rfl ?_)
  refine wpAny_mono (fs_len hA hx.1 hx.2 A s ad [.ref x] rm i o (.cons r .nil)) (fun u s' q => ?_) fun _ _ f => f.elim
  obtain ⟨k, ru⟩ := q
  (first | obtain rfl := ru.toV | obtain ⟨t, rfl⟩ := ru.toS | obtain ⟨t, rfl⟩ := ru.toI | obtain rfl := ru.toB | cases ru)
  refine wpAny_bind (wpAny_holding (wpAny_pure ?_))
  refine wpAny_bind (wpAny_letGo ?_)
  show wpAny _ _ (if (xs.map lenP).sum < 0 then _ else _) _ _ _
  have e1 : (xs.map lenP).sum = tot xs := rfl
  rw [if_neg (by rw [e1]; lia)]
  show wpAny _ _ (if (xs.map lenP).sum ≥ 2 ^ 63 then _ else _) _ _ _
  rw [if_neg (by rw [e1]; lia)]
  exact wpAny_bind (wpAny_mkInt (wpAny_pure ⟨_, rfl, hq _ _ (kTrans k (kToks _ _))⟩))
theorem Fs.lenA {d : D} {xs : List (Str × Str)} (hA : IsA σ d (xs.map prD)) (hx : Szs xs) : Fs w hb (n + 3) (.builtin "len") [d] σ (.int (tot xs)) := fun A s ad vals rm i o r => by
  obtain ⟨v, rfl, r1⟩ := r.one
  refine Calls.call_function_entry kind_len plain_len entry_len (args_len1 _) ?_
  refine len_body hA hx (n := n) rm.in1 i o r1 fun s' t k => ⟨k, .int _ _⟩
theorem Th.acc {d : D} {xs : List (Str × Str)} (hA : IsA σ d (xs.map prD)) (hx : Szs xs) : Th w hb (n + 3) σ d (tot xs != 0) := fun A s ad v rm i o r => by
  obtain ⟨x, vs, rfl, at', r'⟩ := r.isA hA o
  obtain ⟨dA, ox, od, t, m, I, _⟩ := at'.inst
  unfold truthy
  refine wpAny_bind (m := callSpecial? (.ref x) (Str.ofString "__bool__")) (wpAny_bind (wpAny_bind (I.inst.type.here ((looks_findIn i.kin (bool207 w)).here (wpAny_pure ?_)))))
  refine wpAny_bind (wpAny_bind (I.inst.type.here ((looks_findIn i.kin (len207 w)).here ?_)))
  rw [if_neg (by simp)]
  refine wpAny_bind (wpAny_runValue (codeAny_builtin entry_len ?_))
  rw [Around.under_plainId plain_len _]
  refine wpAny_mono (len_body (Q := fun u s' => ∃ t, u = .int (tot xs) t ∧ Keeps s s') hA hx (n := n) rm.in1 i o r fun s' t k => ⟨t, rfl, k⟩) (fun fin s' q => ?_) fun _ _ f => f
  obtain ⟨u, rfl, t, rfl, k⟩ := q
  exact wpAny_pure ⟨k, rfl⟩
end
end Mine
end

section
open PySem PySem.W PySem.Calls PyProof.Rows PySem.SeqAt PySem.MeetsSeq Builtin.ObjectAttr
set_option Elab.async false
set_option tactic.hygienic false
set_option linter.unusedVariables false
set_option maxRecDepth 100000
namespace Mine
section
variable {w : World} {hb : Heap} {n : Nat} {A : Around} {env : Env} {ls ls' : List (Str × D)} {σ σ' σ'' τ : List Ob} {ad ad' ad'' : List Addr} {s s' s'' : Shared} {E : Value → Shared → Prop} {X Y : List Addr}
theorem Inv.unold {a : Addr} (i : Inv w hb s) (e : s.heap.get? a = none) : hb.get? a = none := by
  cases q : hb.get? a with
  | none => rfl
  | some ob =>
    by_cases ht : a = tb
    · subst ht; obtain ⟨ps, _, _, t⟩ := i.tab; (first | exact nS e t | exact nS t e | exact nD e t | exact nD t e | cases sE e t | (rw [e] at t; cases t))
    · have := i.keep a ob ht q; (first | exact nS e this | exact nS this e | exact nD e this | exact nD this e | cases sE e this | (rw [e] at this; cases this))
theorem Own.notin {h : Heap} {a : Addr} (o : Own hb σ ad h) (e : h.get? a = none) : a ∉ ad := fun hm => by
  obtain ⟨_, _, _, q, _⟩ := o.seqs hm; (first | exact nS e q | exact nS q e | exact nD e q | exact nD q e | cases sE e q | (rw [e] at q; cases q))
theorem AccI.at' {h : Heap} {a dA : Addr} {ox od : Obj} {t : Tok} {vs : Array Value} {m : Nat} (I : AccI h a dA ox od t vs m) (hsm : SmallDict od) (hd : dA ∉ ad) : AccAt h ad a vs :=
  ⟨m, ox, dA, od, t, I.inst.at_, I.inst.cls, I.dict, I.data, I.dat, hsm, hd, I.ns⟩
theorem AccI.of {h h' : Heap} {a dA : Addr} {ox od : Obj} {t : Tok} {vs : Array Value} {m : Nat} (x : AccI h a dA ox od t vs m) (e1 : h'.get? a = some ox) (e2 : h'.get? dA = some od) : AccI h' a dA ox od t vs m := by
  have hn : h'.Ns dA (accNs t) := by
    obtain ⟨o2, es, ep, z1, z2, z3⟩ := x.ns
    (first | exact nS x.dat z1 | exact nS z1 x.dat | exact nD x.dat z1 | exact nD z1 x.dat | cases sE x.dat z1 | (rw [x.dat] at z1; cases z1))
    exact ⟨od, es, ep, e2, z2, z3⟩
  exact ⟨⟨e1, x.inst.cls, x.inst.no, by rw [x.dict]; exact e2⟩, x.dict, x.data, hn, x.look, e2⟩
-- a new accumulator as an owned object
theorem EvW.newAcc {x : Str} {np pos : Pos} (hn : Ev w hb (n + 2) env ls σ (.Name x np) (.val (.ref 207))) : EvW w hb (n + 2) env ls σ (.Call (.Name x np) [] [] pos) (.own σ.length) (σ ++ [.acc []]) := fun A s ad c => by
  refine wpAny_Call_NameR (hn.useS c fun v s1 k1 c1 r1 => ?_)
  (first | obtain rfl := r1.toV | obtain ⟨t, rfl⟩ := r1.toS | obtain ⟨t, rfl⟩ := r1.toI | obtain rfl := r1.toB | cases r1)
  refine callWith_any (Kpr.K rfl) EvA.nil c1.cx fun vs s2 k2 c2 r2 => ?_
  (first | obtain rfl := r2.toV | obtain ⟨t, rfl⟩ := r2.toS | obtain ⟨t, rfl⟩ := r2.toI | obtain rfl := r2.toB | cases r2)
  refine call_new c2.rm c2.inv c2.st.own fun s3 a dA ox od t m k3 fa fd I hsm => ?_
  have hda : dA ∉ ad ++ [a] := fun hm => by
    rcases List.mem_append.mp hm with q | q
    · exact c2.st.own.notin fd q
    · replace q := List.mem_singleton.mp q; exact I.ne q
  have k03 := kTrans (kTrans k1 k2) k3
  have own' : Own hb (σ ++ [.acc []]) (ad ++ [a]) s3.heap := Own.snoc c2.st.own (.pure k3) c2.inv.tab c2.inv.bs (fun b hm o e => by
    obtain ⟨o', vs, m, q1, q2⟩ := c2.st.own.seqs hm
    (first | exact nS e q1 | exact nS q1 e | exact nD e q1 | exact nD q1 e | cases sE e q1 | (rw [e] at q1; cases q1))
    exact (kHeap k3).seq e q2) fa (c2.inv.unold fa) (.acc (I.at' hsm hda) .nil)
  refine ⟨ad ++ [a], .pure k03, .before (kTrans k1 k2) c.cx.inv.tab ⟨[a], rfl, by simpa using fa⟩, own', .own (k := σ.length) ?_⟩
  rw [← c2.st.own.len]; simp
-- a name's value itself
theorem Cs.toVal {x : Str} {d : D} (c : Cs w hb n A env ls σ ad s) (hx : ls.lookup x = some d) : ∃ v, Rd s.heap ad v d ∧ Cs w hb n A env ((x, .val v) :: ls) σ ad s := by
  obtain ⟨v, z, r⟩ := c.cx.st.nm x d hx
  refine ⟨v, r, ⟨⟨c.cx.rm, c.cx.inv, { c.cx.st with nm := fun y dy e => ?_ }⟩, c.top, c.fn⟩⟩
  rw [look_cons] at e
  by_cases hy : (y == x) = true
  · rw [if_pos hy] at e; cases e
    rw [beq_iff_eq.mp hy]
    exact ⟨v, z, .val v⟩
  · rw [if_neg hy] at e
    exact c.cx.st.nm y dy e
theorem findReset (w : World) : findIn (Kf w) (.ref 207) "reset" = some (some (.ref 189)) := by rfl
theorem methReset (w : World) : isMeth (Kf w) (.ref 189) = true := by rfl
-- part = _Accumulator(); part.reset(missing); return part
theorem exs_tail {ys : List D} {dm : D} {x y z : Str} {p1 np cp sp q1 q2 q3 q4 q5 r1 r2 : Pos} (hm : ls.lookup z = some dm) (hl : IsL σ dm ys) (hsz : ys.length ≤ 1000000) (hn : ∀ l, Ev w hb (n + 2) env l σ (.Name x np) (.val (.ref 207)))
    (hy : env.kindOf y = some .local) (hmy : (z == y) = false) (hdy : (y == ("__debug__" : Str)) = false) (hdm : (z == ("__debug__" : Str)) = false) (hline : (q2.endLine == q4.line) = true)
    (hs : autoParam (swapsWith (.Call (.Name x np) [] [] cp) (some (.Name y p1)) sp.line env = pure false) Mine.auR) (hi : autoParam (interactive env = false) Mine.auR) (hsw : autoParam (swapsWith (.Call (.Attribute (.Name y q1) "reset" q2) [.Name z q3] [] q4) none q5.line env = pure false) Mine.auR) :
    Exs w hb (n + 2) env ls σ [.Assign [.Name y p1] (.Call (.Name x np) [] [] cp) sp, .Expr (.Call (.Attribute (.Name y q1) "reset" q2) [.Name z q3] [] q4) q5, .Return (some (.Name y r1)) r2] (.ret (.acc ys)) := fun A s ad c0 => by
  refine hideQ fun Q hQ => ?_
  obtain ⟨vm, rm, c⟩ := c0.toVal hm
  obtain ⟨b, ol, us, mu, rfl, g1, g2, g3, g4, g5⟩ := rm.isL hl c.cx.st.own
  have hus : us.size ≤ 1000000 := by have := g5.length; rw [Array.length_toList] at this; lia
  refine wpAny_execs_cons (wpAny_Assign_Name (wpAny_Call_NameR ((hn _).useS c fun v s1 k1 c1 r1 => ?_)) hs)
  (first | obtain rfl := r1.toV | obtain ⟨t, rfl⟩ := r1.toS | obtain ⟨t, rfl⟩ := r1.toI | obtain rfl := r1.toB | cases r1)
  refine callWith_any (Kpr.K rfl) EvA.nil c1.cx fun vs s2 k2 cx2 r2 => ?_
  (first | obtain rfl := r2.toV | obtain ⟨t, rfl⟩ := r2.toS | obtain ⟨t, rfl⟩ := r2.toI | obtain rfl := r2.toB | cases r2)
  have c2 := c1.keeps k2
  refine call_new cx2.rm cx2.inv cx2.st.own fun s3 a dA ox od t m k3 fa2 fd2 I hsm => ?_
  have c3 := c2.keeps k3
  have k03 := kTrans (kTrans k1 k2) k3
  have fa : s.heap.get? a = none := (kTrans k1 k2).heap.fresh c.cx.inv.tab fa2
  have fd : s.heap.get? dA = none := (kTrans k1 k2).heap.fresh c.cx.inv.tab fd2
  have hba := c.cx.inv.unold fa
  have hbd := c.cx.inv.unold fd
  have nfx : ∀ q, s.heap.get? q = none → q ∉ fx env := fun q hz hm => by
    obtain ⟨_, _, o', e', _⟩ := c.fxcls hm
    (first | exact nS hz e' | exact nS e' hz | exact nD hz e' | exact nD e' hz | cases sE hz e' | (rw [hz] at e'; cases e'))
  refine store_ok c3 (.val (.ref a)) (.inl hy) fun s4 k4 c4 => ?_
  have I4 : AccI s4.heap a dA ox od t #[] m := I.of (k4.get _ _ (nfx a fa) I.inst.at_ fun _ vs q => by (first | exact nS I.data q | exact nS q I.data | exact nD I.data q | exact nD q I.data | cases sE I.data q | (rw [I.data] at q; cases q))) (k4.get _ _ (nfx dA fd) I.dat fun _ vs q => by
    obtain ⟨o2, es, ep, z1, z2, _⟩ := I.ns
    (first | exact nS I.dat z1 | exact nS z1 I.dat | exact nD I.dat z1 | exact nD z1 I.dat | cases sE I.dat z1 | (rw [I.dat] at z1; cases z1)); (first | exact nS z2 q | exact nS q z2 | exact nD z2 q | exact nD q z2 | cases sE z2 q | (rw [z2] at q; cases q)))
  have hbfx : b ∉ fx env := fun hm' => by
    obtain ⟨_, _, o', e', h', _⟩ := c.fxcls hm'
    (first | exact nS g1 e' | exact nS e' g1 | exact nD g1 e' | exact nD e' g1 | cases sE g1 e' | (rw [g1] at e'; cases e')); exact h' _ _ g4
  have k04 : KeepsF env s s4 := (KeepsX.of k03).trans k4
  have gb4 : s4.heap.get? b = some ol := k04.get _ _ hbfx g1 fun _ vs q => by (first | exact nS g4 q | exact nS q g4 | exact nD g4 q | exact nD q g4 | cases sE g4 q | (rw [g4] at q; cases q))
  have hlm : List.lookup z (((y, .val (.ref a)) : Str × D) :: (z, .val (.ref b)) :: ls) = some (.val (.ref b)) := by
    rw [look_cons, if_neg (by rw [hmy]; decide), look_cons, if_pos (beq_self_eq_true z)]
  show wpAny _ _ (execs (_ :: _) env) _ _ _
  refine wpAny_execs_cons (wpAny_Expr_any ?_ hi hsw)
  have hbase : attributeBase (.Name y q1) "reset" env (eval (.Name y q1) env) = eval (.Name y q1) env := rfl
  have hform : methodCallForm (([PySem.Expr.Name z q3]).length + ([] : List Keyword).length) (backTo q4 (starEach [.Name z q3] env)) (backToKw q4 (keywordEach [] env)) = true := rfl
  have hpos : methodCallPos true (.Name y q1) env q2 q4 = pure q4 := by unfold methodCallPos; simp [hline]
  rw [arm_eval_Call, hbase]
  refine wpAny_bind ((Ev.name (d := .val (.ref a)) (by rw [look_cons, if_pos (beq_self_eq_true y)]) hdy).useS c4 fun v s5 k5 c5 r5 => wpAny_bind (wpAny_standAt ?_))
  (first | obtain rfl := r5.toV | obtain ⟨t, rfl⟩ := r5.toS | obtain ⟨t, rfl⟩ := r5.toI | obtain rfl := r5.toB | cases r5)
  have I5 := I4.keeps (kHeap k5)
  unfold methodCall
  rw [hform]
  refine wpAny_bind (wpAny_holding (acc_method c5.cx.kin I5.inst (findReset w) (methReset w) (by rw [I5.look, accName.mk (by decide) t]) ?_))
  refine wpAny_bind (wpAny_of_eq hpos ?_)
  refine callWith_any (Kpr.K rfl) (EvA.plain (EvS.cons (Ev.name hlm hdm) EvS.nil)) c5.cx fun vs s6 k6 cx6 r6 => ?_
  obtain ⟨u, rfl, r6'⟩ := r6.one
  have hu : u = .ref b := by (first | obtain rfl := r6'.toV | obtain ⟨t, rfl⟩ := r6'.toS | obtain ⟨t, rfl⟩ := r6'.toI | obtain rfl := r6'.toB | cases r6'); rfl
  subst hu
  show wpAny _ _ (call (Value.ref 189) [Value.ref a, Value.ref b]) _ _ _
  have k46 := kTrans k5 k6
  have I6 := I5.keeps (kHeap k6)
  have gb6 := (kHeap k46).seq gb4 g4
  refine call_reset (n := n + 1) cx6.rm cx6.inv cx6.st.own I6 hsm hba hbd gb6 g2 g4 hus fun s7 ox7 od7 t7 m7 k7 I7 hsm7 => ?_
  have k06 : KeepsF env s s6 := k04.trans (.of k46)
  have kx : KeepsX (a :: dA :: fx env) s s7 := (k06.mono fun b hm => List.mem_cons_of_mem _ (List.mem_cons_of_mem _ hm)).trans (k7.mono fun b hm => by
    replace hm := mem2f hm
    rcases hm with rfl | rfl
    · exact List.mem_cons_self
    · exact List.mem_cons_of_mem _ List.mem_cons_self)
  have kf : KeepsF env s s7 := (kx.drop fa).drop fd
  show wpAny _ _ (execs (_ :: _) env) _ _ _
  refine wpAny_execs_cons (wpAny_Return_some ?_)
  obtain ⟨v, zs, rs⟩ := cx6.st.nm y (.val (.ref a)) (by rw [look_cons, if_pos (beq_self_eq_true y)])
  (first | obtain rfl := rs.toV | obtain ⟨t, rfl⟩ := rs.toS | obtain ⟨t, rfl⟩ := rs.toI | obtain rfl := rs.toB | cases rs)
  rcases zs with ⟨kl, ml, hns, hml⟩ | ⟨kc, _⟩
  · have hns7 : s7.heap.Ns env.locals ml := KeepsX.ns k7 hns fun hm => by
      obtain ⟨_, o1, es, ep, e1, d1, _⟩ := c.cx.st.ns
      (first | replace hm := mem2 hm | replace hm := mem3 hm | simp only [List.mem_cons, List.not_mem_nil, or_false] at hm)
      rcases hm with q | q
      · (first | exact nSg q fa e1 | cases sEg q fa e1 | (rw [q, fa] at e1; cases e1))
      · (first | exact nSg q fd e1 | cases sEg q fd e1 | (rw [q, fd] at e1; cases e1))
    refine wpAny_Name (wpAny_loadName_local (m := ml) cx6.st.kind kl hns7 hml ?_) hdy
    exact hQ _ _ ⟨kf, .ref a, rfl, .acc (I7.at' hsm7 (c.cx.st.own.notin fd)) (c.cx.st.own.notin fa) (g5.car (c.car kf))⟩
  · rw [hy] at kc
    rcases kc with kc | ⟨kc, _⟩ <;> cases kc
end
end Mine
end

section
open PySem PySem.W PySem.Calls PyProof.Rows PySem.SeqAt PySem.MeetsSeq Builtin.ObjectAttr
set_option Elab.async false
set_option tactic.hygienic false
set_option linter.unusedVariables false
set_option maxRecDepth 100000
namespace Mine
-- a list that is new
noncomputable def EvF (w : World) (hb : Heap) (n : Nat) (env : Env) (ls : List (Str × D)) (σ : List Ob) (e : PySem.Expr) (xs : List D) : Prop :=
  ∀ (A : Around) (s : Shared) (ad : List Addr), Cx w hb n A env ls σ ad s →
    wpAny (model pg w) A (eval e env) (fun v s' => Keeps s s' ∧ ∃ a, v = .ref a ∧ s.heap.get? a = none ∧ Rd s'.heap ad (.ref a) (.lst xs)) (fun _ _ => False) s
section
variable {w : World} {hb : Heap} {n : Nat} {A : Around} {env : Env} {ls ls' fls : List (Str × D)} {σ σ' σ'' τ : List Ob} {ad ad' ad'' : List Addr} {s s' s'' : Shared} {E : Value → Shared → Prop} {X Y : List Addr}
theorem Rd.prMore {h : Heap} {v : Value} {p : Str × Str} {a : Addr} {o : Obj} (e : h.get? a = some o) (hc : o.cls = .type "list") (r : Rd h ad v (prD p)) : Rd h (ad ++ [a]) v (prD p) := by
  cases r with
  | tup h1 h2 h3 h4 h5 h6 =>
    refine .tup h1 h2 h3 h4 (fun hm => ?_) ?_
    · rcases List.mem_append.mp hm with q | q
      · exact h5 q
      · replace q := List.mem_singleton.mp q
        (first | exact nSg q e h1 | cases sEg q e h1 | (rw [q, e] at h1; cases h1)); rw [hc] at h2; exact absurd h2 (by decide)
    · generalize Array.toList _ = l at h6
      cases h6 with
      | cons x y =>
        cases y with
        | cons y z => cases x; cases y; cases z; exact .cons (.str _ _) (.cons (.str _ _) .nil)
theorem RdAll.prMore {h : Heap} {a : Addr} {o : Obj} (e : h.get? a = some o) (hc : o.cls = .type "list") {vs : List Value} {ys : List (Str × Str)} (r : RdAll h ad vs (ys.map prD)) : RdAll h (ad ++ [a]) vs (ys.map prD) :=
  RdAll.ind (P := fun vs ds => ∀ ys : List (Str × Str), ds = ys.map prD → RdAll h (ad ++ [a]) vs ds) (fun _ _ => .nil) (fun h1 _ ih ys q => by
    cases ys with
    | nil => cases q
    | cons y ys =>
      obtain ⟨e1, e2⟩ := List.cons.inj q
      exact .cons (e1 ▸ (e1 ▸ h1 : Rd h ad _ (prD y)).prMore e hc) (ih ys e2)) r ys rfl
theorem EvF.own {e : PySem.Expr} {ys : List (Str × Str)} (h : EvF w hb n env ls σ e (ys.map prD)) : EvW w hb n env ls σ e (.own σ.length) (σ ++ [.lst (ys.map prD)]) := fun A s ad c =>
  wpAny_mono (h A s ad c.cx) (fun v s' q => by
    obtain ⟨k, a, rfl, fa, r⟩ := q
    have o := c.cx.st.own
    have r' : RdOb s'.heap (ad ++ [a]) a (.lst (ys.map prD)) := by
      cases r with
      | lst h1 h2 h3 h4 h5 h6 => exact .lst h1 h2 h3 h4 (h6.prMore h1 h2)
    have own' := Own.snoc (s' := s') o (.pure k) c.cx.inv.tab c.cx.inv.bs (fun b hm o' e => by
      obtain ⟨_, vs, m, q1, q2⟩ := o.seqs hm
      (first | exact nS e q1 | exact nS q1 e | exact nD e q1 | exact nD q1 e | cases sE e q1 | (rw [e] at q1; cases q1))
      exact (kHeap k).seq e q2) fa (c.cx.inv.unold fa) r'
    refine ⟨ad ++ [a], .pure k, ⟨[a], rfl, by simpa using fa⟩, own', .own (k := σ.length) ?_⟩
    rw [← o.len]; simp) fun _ _ f => f
theorem EvF.comp {elt iter : PySem.Expr} {x : Str} {px pos : Pos} {ifs : List PySem.Expr} {scope : Scope} {xs : List D} (p : D → Bool) (g : D → D)
    (hsi : Si w hb n env ls σ iter xs) (hf : Free env scope (closOf scope env) x ls fls)
    (ht : ∀ τ C e, e ∈ xs → TrI w hb n (compEnvC scope (closOf scope env) C env) ((x, e) :: fls) (σ ++ τ) ifs (p e))
    (he : ∀ τ C e, e ∈ xs → p e = true → Ev w hb n (compEnvC scope (closOf scope env) C env) ((x, e) :: fls) (σ ++ τ) elt (g e)) (hpl : ∀ e ∈ xs, p e = true → (g e).pl = true) (hsz : xs.length ≤ 16777216)
    (hfree : autoParam ((scope.names.all fun x => !(x.2 == NameKind.free) || (env.cells.lookup x.1).isSome) = true) Mine.auR) (hkind : autoParam (scope.kind = .function) Mine.auR) (hx : autoParam (scope.names.lookup x = some .local) Mine.auR) (hcell : autoParam (∀ y ∈ scope.names, y.2 ≠ .cell) Mine.auD) (hxi : autoParam (x ≠ "_initial_size") Mine.auD)
    (hnames : autoParam (∀ y ∈ scope.names, y.2 = .local → scope.names.lookup y.1 = some .local) Mine.auD) (hs : autoParam (∀ x, foldedSetIterable iter env x = pure x) Mine.auI) :
    EvF w hb n env ls σ (.ListComp elt [⟨.Name x px, iter, ifs, 0⟩] scope pos) ((xs.filter p).map g) := fun A s ad c => by
  have hclos := closOf_ok hfree
  rw [eval_ListComp]
  refine wpAny_comprehension_free (use := Option.none) rfl hs hclos hkind hnames (hsi A s ad c _ _ fun I fp P S s2 k2 hnew W => ?_)
  refine comp_block (RR := fun acc C => compPost (model pg w) A (fun _ _ => False) Option.none _ acc C) p g c k2 hnew W hf hclos hkind hx hcell hxi ht he hsz hpl ?_
  intro Dd C s3 m vs k3 f1 f2 f3 hn hm hp hr hD
  refine ⟨m, hn, fun h' hs' => ⟨?_, Dd, rfl, f1, rd_plain hn hm hp f3 hr hD hs'⟩⟩
  refine ⟨⟨fun b o e q => hs'.extBut b o (fun q' => by (first | exact nSg q' f2 e | cases sEg q' f2 e | (rw [q', f2] at e; cases e))) (k3.heap.get b o e q), fun t => tabKeeps (fun b o q e => hs'.extBut b o (fun q' => ?_) e) (k3.heap.tab t)⟩, k3.bare, k3.os⟩
  have : ∃ o, s.heap.get? b = some o := by
    rcases q with rfl | rfl
    · obtain ⟨o, _, e, _⟩ := c.inv.tab.fields; exact ⟨o, e⟩
    · exact ⟨_, c.kin 173 _ rfl⟩
  obtain ⟨o', e'⟩ := this
  (first | exact nSg q' f2 e' | cases sEg q' f2 e' | (rw [q', f2] at e'; cases e'))
theorem EvF.add {l r : PySem.Expr} {pos : Pos} {d1 d2 : D} {xs ys : List D} (e1 : Ev w hb n env ls σ l d1) (e2 : Ev w hb n env ls σ r d2) (h1 : IsL σ d1 xs) (h2 : IsL σ d2 ys) (h : xs.length + ys.length ≤ 16777216) :
    EvF w hb n env ls σ (.BinOp l .Add r pos) (xs ++ ys) := fun A s ad c => by
  refine wpAny_BinOp (e1.use c fun u s1 k1 c1 r1 => e2.use c1 fun v s2 k2 c2 r2 => ?_)
  have r1 := r1.keeps (kHeap k2)
  have o := c2.st.own
  obtain ⟨l, ⟨cls, dd, data, sl⟩, vs, m, rfl, ho, hc, e3, hd, e5⟩ := r1.isL h1 o
  obtain ⟨b, ⟨cls2, dd2, data2, sl2⟩, ws, m2, rfl, ho2, hc2, f3, hd2, f5⟩ := r2.isL h2 o
  simp only at hc hd hc2 hd2
  subst hc hd hc2 hd2
  have l1 := e5.length; have l2 := f5.length
  rw [Array.length_toList] at l1 l2
  refine concat_meets ⟨_, ho, rfl⟩ ⟨_, ho2, rfl⟩ noFill_list_add seq_list_add PySem.F.slot_list_add PySem.F.entry_list_add (PySem.F.args_list_add_2 _ _) (list_addW l b vs ws m m2 dd dd2 sl sl2 (sz (by lia))) ⟨ho, ho2, ?_⟩
  refine ⟨kTrans k1 (kTrans k2 (kPush _ _)), _, rfl, (kTrans k1 k2).heap.fresh c.inv.tab (fresh_none s2), ?_⟩
  have := rd_newList (e5.append f5) o
  rw [show (vs.toList ++ ws.toList).toArray = vs ++ ws by simp] at this
  exact this
theorem Co.isNotOwn {k : Nat} : Co w hb n .IsNot σ (.own k) (.own k) false := fun A s ad u v rm i o r1 r2 => by
  obtain ⟨a, rfl, ha⟩ := r1.own'
  obtain ⟨b, rfl, hb'⟩ := r2.own'
  (first | exact nS ha hb' | exact nS hb' ha | exact nD ha hb' | exact nD hb' ha | cases sE ha hb' | (rw [ha] at hb'; cases hb'))
  exact isnot_ref_same ⟨kRefl s, rfl⟩
theorem Co.isNotNoneA {xs : List D} : Co w hb n .IsNot σ (.acc xs) .none true := fun A s ad u v rm i o r1 r2 => by
  (first | obtain rfl := r1.toV | obtain ⟨t, rfl⟩ := r1.toS | obtain ⟨t, rfl⟩ := r1.toI | obtain rfl := r1.toB | cases r1); (first | obtain rfl := r2.toV | obtain ⟨t, rfl⟩ := r2.toS | obtain ⟨t, rfl⟩ := r2.toI | obtain rfl := r2.toB | cases r2)
  exact isnot_ref_none ⟨kRefl s, rfl⟩
theorem Co.isNoneA {xs : List D} : Co w hb n .Is σ (.acc xs) .none false := fun A s ad u v rm i o r1 r2 => by
  (first | obtain rfl := r1.toV | obtain ⟨t, rfl⟩ := r1.toS | obtain ⟨t, rfl⟩ := r1.toI | obtain rfl := r1.toB | cases r1); (first | obtain rfl := r2.toV | obtain ⟨t, rfl⟩ := r2.toS | obtain ⟨t, rfl⟩ := r2.toI | obtain rfl := r2.toB | cases r2)
  exact is_none_ne (by nofun) ⟨kRefl s, rfl⟩
end
end Mine
end

section
open PySem PySem.W PySem.Calls PyProof.Rows PySem.SeqAt PySem.MeetsSeq Builtin.ObjectAttr
set_option Elab.async false
set_option tactic.hygienic false
set_option linter.unusedVariables false
set_option maxRecDepth 100000
namespace Mine
noncomputable abbrev PP := Str × Str
-- the list without the first x
noncomputable def rmv {α : Type} [DecidableEq α] (l : List α) (x : α) : List α := l.erase x
theorem rmv_le {α : Type} [DecidableEq α] {l : List α} {x : α} : (rmv l x).length ≤ l.length := List.length_erase_le
-- one item of the first list against the second
noncomputable def uldStep {α : Type} [DecidableEq α] (a : List α × List α) (x : α) : List α × List α := if x ∈ a.2 then (a.1, rmv a.2 x) else (a.1 ++ [x], a.2)
-- what the def tells: what is missing (from the last on), what is left
noncomputable def uldP {α : Type} [DecidableEq α] (xs ys : List α) : List α × List α := xs.reverse.foldl uldStep ([], ys)
theorem uldStep_len {α : Type} [DecidableEq α] (a : List α × List α) (x : α) : (uldStep a x).1.length ≤ a.1.length + 1 ∧ (uldStep a x).2.length ≤ a.2.length := by
  unfold uldStep
  split
  · exact ⟨Nat.le_succ _, rmv_le⟩
  · simp
theorem uldFold_len {α : Type} [DecidableEq α] : ∀ (l : List α) (a : List α × List α), (l.foldl uldStep a).1.length ≤ a.1.length + l.length ∧ (l.foldl uldStep a).2.length ≤ a.2.length
  | [], a => by simp
  | x :: l, a => by
    rw [List.foldl_cons]
    have h1 := uldStep_len a x
    have h2 := uldFold_len l (uldStep a x)
    simp only [List.length_cons]
    lia
section
variable {w : World} {hb : Heap} {n : Nat} {A : Around} {env : Env} {ls ls' fls : List (Str × D)} {σ σ' σ'' τ : List Ob} {ad ad' ad'' : List Addr} {s s' s'' : Shared} {E : Value → Shared → Prop} {X Y : List Addr}
theorem Th.list {d : D} {xs : List D} (hL : IsL σ d xs) (h : xs.length < 2 ^ 60) : Th w hb n σ d (!xs.isEmpty) := fun A s ad a rm i o r => by
  obtain ⟨a, ob, vs, n, rfl, h1, h2, h3, h4, h5⟩ := r.isL hL o
  have hl := h5.length
  rw [Array.length_toList] at hl
  obtain ⟨cls, dct, dt, sl⟩ := ob
  simp only at h2 h3 h4
  subst h2 h3 h4
  refine wpAny_truthy_list ⟨_, h1, rfl, _, rfl⟩ (by rw [hl]; lia) ⟨kToks s _, ?_⟩
  congr 1
  cases xs <;> simp_all [Array.isEmpty]
-- the first one, that gives up its items by its own pop
structure Pops (w : World) (hb : Heap) (n : Nat) (mk : List D → Ob) (xs : List PP) : Prop where
  th : ∀ (k : Nat) (τ : List Ob) (i : Nat), τ[k]? = some (mk ((xs.take i).map prD)) → Th w hb n τ (.own k) (!(xs.take i).isEmpty)
  pop : ∀ (k : Nat) (env : Env) (ls : List (Str × D)) (τ : List Ob) (i : Nat) (p : PP) (p1 p2 p3 : Pos), xs[i]? = some p → ls.lookup ("expected" : Str) = some (.own k) → τ[k]? = some (mk ((xs.take (i + 1)).map prD)) → (p2.endLine == p3.line) = true →
    EvW w hb n env ls τ (.Call (.Attribute (.Name "expected" p1) "pop" p2) [] [] p3) (prD p) (τ.set k (mk ((xs.take i).map prD)))
theorem take_pop {xs : List PP} {i : Nat} {p : PP} (h : xs[i]? = some p) : (xs.take (i + 1)).map prD = (xs.take i).map prD ++ [prD p] := by
  rw [List.take_add_one, h, Option.toList_some, List.map_append]; rfl
theorem Pops.acc {xs : List PP} (h : Szs xs) (hp : ∀ p ∈ xs, 0 < lenP p) (hl : xs.length ≤ 1000) : Pops w hb (n + 3) .acc xs where
  th := fun k τ i e => by
    have hs : Szs (xs.take i) := ⟨fun p hm => h.1 p (List.mem_of_mem_take hm), by rw [List.length_take]; have := h.2; lia⟩
    have := Th.acc (w := w) (hb := hb) (n := n) (σ := τ) (d := .own k) (xs := xs.take i) (.inr ⟨k, rfl, e⟩) hs
    have e2 : (tot (xs.take i) != 0) = !(xs.take i).isEmpty := by
      generalize hq : xs.take i = q
      have hq' : ∀ p ∈ q, 0 < lenP p := fun p hm => hp p (by rw [← hq] at hm; exact List.mem_of_mem_take hm)
      cases q with
      | nil => rfl
      | cons p q =>
        have h1 := hq' p List.mem_cons_self
        have h2 := tot_nonneg q
        have h3 : tot (p :: q) = lenP p + tot q := by unfold tot; rw [List.map_cons, List.sum_cons]
        have : tot (p :: q) ≠ 0 := by lia
        simp [this]
    exact e2 ▸ this
  pop := fun k env ls τ i p p1 p2 p3 e1 e2 e3 e4 => by
    have e3' := e3
    rw [take_pop e1] at e3'
    exact EvW.methA (Ev.name e2) (.inr ⟨k, rfl, e3⟩) EvA.nil.toW (fs_popA (n := n + 1) e3' (by simp; lia)) (Kpr.K rfl) (accName.mk (by decide)) rfl rfl rfl rfl e4
theorem Pops.lst {xs : List PP} (hl : xs.length ≤ 1000) : Pops w hb n .lst xs where
  th := fun k τ i e => by
    have := Th.list (w := w) (hb := hb) (n := n) (σ := τ) (d := .own k) (xs := (xs.take i).map prD) (.inr ⟨k, rfl, e⟩) (by simp; lia)
    rwa [show ((xs.take i).map prD).isEmpty = (xs.take i).isEmpty by cases xs.take i <;> rfl] at this
  pop := fun k env ls τ i p p1 p2 p3 e1 e2 e3 e4 => by
    have e3' := e3
    rw [take_pop e1] at e3'
    exact EvW.meth (Ev.name e2) EvA.nil.toW (FsW.pop e3' (by simp; lia)) F.plainAttrs_list F.slot_list_pop F.type_list_pop (.inr (.inl ⟨rfl, _, .inr ⟨k, rfl, e3⟩⟩)) rfl rfl e4
theorem set_app1 {l : List Ob} {z y : Ob} {k : Nat} (h : k < l.length) : (l ++ [z]).set k y = l.set k y ++ [z] := List.set_append_left _ _ h
theorem set_app2 {l : List Ob} {z y : Ob} {k : Nat} (h : k = l.length) : (l ++ [z]).set k y = l ++ [y] := by
  rw [List.set_append_right _ _ (by lia), h, Nat.sub_self]; rfl
theorem EvW.toσ {e : PySem.Expr} {d : D} (h : EvW w hb n env ls σ e d σ') (q : σ' = σ'') : EvW w hb n env ls σ e d σ'' := q ▸ h
theorem bind_2 {fd : FuncData} {x y : Str} (h : ∀ a b, bindArgs fd ⟨[a, b], []⟩ = pure [(x, a), (y, b)]) : ∀ vals : List Value, vals.length = [x, y].length → bindArgs fd ⟨vals, []⟩ = pure ([x, y].zip vals) := len2 fun a b => h a b
theorem fs_uld {mk : List D → Ob} {xs ys : List PP} {ke ka : Nat} (hP : Pops w hb n mk xs) (hke : σ[ke]? = some (mk (xs.map prD))) (hka : σ[ka]? = some (.lst (ys.map prD))) (hne : ke ≠ ka) (hxs : xs.length ≤ 1000) (hys : ys.length ≤ 1000) :
    FsW w hb (n + 1) (.ref 218) [.own ke, .own ka] σ (.tup [.own σ.length, .own ka]) ((σ.set ke (mk [])).set ka (.lst ((uldP xs ys).2.map prD)) ++ [.lst ((uldP xs ys).1.map prD)]) := by
  have le : ke < σ.length := (List.getElem?_eq_some_iff.mp hke).1
  have la : ka < σ.length := (List.getElem?_eq_some_iff.mp hka).1
  let st : Nat → List PP × List PP := fun i => (xs.reverse.take i).foldl uldStep ([], ys)
  let τ : Nat → List Ob := fun i => (σ.set ke (mk ((xs.take (xs.length - i)).map prD))).set ka (.lst ((st i).2.map prD)) ++ [.lst ((st i).1.map prD)]
  have stl : ∀ i, (st i).1.length ≤ 1000 ∧ (st i).2.length ≤ 1000 := fun i => by
    have := uldFold_len (xs.reverse.take i) ([], ys)
    simp only [List.length_take, List.length_reverse, List.length_nil] at this
    exact ⟨by show (List.foldl uldStep ([], ys) _).1.length ≤ _; lia, by show (List.foldl uldStep ([], ys) _).2.length ≤ _; lia⟩
  have τe : ∀ i, (τ i)[ke]? = some (mk ((xs.take (xs.length - i)).map prD)) := fun i => by
    show (_ ++ _)[ke]? = _
    rw [List.getElem?_append_left (by simpa using le), List.getElem?_set_ne (Ne.symm hne), List.getElem?_set_self le]
  have hτ : τ 0 = σ ++ [.lst []] := by
    show (σ.set ke (mk ((xs.take (xs.length - 0)).map prD))).set ka (.lst (ys.map prD)) ++ [.lst []] = _
    rw [Nat.sub_zero, List.take_length]
    congr 1
    refine List.ext_getElem? fun j => ?_
    rw [List.getElem?_set]
    split
    · subst_vars; rw [if_pos (by simpa using la), hka]
    · rw [List.getElem?_set]
      split
      · subst_vars; rw [hke]
      · rfl
  have hend : τ xs.length = (σ.set ke (mk [])).set ka (.lst ((uldP xs ys).2.map prD)) ++ [.lst ((uldP xs ys).1.map prD)] := by
    show (σ.set ke (mk ((xs.take (xs.length - xs.length)).map prD))).set ka (.lst ((st xs.length).2.map prD)) ++ [.lst ((st xs.length).1.map prD)] = _
    have : st xs.length = uldP xs ys := by show List.foldl _ _ _ = _; rw [List.take_of_length_le (by simp)]; rfl
    rw [this, Nat.sub_self]; rfl
  rw [← hend]
  let inv : Nat → List (Str × D) := fun _ => [("missing", .own σ.length), ("expected", .own ke), ("actual", .own ka)]
  refine FsW.of_def (o' := .ret (.tup [.own σ.length, .own ka]) (τ xs.length)) ["expected", "actual"] rfl rfl (fun L => ?_) (.inl rfl) (bind_2 fun a b => rfl)
  refine ExsW.cons (ExW.newList (.inl rfl)) (ExsW.cons (ExW.whileN xs.length inv τ hτ (fun y e h => h) (fun i hi => ?_) ?_ fun i hi => ?_) (ExsW.ret (ExW.ret (Ev.toW (Ev.tuple (EvS.cons (Ev.name rfl) (EvS.cons (Ev.name rfl) EvS.nil)))))))
  · refine (Tr.val (Ev.name rfl) (hP.th ke _ _ (τe i))).to ?_
    have : (xs.take (xs.length - i)).length ≠ 0 := by rw [List.length_take]; lia
    generalize xs.take (xs.length - i) = q at this
    cases q with
    | nil => exact absurd rfl this
    | cons => rfl
  · refine (Tr.val (Ev.name rfl) (hP.th ke _ _ (τe xs.length))).to ?_
    rw [Nat.sub_self]; rfl
  · have hri : xs.reverse[i]? = some xs[xs.length - i - 1] := by
      rw [List.getElem?_reverse hi, show xs.length - 1 - i = xs.length - i - 1 by lia, List.getElem?_eq_getElem]
    generalize hp : xs[xs.length - i - 1] = p at hri
    have hxi : xs[xs.length - i - 1]? = some p := by rw [← hp]; exact List.getElem?_eq_getElem _
    have hst : st (i + 1) = uldStep (st i) p := by
      show List.foldl _ _ (List.take (i + 1) _) = _
      rw [List.take_add_one, hri, Option.toList_some, List.foldl_append]; rfl
    have e1 : xs.length - i = xs.length - i - 1 + 1 := by lia
    have τe1 := τe i
    rw [e1] at τe1
    have hτ' : (τ i).set ke (mk ((xs.take (xs.length - i - 1)).map prD)) = (σ.set ke (mk ((xs.take (xs.length - (i + 1))).map prD))).set ka (.lst ((st i).2.map prD)) ++ [.lst ((st i).1.map prD)] := by
      show List.set (_ ++ _) ke _ = _
      rw [set_app1 (by simpa using le), List.set_comm _ _ (Ne.symm hne), List.set_set]; rfl
    have hpa : (τ i).length = σ.length + 1 := by show List.length (_ ++ _) = _; simp
    refine ⟨_, ExsW.cons (ExW.assign (EvW.toσ (hP.pop ke _ _ _ (xs.length - i - 1) p _ _ _ hxi rfl τe1 rfl) hτ') (.inl rfl)) (ExsW.cons (ls' := ("item", prD p) :: inv i) (σ' := τ (i + 1)) ?_ ExsW.nil), ?_⟩
    · have ga : ((σ.set ke (mk ((xs.take (xs.length - (i + 1))).map prD))).set ka (.lst ((st i).2.map prD)) ++ [.lst ((st i).1.map prD)])[ka]? = some (.lst ((st i).2.map prD)) := by
        rw [List.getElem?_append_left (by simpa using la), List.getElem?_set_self (by simpa using la)]
      by_cases hm : p ∈ (st i).2
      · have e2 : τ (i + 1) = List.set ((σ.set ke (mk ((xs.take (xs.length - (i + 1))).map prD))).set ka (.lst ((st i).2.map prD)) ++ [.lst ((st i).1.map prD)]) ka (.lst ((rmv (st i).2 p).map prD)) := by
          rw [set_app1 (by simpa using la), List.set_set]
          show _ ++ _ = _
          rw [hst]; unfold uldStep; rw [if_pos hm]
        rw [e2]
        exact ExW.tryN (ExsW.cons (ExW.expr (EvW.meth (Ev.name rfl) (EvA.plain (EvS.cons (Ev.name rfl) EvS.nil)).toW (FsW.remove EqT.pair ga hm (by have := stl i; lia)) F.plainAttrs_list F.slot_list_remove F.type_list_remove (.inr (.inl ⟨rfl, _, .inr ⟨ka, rfl, ga⟩⟩)))) ExsW.nil)
      · have e2 : τ (i + 1) = List.set ((σ.set ke (mk ((xs.take (xs.length - (i + 1))).map prD))).set ka (.lst ((st i).2.map prD)) ++ [.lst ((st i).1.map prD)]) σ.length (.lst ((st i).1.map prD ++ [prD p])) := by
          rw [set_app2 (by simp)]
          show _ ++ _ = _
          rw [hst]; unfold uldStep; rw [if_neg hm, List.map_append]; rfl
        rw [e2]
        refine ExW.tryRemove EqT.pair (ka := ka) (km := σ.length) rfl rfl rfl ga ?_ hm (by rw [List.length_map]; have := stl i; lia) (by decide) rfl rfl rfl rfl rfl rfl
        rw [List.getElem?_append_right (by simp)]; simp
    · intro y e h
      rw [look_cons, if_neg]
      · exact h
      · intro q
        rw [beq_iff_eq.mp q] at h
        have : (inv (i + 1)).lookup ("item" : Str) = none := rfl
        (first | exact nS this h | exact nS h this | exact nD this h | exact nD h this | cases sE this h | (rw [this] at h; cases h))
end
end Mine
end

section
open PySem PySem.W PySem.Calls PyProof.Rows PySem.SeqAt PySem.MeetsSeq Builtin.ObjectAttr
set_option Elab.async false
set_option tactic.hygienic false
set_option linter.unusedVariables false
set_option maxRecDepth 100000
namespace Mine
noncomputable def spP (x : Str) : PP := (splitH x, splitTail x)
noncomputable def dPr {α : Type} (f : PP → α) (z : α) : D → α
  | .tup [.str a, .str b] => f (a, b)
  | _ => z
theorem filter_map_pr (xs : List PP) (q : PP → Bool) (g : PP → D) : (((xs.map prD).filter (dPr q false)).map (dPr g .none)) = ((xs.filter q).map g) := by
  rw [List.filter_map, List.map_map]; rfl
section
variable {w : World} {hb : Heap} {n : Nat} {A : Around} {env : Env} {ls ls' fls : List (Str × D)} {σ σ' σ'' τ : List Ob} {ad ad' ad'' : List Addr} {s s' s'' : Shared} {E : Value → Shared → Prop} {X Y : List Addr}
theorem Exs.toWr {sts : List Stmt} {d : D} (h : Exs w hb n env ls σ sts (.ret d)) : ExsW w hb n env ls σ sts (.ret d σ) := fun A s ad c =>
  wpAny_mono (h A s ad c) (fun f s1 q => let ⟨k, v, e, r⟩ := q; ⟨ad, .ofF k, .refl, v, e, r, c.own' k⟩) fun _ _ f => f
theorem EvF.to {e : PySem.Expr} {xs ys : List D} (h : EvF w hb n env ls σ e xs) (q : xs = ys) : EvF w hb n env ls σ e ys := q ▸ h
theorem EvF.ownAt {e : PySem.Expr} {ys : List PP} {k : Nat} (h : EvF w hb n env ls σ e (ys.map prD)) (hk : σ.length = k) : EvW w hb n env ls σ e (.own k) (σ ++ [.lst (ys.map prD)]) := hk ▸ h.own
-- x, y = e
theorem ExW.unpack2 {e : PySem.Expr} {k : Nat} {px py tpos pos : Pos} {x y : Str} {d1 d2 : D} (he : EvW w hb n env ls σ e (.tup [d1, d2]) σ') (hx : Stor env x) (hy : Stor env y)
    (hs : autoParam (swapsWithSole [.Tuple [.Name x px, .Name y py] k tpos] e pos.line env = pure false) Mine.auR) (hw : autoParam (swappedStores [.Tuple [.Name x px, .Name y py] k tpos] e env = pure none) Mine.auR) :
    ExW w hb n env ls σ (.Assign [.Tuple [.Name x px, .Name y py] k tpos] e pos) (.next ((y, d2) :: (x, d1) :: ls) σ') := fun A s ad c => by
  refine Assign_Tuple (he.use c fun v s1 ad1 k1 g1 c1 r1 => ?_) hs hw
  obtain ⟨a, ob, vs, m, rfl, e1, e2, e3, e4, e5⟩ := r1.isT
  obtain ⟨v1, v2, hvs, r1, r2⟩ : ∃ v1 v2, vs.toList = [v1, v2] ∧ Rd s1.heap ad1 v1 d1 ∧ Rd s1.heap ad1 v2 d2 := by
    generalize vs.toList = l at e5
    cases e5 with | cons x y => cases y with | cons y z => cases z; exact ⟨_, _, rfl, x, y⟩
  have hsz : vs.size = 2 := by rw [← Array.length_toList, hvs]; rfl
  have hae : assignEach [.Name x px, .Name y py] env = [(false, PySem.assign (.Name x px) env), (false, PySem.assign (.Name y py) env)] := rfl
  refine wpAny_assign_Tuple c1.cx.rm.handled ⟨ob, e1, e2, m, e4⟩ (by rw [hae, hsz]; rfl) (by rw [hae]; rfl) fun h' hext => ?_
  rw [hvs]
  have k2 := keeps_extBut hext
  have c2 := c1.keeps k2
  rw [hae]
  show wpAny _ _ (assignInOrder [PySem.assign (.Name x px) env, PySem.assign (.Name y py) env] [v1, v2]) _ _ _
  unfold assignInOrder
  refine wpAny_bind (wpAny_holding (assign_Name (store_ok c2 (r1.keeps (kHeap k2)) hx fun s3 k3 c3 => ?_)))
  unfold assignInOrder
  refine wpAny_bind (wpAny_holding (assign_Name (store_ok c3 ((r2.keeps (kHeap k2)).car (c2.car k3)) hy fun s4 k4 c4 => ?_)))
  unfold assignInOrder
  exact wpAny_pure ⟨ad1, k1.thenF g1 (kfTrans (kfOf k2) (kfTrans k3 k4)), g1, rfl, c4⟩
-- a copy of a list of pairs
theorem EvF.copy {x : Str} {px pe pos : Pos} {iter : PySem.Expr} {scope : Scope} {gs : List PP} {d : D} (hi : Ev w hb n env ls σ iter d) (hL : Src w hb σ d (gs.map prD)) (hl : gs.length ≤ 16777216)
    (hfree : autoParam ((scope.names.all fun x => !(x.2 == NameKind.free) || (env.cells.lookup x.1).isSome) = true) Mine.auR) (hkind : autoParam (scope.kind = .function) Mine.auR) (hx : autoParam (scope.names.lookup x = some .local) Mine.auR) (hcell : autoParam (∀ y ∈ scope.names, y.2 ≠ .cell) Mine.auD) (hxi : autoParam (x ≠ "_initial_size") Mine.auD)
    (hnames : autoParam (∀ y ∈ scope.names, y.2 = .local → scope.names.lookup y.1 = some .local) Mine.auD) (hs : autoParam (∀ x, foldedSetIterable iter env x = pure x) Mine.auI) (hd : autoParam ((x == ("__debug__" : Str)) = false) Mine.auD) :
    EvF w hb n env ls σ (.ListComp (.Name x pe) [⟨.Name x px, iter, [], 0⟩] scope pos) (gs.map prD) := by
  have e : gs.map prD = ((gs.map prD).filter (dPr (fun _ => true) false)).map (dPr prD .none) := by
    rw [filter_map_pr, List.filter_eq_self.mpr fun _ _ => rfl]
  rw [e]
  refine EvF.comp (fls := []) (xs := gs.map prD) _ _ (Si.of hi hL) Free.nil ?_ ?_ ?_ (by simpa using hl) hfree hkind hx hcell hxi hnames hs
  · intro τ C e he
    obtain ⟨f, hf, rfl⟩ := List.mem_map.mp he
    exact TrI.no
  · intro τ C e he hp
    obtain ⟨f, hf, rfl⟩ := List.mem_map.mp he
    exact Ev.name (by rw [look_cons, if_pos (beq_self_eq_true x)]; rfl) hd
  · intro e he hp
    obtain ⟨f, hf, rfl⟩ := List.mem_map.mp he
    rfl
end
end Mine
end

section
open PySem PySem.W PySem.Calls PyProof.Rows PySem.SeqAt PySem.MeetsSeq Builtin.ObjectAttr
set_option Elab.async false
set_option tactic.hygienic false
set_option linter.unusedVariables false
set_option maxRecDepth 100000
namespace Mine
section
variable {w : World} {hb : Heap} {n : Nat} {A : Around} {env : Env} {ls ls' fls : List (Str × D)} {σ σ' σ'' τ : List Ob} {ad ad' ad'' : List Addr} {s s' s'' : Shared} {E : Value → Shared → Prop} {X Y : List Addr}
-- a name that the others do not have
theorem look_sub {x : Str} {d : D} {l : List (Str × D)} (h : (l.all fun p => !(p.1 == x)) = true) : ∀ y e, l.lookup y = some e → List.lookup y ((x, d) :: l) = some e := fun y e q => by
  rw [look_cons, if_neg]
  · exact q
  · intro hy
    have := List.all_eq_true.mp h _ (mem_of_lookup q)
    rw [beq_iff_eq.mp hy] at this
    simp at this
-- what hangs at under, of what is cut off
noncomputable def hangP (us : List Str) (gs : List PP) : List PP := (uldP (us.map spP) gs).1
theorem hangP_le (us : List Str) (gs : List PP) : (hangP us gs).length ≤ us.length := by
  have := (uldFold_len (us.map spP).reverse ([], gs)).1
  simpa [hangP, uldP] using this
theorem fs_hang {us : List Str} {gs : List PP} (hu : us.length ≤ 100) (hg : gs.length ≤ 100) (hul : ∀ x ∈ us, x.length ≤ 100) (hgl : ∀ p ∈ gs, p.1.length ≤ 100 ∧ p.2.length ≤ 100)
    (hsz : ∀ x ∈ us, (spP x).1.length ≤ 100 ∧ (spP x).2.length ≤ 100 ∧ 0 < lenP (spP x)) (heq : (uldP (us.map spP) gs).2 = gs.filter fun p => !decide (joinP p.1 [p.2] ∈ us)) (hpl : ∀ ob ∈ σ, ob.pl = true) :
    FsW w hb (n + 5) (.ref 228) [.lst (us.map .str), .lst (gs.map prD)] σ (.acc ((hangP us gs).map prD)) σ := by
  have hxs : (us.map spP).length ≤ 1000 := by rw [List.length_map]; lia
  refine FsW.freeze (τ := [.acc [], .lst ((uldP (us.map spP) gs).2.map prD), .lst ((hangP us gs).map prD)]) (d := .acc ((hangP us gs).map prD)) ?_ (.pl ?_) hpl
  · let τ : Nat → List Ob := fun i => σ ++ [.acc (((us.take i).map spP).map prD)]
    have τl : ∀ i, (τ i)[σ.length]? = some (.acc (((us.take i).map spP).map prD)) := fun i => by
      show (σ ++ [_])[σ.length]? = _
      rw [List.getElem?_append_right (Nat.le_refl _)]; simp
    refine FsW.of_def (o' := .ret (.acc ((hangP us gs).map prD)) (σ ++ [.acc [], .lst ((uldP (us.map spP) gs).2.map prD), .lst ((hangP us gs).map prD)])) ["under", "gone"] rfl rfl (fun L => ?_) (.inl rfl) (bind_2 fun a b => rfl)
    refine ExsW.cons (ExW.assign (EvW.newAcc (n := n + 2) (Ev.glob rfl rfl)) (.inl rfl)) ?_
    refine ExsW.cons (ExW.forN (fun i => [("below", .own σ.length), ("under", .lst (us.map .str)), ("gone", .lst (gs.map prD))]) τ (SiP.lst (Ev.name rfl)) (.inl rfl) rfl (fun y e h => h) (fun i e he => ?_)) ?_
    · rw [List.getElem?_map] at he
      cases hx : us[i]? with
      | none => (first | exact nS hx he | exact nS he hx | exact nD hx he | exact nD he hx | cases sE hx he | (rw [hx] at he; cases he))
      | some x =>
        (first | exact nS hx he | exact nS he hx | exact nD hx he | exact nD he hx | cases sE hx he | (rw [hx] at he; cases he))
        have hm := List.mem_of_getElem? hx
        obtain ⟨z1, z2, z3⟩ := hsz x hm
        have e2 : τ (i + 1) = (τ i).set σ.length (.acc (((us.take i).map spP).map prD ++ [.tup [.str (splitH x), .str (splitTail x)]])) := by
          show σ ++ [_] = List.set (σ ++ [_]) _ _
          rw [set_app2 rfl, List.take_add_one, hx, Option.toList_some, List.map_append, List.map_append]; rfl
        refine ⟨("path", .str x) :: [("below", .own σ.length), ("under", .lst (us.map .str)), ("gone", .lst (gs.map prD))], ?_, look_sub rfl⟩
        rw [e2]
        refine ExsW.cons (ExW.expr (EvW.methS (Ev.name rfl) (.inr ⟨_, rfl, τl i⟩) (EvA.toW (EvA.lone (Ev.call (Ev.glob rfl rfl) (Kpr.K rfl) (EvA.plain (EvS.cons (Ev.name rfl) EvS.nil)) (fs_split (n := n + 2) (by have := hul x hm; lia))) (.inr (.inl rfl)))) (fc_push (n := n + 3) (τl i) (by simp; lia)) rfl (accName.mk (by decide)) rfl rfl rfl rfl (by decide) rfl)) ExsW.nil
    · have τe : τ (us.map D.str).length = σ ++ [.acc ((us.map spP).map prD)] := by
        show σ ++ [_] = _
        rw [List.length_map, List.take_length]
      rw [τe]
      have σe : ((σ ++ [Ob.acc ((us.map spP).map prD)] ++ [Ob.lst (gs.map prD)]).set σ.length (.acc [])).set (σ.length + 1) (.lst ((uldP (us.map spP) gs).2.map prD)) ++ [Ob.lst ((uldP (us.map spP) gs).1.map prD)] = σ ++ [Ob.acc [], .lst ((uldP (us.map spP) gs).2.map prD), .lst ((hangP us gs).map prD)] := by
        rw [set_app1 (by simp), set_app2 rfl, set_app2 (by simp)]
        simp only [List.append_assoc]; rfl
      have g1 : (σ ++ [Ob.acc ((us.map spP).map prD)] ++ [Ob.lst (gs.map prD)])[σ.length]? = some (.acc ((us.map spP).map prD)) := by
        rw [List.append_assoc, List.getElem?_append_right (Nat.le_refl _)]; simp
      have g2 : (σ ++ [Ob.acc ((us.map spP).map prD)] ++ [Ob.lst (gs.map prD)])[σ.length + 1]? = some (.lst (gs.map prD)) := by
        rw [List.append_assoc, List.getElem?_append_right (by lia)]; simp
      have hP : Pops w hb (n + 3) .acc (us.map spP) := Pops.acc ⟨fun p hp => by
          obtain ⟨x, hx, rfl⟩ := List.mem_map.mp hp
          have := hsz x hx; lia, by rw [List.length_map]; lia⟩ (fun p hp => by
          obtain ⟨x, hx, rfl⟩ := List.mem_map.mp hp
          exact (hsz x hx).2.2) hxs
      have l1 : (σ ++ [Ob.acc ((us.map spP).map prD)]).length = σ.length + 1 := by simp
      have l2 : (σ ++ [Ob.acc ((us.map spP).map prD)] ++ [Ob.lst (gs.map prD)]).length = σ.length + 2 := by simp
      have hfs := fs_uld (n := n + 3) (σ := σ ++ [Ob.acc ((us.map spP).map prD)] ++ [Ob.lst (gs.map prD)]) (ke := σ.length) (ka := σ.length + 1) hP g1 g2 (by lia) hxs (by lia)
      rw [σe, l2] at hfs
      refine ExsW.cons (ExW.unpack2 (EvW.call (Ev.glob rfl rfl) (Kpr.K rfl) (EvAW.plain (EvSW.cons (Ev.toW (Ev.name rfl)) (EvSW.cons (EvF.ownAt (EvF.copy (gs := gs) (Ev.name rfl) (Src.list (.inl rfl)) (by lia)) l1) EvSW.nil))) hfs) (.inl rfl) (.inl rfl)) ?_
      generalize hσ' : σ ++ [Ob.acc [], Ob.lst ((uldP (us.map spP) gs).2.map prD), Ob.lst ((hangP us gs).map prD)] = σ'
      have h0 : σ'[σ.length]? = some (.acc []) := by
        rw [← hσ', List.getElem?_append_right (Nat.le_refl _)]; simp
      have h1 : σ'[σ.length + 1]? = some (.lst ((uldP (us.map spP) gs).2.map prD)) := by
        rw [← hσ', List.getElem?_append_right (by lia)]; simp
      have h2 : σ'[σ.length + 2]? = some (.lst ((hangP us gs).map prD)) := by
        rw [← hσ', List.getElem?_append_right (by lia)]; simp
      refine ExsW.cons (Ex.toW (Ex.iff (b := false) ((Tr.or2 ((Tr.cmp (Ev.name rfl) (Ev.comp (fls := [("under", .lst (us.map .str))]) (xs := gs.map prD) (dPr (fun p => !decide (joinP p.1 [p.2] ∈ us)) false) (dPr prD .none) (Si.of (Ev.name rfl) (Src.list (.inl rfl))) (Free.cons Free.nil) ?_ ?_ ?_ ?_) (filter_map_pr gs _ prD ▸ Co.neLs EqT.pair (.inr ⟨_, rfl, h1⟩) (.inl rfl))).to ?_)
        (Tr.orN (Tr.cmp (Ev.methA (Ev.name rfl) (.inr ⟨_, rfl, h0⟩) EvA.nil (fs_part_count (n := n + 3) (.inr ⟨_, rfl, h0⟩) (by simp)) (Kpr.K rfl) (accName.mk (by decide)) rfl rfl) Ev.int Co.neI))).to ?_) Exs.nil)) ?_
      · intro τ C e he
        obtain ⟨p, hp, rfl⟩ := List.mem_map.mp he
        obtain ⟨b1, b2⟩ := hgl p hp
        exact TrI.one (Tr.cmp (Ev.call (Ev.glob rfl rfl) (Kpr.K rfl) (EvA.lone (Ev.name rfl) (.inr (.inl rfl))) (fs_join (n := n + 2) (a := p.1) (ps := [p.2]) (by simp only [lens, List.map_cons, List.map_nil, List.sum_cons, List.sum_nil]; lia) (by simp))) (Ev.name rfl) (Co.notInL EqT.str (.inl rfl)))
      · intro τ C e he hp
        obtain ⟨p, hp, rfl⟩ := List.mem_map.mp he
        exact Ev.name rfl
      · intro e he hp
        obtain ⟨p, hp, rfl⟩ := List.mem_map.mp he
        rfl
      · rw [List.length_map]; lia
      · rw [decide_eq_true heq]; rfl
      · rfl
      · exact Exs.toWr (exs_tail (n := n + 2) (dm := .own (σ.length + 2)) rfl (.inr ⟨_, rfl, h2⟩) (by rw [List.length_map]; have := hangP_le us gs; lia) (fun _ => Ev.glob rfl rfl) rfl rfl rfl rfl rfl)
  · show D.plAll _ = true
    rw [plAll_iff]
    intro x hx
    obtain ⟨p, _, rfl⟩ := List.mem_map.mp hx
    rfl
end
end Mine
end

section
open PySem PySem.W PySem.Calls PyProof.Rows
set_option Elab.async false
set_option tactic.hygienic false
set_option linter.unusedVariables false
set_option maxRecDepth 100000
namespace Mine
/-! nodes: the common beginning -/
noncomputable def cp2 : Node → Node → Node
  | x :: xs, y :: ys => if x = y then x :: cp2 xs ys else []
  | _, _ => []
noncomputable def cpN (x : Node) (xs : List Node) : Node := xs.foldl cp2 x
theorem cp2_l : ∀ (a b : Node), cp2 a b <+: a
  | [], _ => by simp [cp2]
  | _ :: _, [] => by simp [cp2]
  | x :: xs, y :: ys => by
    unfold cp2
    split
    · exact List.cons_prefix_cons.mpr ⟨rfl, cp2_l xs ys⟩
    · exact List.nil_prefix
set_option tactic.hygienic true in
theorem cp2_r : ∀ (a b : Node), cp2 a b <+: b
  | [], _ => by simp [cp2]
  | _ :: _, [] => by simp [cp2]
  | x :: xs, y :: ys => by
    unfold cp2
    split
    · rename_i h; exact List.cons_prefix_cons.mpr ⟨h, cp2_r xs ys⟩
    · exact List.nil_prefix
theorem cp2_max : ∀ {q a b : Node}, q <+: a → q <+: b → q <+: cp2 a b
  | [], _, _, _, _ => List.nil_prefix
  | z :: q, [], _, h, _ => by simp at h
  | z :: q, x :: xs, [], _, h => by simp at h
  | z :: q, x :: xs, y :: ys, h1, h2 => by
    obtain ⟨rfl, g1⟩ := List.cons_prefix_cons.mp h1
    obtain ⟨rfl, g2⟩ := List.cons_prefix_cons.mp h2
    unfold cp2
    rw [if_pos rfl]
    exact List.cons_prefix_cons.mpr ⟨rfl, cp2_max g1 g2⟩
theorem cpN_pre : ∀ (xs : List Node) (x : Node), ∀ y ∈ x :: xs, cpN x xs <+: y
  | [], x, y, h => by simp at h; subst h; exact List.prefix_refl _
  | z :: xs, x, y, h => by
    have ih := cpN_pre xs (cp2 x z)
    have h0 : cpN x (z :: xs) = cpN (cp2 x z) xs := rfl
    rw [h0]
    rcases List.mem_cons.mp h with rfl | h
    · exact (ih _ List.mem_cons_self).trans (cp2_l _ _)
    · rcases List.mem_cons.mp h with rfl | h
      · exact (ih _ List.mem_cons_self).trans (cp2_r _ _)
      · exact ih y (List.mem_cons_of_mem _ h)
theorem cpN_max : ∀ (xs : List Node) (x : Node) (q : Node), (∀ y ∈ x :: xs, q <+: y) → q <+: cpN x xs
  | [], x, q, h => h x List.mem_cons_self
  | z :: xs, x, q, h => by
    refine cpN_max xs (cp2 x z) q fun y hy => ?_
    rcases List.mem_cons.mp hy with rfl | hy
    · exact cp2_max (h x (by simp)) (h z (by simp))
    · exact h y (by simp [hy])
theorem cpN_eq {xs : List Node} {x p : Node} (h1 : ∀ y ∈ x :: xs, p <+: y) (h2 : ∀ q, (∀ y ∈ x :: xs, q <+: y) → q.length ≤ p.length) : cpN x xs = p :=
  (List.IsPrefix.eq_of_length (cpN_max xs x p h1) (Nat.le_antisymm (cpN_max xs x p h1).length_le (h2 _ (cpN_pre xs x)))).symm
theorem allN_pre {p f : Node} (h : p <+: f) (hf : f ∈ allN) : p ∈ allN := by
  rw [allN_mem] at hf ⊢
  obtain ⟨t, rfl⟩ := h
  rw [List.length_append] at hf
  exact ⟨by lia, fun x hx => hf.2 x (List.mem_append_left _ hx)⟩
theorem pathN : ∀ f : Node, Str.ofString "/" ++ Txt.join "/" f = pathS f := fun _ => rfl
-- a node that is not the root
noncomputable def Nd (x : Node) : Prop := x ∈ allN ∧ x ≠ []
theorem pair_inj {x y : Node} (hx : Nd x) (hy : Nd y) (h : pairS x = pairS y) : x = y := by
  unfold pairS at h
  have h1 : pathS x.dropLast = pathS y.dropLast := (Prod.mk.inj h).1
  have h2 : x.getLastD "" = y.getLastD "" := (Prod.mk.inj h).2
  have h3 := path_inj (allN_pre (List.dropLast_prefix x) hx.1) (allN_pre (List.dropLast_prefix y) hy.1) h1
  rw [List.getLastD_eq_getLast?, List.getLast?_eq_some_getLast hx.2] at h2
  rw [List.getLastD_eq_getLast?, List.getLast?_eq_some_getLast hy.2] at h2
  rw [← List.dropLast_concat_getLast hx.2, ← List.dropLast_concat_getLast hy.2, h3, show x.getLast hx.2 = y.getLast hy.2 from h2]
theorem spN {x : Node} (h : Nd x) : spP (pathS x) = pairS x := by
  obtain ⟨h1, h2⟩ := split_path x h.1 h.2
  unfold spP pairS
  rw [h1, h2]
section
variable {w : World} {hb : Heap} {n : Nat} {A : Around} {env : Env} {ls ls' fls : List (Str × D)} {σ σ' σ'' τ : List Ob} {ad ad' ad'' : List Addr} {s s' s'' : Shared} {E : Value → Shared → Prop} {X Y : List Addr}
theorem fs_splitN {x : Node} (h : Nd x) : Fs w hb (n + 2) (.ref 122) [.str (pathS x)] σ (prD (pairS x)) := by
  have h1 := fs_split (w := w) (hb := hb) (n := n) (σ := σ) (x := pathS x) (by have := (path_small x h.1).2.1; lia)
  obtain ⟨h2, h3⟩ := split_path x h.1 h.2
  rw [h2, h3] at h1
  exact h1
theorem fs_joinR {x : Node} (h : x ∈ allN) : Fs w hb (n + 2) (.ref 115) (.str "/" :: x.map .str) σ (.str (pathS x)) := by
  have h1 := fs_join (w := w) (hb := hb) (n := n) (σ := σ) (a := "/") (ps := x) (by have := (join_ok x h).2.2; have e : ("/" : Str).length = 1 := rfl; lia) (by have := (allN_mem.mp h).1; lia)
  rw [join_root x h] at h1
  exact h1
theorem fs_joinPr {x : Node} (h : Nd x) : Fs w hb (n + 2) (.ref 115) [.str (pairS x).1, .str (pairS x).2] σ (.str (pathS x)) := by
  obtain ⟨b1, b2, _⟩ := pair_small x h.1
  have h1 := fs_join (w := w) (hb := hb) (n := n) (σ := σ) (a := (pairS x).1) (ps := [(pairS x).2]) (by simp only [lens, List.map_cons, List.map_nil, List.sum_cons, List.sum_nil]; lia) (by simp)
  rw [join_path x h.1 h.2] at h1
  exact h1
theorem fs_commonN {x : Node} {xs : List Node} (h : ∀ y ∈ x :: xs, y ∈ allN) (hn : xs.length ≤ 1000) : Fs w hb (n + 3) (.ref 127) [dS ((x :: xs).map pathS)] σ (.str (pathS (cpN x xs))) := by
  have hm : ∀ y ∈ pathS x :: xs.map pathS, ∃ z ∈ x :: xs, y = pathS z := fun y hy => by
    have : y ∈ (x :: xs).map pathS := hy
    obtain ⟨z, hz, e⟩ := List.mem_map.mp this
    exact ⟨z, hz, e.symm⟩
  have hp : cpN x xs ∈ allN := allN_pre (cpN_pre xs x x List.mem_cons_self) (h x List.mem_cons_self)
  have e : (minP (pathS x) (xs.map pathS)).take (cpl (minP (pathS x) (xs.map pathS)) (maxP (pathS x) (xs.map pathS))) = cpN x xs := by
    refine common_is (fun y hy => ?_) fun q hq => ?_
    · obtain ⟨z, hz, rfl⟩ := hm y hy
      rw [names_path z (h z hz)]
      exact cpN_pre xs x z hz
    · refine (cpN_max xs x q fun z hz => ?_).length_le
      have := hq (pathS z) (show pathS z ∈ (x :: xs).map pathS from List.mem_map_of_mem hz)
      rwa [names_path z (h z hz)] at this
  have h1 := fs_commonpath (w := w) (hb := hb) (n := n) (σ := σ) (x := pathS x) (xs := xs.map pathS) (fun y hy => by
      obtain ⟨z, hz, rfl⟩ := hm y hy
      exact (path_small z (h z hz)).1) (fun y hy => by
      obtain ⟨z, hz, rfl⟩ := hm y hy
      obtain ⟨_, h2, h3⟩ := path_small z (h z hz)
      exact ⟨by lia, h3⟩) (by rw [List.length_map]; lia) min_max (by rw [e]; exact (join_ok _ hp).1) (by rw [e]; have := (join_ok _ hp).2.1; lia)
  unfold commonP at h1
  rw [e] at h1
  exact h1
end
end Mine
end

section
open PySem PySem.W PySem.Calls PyProof.Rows
set_option Elab.async false
set_option tactic.hygienic false
set_option linter.unusedVariables false
set_option maxRecDepth 100000
namespace Mine
/-! the difference of two lists -/
section
variable {α β : Type} [DecidableEq α] [DecidableEq β]
theorem rmv_left {A G : List α} {x : α} (h : x ∈ A) (hd : A.Nodup) : rmv (A ++ G) x = A.filter (fun y => decide (y ≠ x)) ++ G := by
  unfold rmv
  rw [List.erase_append_left G h, hd.erase_eq_filter]
  congr 1
  refine List.filter_congr fun y _ => ?_
  rw [Bool.eq_iff_iff]; simp
theorem uld_left : ∀ (l ms A G : List α), l.Nodup → A.Nodup → (∀ x ∈ l, x ∈ G → x ∈ A) →
    l.foldl uldStep (ms, A ++ G) = (ms ++ l.filter (fun y => decide (y ∉ A)), A.filter (fun y => decide (y ∉ l)) ++ G)
  | [], ms, A, G, _, _, _ => by
    have : A.filter (fun y => decide (y ∉ ([] : List α))) = A := List.filter_eq_self.mpr fun _ _ => by simp
    rw [this]; simp
  | x :: l, ms, A, G, hl, hA, hG => by
    rw [List.nodup_cons] at hl
    rw [List.foldl_cons]
    by_cases hx : x ∈ A
    · have e : uldStep (ms, A ++ G) x = (ms, A.filter (fun y => decide (y ≠ x)) ++ G) := by
        unfold uldStep
        rw [if_pos (List.mem_append_left _ hx)]
        show (ms, rmv (A ++ G) x) = _
        rw [rmv_left hx hA]
      rw [e, uld_left l ms _ G hl.2 (hA.filter _) fun y hy hyG => by
        refine List.mem_filter.mpr ⟨hG y (List.mem_cons_of_mem _ hy) hyG, ?_⟩
        simp only [ne_eq, decide_not, Bool.not_eq_eq_eq_not, Bool.not_true, decide_eq_false_iff_not]
        rintro rfl; exact hl.1 hy]
      refine Prod.ext ?_ ?_
      · show ms ++ _ = ms ++ _
        rw [List.filter_cons_of_neg (by simpa using hx)]
        congr 1
        refine List.filter_congr fun y hy => ?_
        have : y ≠ x := by rintro rfl; exact hl.1 hy
        simp [this]
      · show _ ++ G = _ ++ G
        rw [List.filter_filter]
        congr 1
        refine List.filter_congr fun y _ => ?_
        rw [Bool.eq_iff_iff]; simp [and_comm, not_or]
    · have hxG : x ∉ A ++ G := fun hm => (List.mem_append.mp hm).elim hx fun h => hx (hG x List.mem_cons_self h)
      have e : uldStep (ms, A ++ G) x = (ms ++ [x], A ++ G) := by
        unfold uldStep
        rw [if_neg hxG]
      rw [e, uld_left l (ms ++ [x]) A G hl.2 hA fun y hy => hG y (List.mem_cons_of_mem _ hy)]
      refine Prod.ext ?_ ?_
      · show ms ++ [x] ++ _ = ms ++ _
        rw [List.filter_cons_of_pos (by simpa using hx)]; simp
      · show _ ++ G = _ ++ G
        congr 1
        refine List.filter_congr fun y hy => ?_
        have : y ≠ x := by rintro rfl; exact hx hy
        simp [this]
theorem rmv_map {f : α → β} {P : α → Prop} (hf : ∀ x y, P x → P y → f x = f y → x = y) : ∀ {l : List α} {x : α}, (∀ y ∈ l, P y) → P x → rmv (l.map f) (f x) = (rmv l x).map f
  | [], x, _, _ => rfl
  | y :: l, x, hl, hx => by
    have ih := rmv_map hf (l := l) (x := x) (fun z hz => hl z (List.mem_cons_of_mem _ hz)) hx
    unfold rmv at ih ⊢
    rw [List.map_cons, List.erase_cons, List.erase_cons]
    by_cases h : y = x
    · subst h; simp
    · have h' : ¬ f y = f x := fun q => h (hf y x (hl y List.mem_cons_self) hx q)
      rw [if_neg (by simpa using h'), if_neg (by simpa using h), ih, List.map_cons]
theorem uldStep_map {f : α → β} {P : α → Prop} (hf : ∀ x y, P x → P y → f x = f y → x = y) {a : List α × List α} {x : α} (ha : ∀ y ∈ a.2, P y) (hx : P x) :
    uldStep (a.1.map f, a.2.map f) (f x) = ((uldStep a x).1.map f, (uldStep a x).2.map f) := by
  unfold uldStep
  by_cases h : x ∈ a.2
  · rw [if_pos (show f x ∈ (a.1.map f, a.2.map f).2 from List.mem_map_of_mem h), if_pos h]
    show (_, rmv _ _) = _
    rw [rmv_map hf ha hx]
  · have h' : f x ∉ a.2.map f := fun hm => by
      obtain ⟨y, hy, e⟩ := List.mem_map.mp hm
      exact h (hf y x (ha y hy) hx e ▸ hy)
    rw [if_neg h', if_neg h, List.map_append]; rfl
theorem uldStep_mem {a : List α × List α} {x y : α} (h : y ∈ (uldStep a x).2) : y ∈ a.2 := by
  unfold uldStep at h
  split at h
  · exact List.mem_of_mem_erase h
  · exact h
theorem uldFold_map {f : α → β} {P : α → Prop} (hf : ∀ x y, P x → P y → f x = f y → x = y) : ∀ (l : List α) (a : List α × List α), (∀ y ∈ a.2, P y) → (∀ x ∈ l, P x) →
    (l.map f).foldl uldStep (a.1.map f, a.2.map f) = ((l.foldl uldStep a).1.map f, (l.foldl uldStep a).2.map f)
  | [], a, _, _ => rfl
  | x :: l, a, ha, hl => by
    rw [List.map_cons, List.foldl_cons, List.foldl_cons, uldStep_map hf ha (hl x List.mem_cons_self)]
    exact uldFold_map hf l (uldStep a x) (fun y hy => ha y (uldStep_mem hy)) fun z hz => hl z (List.mem_cons_of_mem _ hz)
theorem uldP_map {f : α → β} {P : α → Prop} (hf : ∀ x y, P x → P y → f x = f y → x = y) {xs ys : List α} (hx : ∀ x ∈ xs, P x) (hy : ∀ y ∈ ys, P y) :
    uldP (xs.map f) (ys.map f) = ((uldP xs ys).1.map f, (uldP xs ys).2.map f) := by
  unfold uldP
  rw [← List.map_reverse]
  exact uldFold_map hf xs.reverse ([], ys) hy fun x h => hx x (List.mem_reverse.mp h)
-- what hangs below U, without G
noncomputable def hangU (U G : List α) : List α := U.reverse.filter fun y => decide (y ∉ G)
theorem uldP_is {U G : List α} (hU : U.Nodup) (hG : G.Nodup) : uldP U G = (hangU U G, G.filter (fun y => decide (y ∉ U))) := by
  unfold uldP
  have := uld_left U.reverse [] G [] ((List.reverse_perm U).nodup_iff.mpr hU) hG (by simp)
  simp only [List.append_nil, List.nil_append, List.mem_reverse] at this
  exact this
theorem uldP_twice {U G : List α} (hU : U.Nodup) (hG : G.Nodup) (hs : ∀ x ∈ G, x ∈ U) : uldP U (G ++ G) = (hangU U G, G) := by
  unfold uldP
  have := uld_left U.reverse [] G G ((List.reverse_perm U).nodup_iff.mpr hU) hG (fun _ _ h => h)
  simp only [List.nil_append, List.mem_reverse] at this
  rw [this]
  unfold hangU
  have e : G.filter (fun y => decide (y ∉ U)) = [] := List.filter_eq_nil_iff.mpr fun y hy => by simpa using hs y hy
  rw [e]; rfl
end
/-! the same, of nodes -/
section
variable {w : World} {hb : Heap} {n : Nat} {A : Around} {env : Env} {ls ls' fls : List (Str × D)} {σ σ' σ'' τ : List Ob}
noncomputable def prN (x : Node) : D := prD (pairS x)
theorem map_prN (xs : List Node) : (xs.map pairS).map prD = xs.map prN := by rw [List.map_map]; rfl
theorem fs_hangN {U G : List Node} (hU : U.Nodup) (hG : G.Nodup) (nU : ∀ x ∈ U, Nd x) (nG : ∀ x ∈ G, Nd x) (lU : U.length ≤ 50) (lG : G.length ≤ 50) (hpl : ∀ ob ∈ σ, ob.pl = true) :
    FsW w hb (n + 5) (.ref 228) [.lst ((U.map pathS).map .str), .lst (G.map prN)] σ (.acc ((hangU U G).map prN)) σ := by
  have e1 : (U.map pathS).map spP = U.map pairS := by
    rw [List.map_map]
    exact List.map_congr_left fun x hx => spN (nU x hx)
  have e2 : uldP (U.map pairS) (G.map pairS) = ((uldP U G).1.map pairS, (uldP U G).2.map pairS) := uldP_map (P := Nd) (fun x y hx hy => pair_inj hx hy) nU nG
  have e3 := uldP_is hU hG
  have h := fs_hang (w := w) (hb := hb) (n := n) (σ := σ) (us := U.map pathS) (gs := G.map pairS) (by rw [List.length_map]; lia) (by rw [List.length_map]; lia)
    (fun x hx => by obtain ⟨y, hy, rfl⟩ := List.mem_map.mp hx; have := (path_small y (nU y hy).1).2.1; lia)
    (fun p hp => by obtain ⟨y, hy, rfl⟩ := List.mem_map.mp hp; have := pair_small y (nG y hy).1; lia)
    (fun x hx => by
      obtain ⟨y, hy, rfl⟩ := List.mem_map.mp hx
      rw [spN (nU y hy)]
      have := pair_small y (nU y hy).1
      have h3 := this.2.2 (nU y hy).2
      refine ⟨by lia, by lia, ?_⟩
      show (0 : Int) < (((pairS y).1.length + (pairS y).2.length : Nat) : Int)
      lia)
    (by
      rw [e1, e2, e3, List.filter_map]
      show List.map pairS (G.filter _) = _
      congr 1
      refine List.filter_congr fun y hy => ?_
      show _ = !decide (joinP (pairS y).1 [(pairS y).2] ∈ U.map pathS)
      rw [join_path y (nG y hy).1 (nG y hy).2]
      have : pathS y ∈ U.map pathS ↔ y ∈ U := ⟨fun hm => by
        obtain ⟨z, hz, e⟩ := List.mem_map.mp hm
        exact path_inj (nU z hz).1 (nG y hy).1 e ▸ hz, fun hm => List.mem_map_of_mem hm⟩
      rw [Bool.eq_iff_iff]; simp [this]) hpl
  have e4 : hangP (U.map pathS) (G.map pairS) = (hangU U G).map pairS := by
    unfold hangP
    rw [e1, e2, e3]
  rw [e4, map_prN, map_prN] at h
  exact h
end
end Mine
end

section
open PySem PySem.W PySem.Calls PyProof.Rows PySem.SeqAt PySem.MeetsSeq Builtin.ObjectAttr
set_option Elab.async false
set_option tactic.hygienic false
set_option linter.unusedVariables false
set_option maxRecDepth 100000
namespace Mine
/-! the law itself: its def, its lines -/
noncomputable def lawX (w : World) : {fd : FuncData // ∃ oc od osl, (Kf w).lookup 238 = some ⟨oc, od, .func fd, osl⟩} := ⟨_, _, _, _, rfl⟩
noncomputable def lawFd (w : World) : FuncData := (lawX w).1
noncomputable def lawB (w : World) : List Stmt := match (lawFd w).body with | .stmts b => b | _ => []
noncomputable def lawS (w : World) (j : Nat) : Stmt := (lawB w).getD j (.Pass ⟨0, 0, 0, 0⟩)
noncomputable abbrev lawEnv (w : World) (L : Addr) : Env := callEnvC (lawFd w) L 238
theorem lawB_is (w : World) : lawB w = [lawS w 0, lawS w 1, lawS w 2, lawS w 3, lawS w 4, lawS w 5, lawS w 6, lawS w 7, lawS w 8, lawS w 9, lawS w 10, lawS w 11, lawS w 12, lawS w 13, lawS w 14, lawS w 15, lawS w 16] := by rfl
noncomputable abbrev dN (x : Node) : D := .lst (x.map .str)
noncomputable def offs (k : Int) : Int := if k = 0 then 5 else if k = 1 then 9 else if k = 2 then 6 else 27
noncomputable def rowsP (xs : List Int) : List Node := ((List.range 4).map fun k : Nat => namesP ((pick xs (some (0 + (k : Int))) none (some 4)).sum + offs (0 + (k : Int)))) ++ ([["a", "a"], ["b"]] : List Node)
noncomputable def addF (F : List Node) (x : Node) : List Node := if x ∉ F ∧ F.length < 6 then F ++ [x] else F
noncomputable def rowF (F : List Node) (r : Node) : List Node := (List.range r.length).foldl (fun F i => addF F (r.take (i + 1))) F
noncomputable def frontsP (rows : List Node) : List Node := rows.foldl rowF []
noncomputable def dSc (xs : List Int) : D := .lst (xs.map .int)
section
variable {w : World} {hb : Heap} {n : Nat} {A : Around} {env : Env} {ls ls' fls : List (Str × D)} {σ σ' σ'' τ : List Ob} {L : Addr}
theorem law_0 {xs : List Int} (hl : xs.length ≤ 63) : Ex w hb (n + 12) (lawEnv w L) [("script", dSc xs)] σ (lawS w 0) (.next [("rows", .lst ((rowsP xs).map dN)), ("script", dSc xs)]) := by
  have e : (rowsP xs).map dN = ((rangeD 0 4).filter (dInt (fun _ => true) false)).map (dInt (fun k => dN (namesP ((pick xs (some k) none (some 4)).sum + offs k))) .none) ++ [.lst [.str "a", .str "a"], .lst [.str "b"]] := by rfl
  rw [e]
  refine Ex.assign (Ev.bin (Ev.comp (fls := [("script", dSc xs)]) (xs := rangeD 0 4) _ _ (Si.range1 (k := 4) (Ev.blt rfl rfl Boot.range) (EvA.plain (EvS.cons Ev.int EvS.nil)) (by decide) (by decide)) (Free.cons Free.nil) ?_ ?_ ?_ ?_)
    (Ev.list (EvS.cons (Ev.list (EvS.cons Ev.str (EvS.cons Ev.str EvS.nil))) (EvS.cons (Ev.list (EvS.cons Ev.str EvS.nil)) EvS.nil))) (Bo.addL (.inl rfl) (.inl rfl) ?_)) (.inl rfl)
  · intro τ C e he
    obtain ⟨j, hj, rfl⟩ := List.mem_map.mp he
    exact TrI.no
  · intro τ C e he hp
    obtain ⟨j, hj, rfl⟩ := List.mem_map.mp he
    have hj' := List.mem_range.mp hj
    have ev : ∀ (env : Env) (ls' : List (Str × D)) (τ : List Ob) (p1 p2 p3 p4 p5 p6 p7), List.lookup ("k" : Str) ls' = some (.int (0 + (j : Int))) →
        Ev w hb (n + 12) env ls' τ (.Subscript (.List [.Constant (.int 5) 0 p1, .Constant (.int 9) 0 p2, .Constant (.int 6) 0 p3, .Constant (.int 27) 0 p4] p5) (.Name "k" p6) p7) (.int (offs (0 + (j : Int)))) := fun env ls' τ p1 p2 p3 p4 p5 p6 p7 h => by
      have hc : j = 0 ∨ j = 1 ∨ j = 2 ∨ j = 3 := by lia
      rcases hc with rfl | rfl | rfl | rfl <;> exact Ev.item (Ev.list (EvS.cons Ev.int (EvS.cons Ev.int (EvS.cons Ev.int (EvS.cons Ev.int EvS.nil))))) (.inl rfl) (Ev.name h)
    have hpk := pick_map D.int xs (some (0 + (j : Int))) none (some 4)
    refine Ev.call (Ev.glob rfl rfl) (Kpr.K rfl) (EvA.plain (EvS.cons (Ev.bin (Ev.call (Ev.blt rfl rfl Boot.sum) Kpr.blt (EvA.plain (EvS.cons (Ev.cut (Ev.name rfl) (.inl rfl) (EvP.yes (Ev.name rfl)) EvP.no (EvP.yes Ev.int) (by decide) (by rw [List.length_map]; lia)) EvS.nil)) (Fs.sum (.inl (by rw [hpk])))) (ev _ _ _ _ _ _ _ _ _ _ rfl) Bo.addI) EvS.nil)) (fs_names (n := n + 11))
  · intro e he hp
    obtain ⟨j, hj, rfl⟩ := List.mem_map.mp he
    exact pl_strs _
  · exact Nat.le_of_ble_eq_true rfl
  · exact Nat.le_of_ble_eq_true rfl
theorem law_1 : ExW w hb (n + 12) (lawEnv w L) ls [] (lawS w 1) (.next (("fronts", .own 0) :: ls) [.lst []]) := ExW.newList (.inr ⟨rfl, rfl⟩)
end
end Mine
end

section
open PySem PySem.W PySem.Calls PyProof.Rows PySem.SeqAt PySem.MeetsSeq Builtin.ObjectAttr
set_option Elab.async false
set_option tactic.hygienic false
set_option linter.unusedVariables false
set_option maxRecDepth 100000
namespace Mine
set_option tactic.hygienic true in
theorem addF_len (F : List Node) (x : Node) (h : F.length ≤ 6) : (addF F x).length ≤ 6 := by
  unfold addF
  split
  · rename_i h'; rw [List.length_append]; simp; lia
  · exact h
theorem addFold_len (r : Node) : ∀ (l : List Nat) (F : List Node), F.length ≤ 6 → (l.foldl (fun F i => addF F (r.take (i + 1))) F).length ≤ 6
  | [], F, h => h
  | i :: l, F, h => addFold_len r l _ (addF_len _ _ h)
theorem rowF_len (F : List Node) (r : Node) (h : F.length ≤ 6) : (rowF F r).length ≤ 6 := addFold_len r _ F h
theorem rowFold_len : ∀ (l : List Node) (F : List Node), F.length ≤ 6 → (l.foldl rowF F).length ≤ 6
  | [], F, h => h
  | i :: l, F, h => rowFold_len l _ (rowF_len _ _ h)
section
variable {w : World} {hb : Heap} {n : Nat} {A : Around} {env : Env} {ls ls' fls : List (Str × D)} {σ σ' σ'' τ : List Ob} {L : Addr}
theorem subN {l : List (Str × D)} : ∀ y d, List.lookup y ([] : List (Str × D)) = some d → l.lookup y = some d := fun y d h => by cases h
theorem subC {l l' : List (Str × D)} {x : Str} {d : D} (h : l.lookup x = some d) (hs : ∀ y e, l'.lookup y = some e → l.lookup y = some e) : ∀ y e, List.lookup y ((x, d) :: l') = some e → l.lookup y = some e := fun y e q => by
  rw [look_cons] at q
  by_cases hy : (y == x) = true
  · rw [if_pos hy] at q; cases q
    rw [beq_iff_eq.mp hy]; exact h
  · rw [if_neg hy] at q; exact hs y e q
theorem SiP.to {e : PySem.Expr} {xs xs' : List D} (h : SiP w hb n env ls σ e xs) (q : xs = xs') : SiP w hb n env ls σ e xs' := q ▸ h
theorem law_2 {xs : List Int} {Rs : List Node} (hR : ∀ r ∈ Rs, r.length ≤ 1000) :
    ExW w hb (n + 12) (lawEnv w L) [("fronts", .own 0), ("rows", .lst (Rs.map dN)), ("script", dSc xs)] [.lst []] (lawS w 2) (.next [("fronts", .own 0), ("script", dSc xs)] [.lst ((frontsP Rs).map dN)]) := by
  have e : frontsP Rs = (Rs.take (Rs.map dN).length).foldl rowF [] := by rw [List.length_map, List.take_length]; rfl
  rw [e]
  refine ExW.forN (fun _ => [("fronts", .own 0), ("script", dSc xs)]) (fun i => [.lst (((Rs.take i).foldl rowF []).map dN)]) (SiP.lst (Ev.name rfl)) (.inl rfl) rfl ?_ (fun i d hd => ?_)
  · exact subC rfl (subC rfl subN)
  · rw [List.getElem?_map] at hd
    cases hx : Rs[i]? with
    | none => (first | exact nS hx hd | exact nS hd hx | exact nD hx hd | exact nD hd hx | cases sE hx hd | (rw [hx] at hd; cases hd))
    | some r =>
      (first | exact nS hx hd | exact nS hd hx | exact nD hx hd | exact nD hd hx | cases sE hx hd | (rw [hx] at hd; cases hd))
      have hr := hR r (List.mem_of_getElem? hx)
      have e2 : (Rs.take (i + 1)).foldl rowF [] = rowF ((Rs.take i).foldl rowF []) r := by
        rw [List.take_add_one, hx, Option.toList_some, List.foldl_append]; rfl
      simp only [e2]
      have hF := rowFold_len (Rs.take i) [] (by simp)
      generalize (Rs.take i).foldl rowF [] = F0 at hF
      refine ⟨[("fronts", .own 0), ("script", dSc xs)], ExsW.weaken (ExsW.cons (σ' := [.lst ((rowF F0 r).map dN)]) (ls' := [("row", dN r), ("fronts", .own 0), ("script", dSc xs)]) ?_ ExsW.nil) (subC rfl (subC rfl subN)), fun y e h => h⟩
      have hlen : ((r.map D.str).length : Int) + 1 - 1 = (r.length : Int) := by rw [List.length_map]; lia
      have e3 : rowF F0 r = ((List.range r.length).take (rangeD 1 r.length).length).foldl (fun F i => addF F (r.take (i + 1))) F0 := by
        unfold rangeD rowF; rw [List.length_map, List.take_length]
      rw [e3]
      refine ExW.forN (fun _ => [("row", dN r), ("fronts", .own 0), ("script", dSc xs)]) (fun j => [.lst ((((List.range r.length).take j).foldl (fun F i => addF F (r.take (i + 1))) F0).map dN)])
        ((SiP.range2 (Ev.blt rfl rfl Boot.range) (EvA.plain (EvS.cons Ev.int (EvS.cons (Ev.bin (Ev.call (Ev.blt rfl rfl Boot.len) Kpr.blt (EvA.plain (EvS.cons (Ev.name rfl) EvS.nil)) (Fs.lenL (.inl rfl) (by rw [List.length_map]; lia))) Ev.int Bo.addI) EvS.nil))) (by decide) (by decide) (by rw [List.length_map]; lia) (by rw [List.length_map]; lia)).to (by rw [hlen]; rfl)) (.inl rfl) rfl (subC rfl (subC rfl (subC rfl subN))) (fun j d hd => ?_)
      have hj : j < r.length := by
        have := (List.getElem?_eq_some_iff.mp hd).1
        unfold rangeD at this
        simpa using this
      (first | exact nS (rangeD_get hj) hd | exact nS hd (rangeD_get hj) | exact nD (rangeD_get hj) hd | exact nD hd (rangeD_get hj) | cases sE (rangeD_get hj) hd | (rw [rangeD_get hj] at hd; cases hd))
      have e4 : ((List.range r.length).take (j + 1)).foldl (fun F i => addF F (r.take (i + 1))) F0 = addF (((List.range r.length).take j).foldl (fun F i => addF F (r.take (i + 1))) F0) (r.take (j + 1)) := by
        rw [List.take_add_one, List.getElem?_range hj, Option.toList_some, List.foldl_append]; rfl
      simp only [e4]
      have hF1 := addFold_len r ((List.range r.length).take j) F0 hF
      generalize ((List.range r.length).take j).foldl (fun F i => addF F (r.take (i + 1))) F0 = F1 at hF1
      have hpk : D.lst (pick (r.map D.str) none (some (1 + (j : Int))) none) = dN (r.take (j + 1)) := by
        rw [pick_map, show (1 + (j : Int)) = ((j + 1 : Nat) : Int) by lia, pick_take]
      have hcut : ∀ (p1 p2 p3 p4 p5 : Pos), Ev w hb (n + 12) (lawEnv w L) [("size", .int (1 + (j : Int))), ("row", dN r), ("fronts", .own 0), ("script", dSc xs)] [.lst (F1.map dN)] (.Subscript (.Name "row" p1) (.Slice none (some (.Name "size" p2)) none p3) p4) (dN (r.take (j + 1))) := fun p1 p2 p3 p4 p5 =>
        (Ev.cut (Ev.name rfl) (.inl rfl) EvP.no (EvP.yes (Ev.name rfl)) EvP.no (by decide) (by rw [List.length_map]; lia)).to hpk
      have h0 : ([Ob.lst (F1.map dN)] : List Ob)[0]? = some (.lst (F1.map dN)) := rfl
      have t1 : ∀ (p1 p2 p3 p4 p5 p6 p7 : Pos), Tr w hb (n + 12) (lawEnv w L) [("size", .int (1 + (j : Int))), ("row", dN r), ("fronts", .own 0), ("script", dSc xs)] [.lst (F1.map dN)] (.Compare (.Subscript (.Name "row" p1) (.Slice none (some (.Name "size" p2)) none p3) p4) [.NotIn] [.Name "fronts" p5] p6) (!decide (r.take (j + 1) ∈ F1)) := fun p1 p2 p3 p4 p5 p6 p7 =>
        (Tr.cmp (hcut _ _ _ _ p1) (Ev.name rfl) (Co.notInL (EqT.lst EqT.str) (x := r.take (j + 1)) (.inr ⟨0, rfl, h0⟩))).to (congrArg (fun b => !b) (decide_eq_decide.mpr Iff.rfl))
      refine ⟨[("size", .int (1 + (j : Int))), ("row", dN r), ("fronts", .own 0), ("script", dSc xs)], ExsW.cons (ls' := [("size", .int (1 + (j : Int))), ("row", dN r), ("fronts", .own 0), ("script", dSc xs)]) (σ' := [.lst ((addF F1 (r.take (j + 1))).map dN)]) ?_ ExsW.nil, look_sub rfl⟩
      by_cases c1 : r.take (j + 1) ∈ F1
      · have ea : addF F1 (r.take (j + 1)) = F1 := by unfold addF; rw [if_neg fun q => q.1 c1]
        rw [ea]
        exact ExW.iff (b := false) (Tr.and1 ((t1 _ _ _ _ _ _ ⟨0, 0, 0, 0⟩).to (by simp [c1]))) ExsW.nil
      · have t2 : ∀ (p1 p2 p3 p4 p5 : Pos) (k : Nat), Tr w hb (n + 12) (lawEnv w L) [("size", .int (1 + (j : Int))), ("row", dN r), ("fronts", .own 0), ("script", dSc xs)] [.lst (F1.map dN)] (.Compare (.Call (.Name "len" p1) [.Name "fronts" p2] [] p3) [.Lt] [.Constant (.int 6) k p4] p5) (decide (((F1.map dN).length : Int) < 6)) := fun p1 p2 p3 p4 p5 k =>
          Tr.cmp (Ev.call (Ev.blt rfl rfl Boot.len) Kpr.blt (EvA.plain (EvS.cons (Ev.name rfl) EvS.nil)) (Fs.lenL (.inr ⟨0, rfl, h0⟩) (by rw [List.length_map]; lia))) Ev.int Co.ltI
        by_cases c2 : F1.length < 6
        · have ea : addF F1 (r.take (j + 1)) = F1 ++ [r.take (j + 1)] := by unfold addF; rw [if_pos ⟨c1, c2⟩]
          rw [ea, List.map_append]
          refine ExW.iff (b := true) (Tr.and2 ((t1 _ _ _ _ _ _ ⟨0, 0, 0, 0⟩).to (by simp [c1])) ((t2 _ _ _ _ _ _).to (by rw [List.length_map]; simp; lia))) ?_
          exact ExsW.cons (ExW.expr (EvW.meth (Ev.name rfl) (EvA.toW (EvA.plain (EvS.cons (hcut _ _ _ _ ⟨0, 0, 0, 0⟩) EvS.nil))) (FsW.append h0 (by rw [List.length_map]; lia)) F.plainAttrs_list F.slot_list_append F.type_list_append (.inr (.inl ⟨rfl, _, .inr ⟨0, rfl, h0⟩⟩)))) ExsW.nil
        · have ea : addF F1 (r.take (j + 1)) = F1 := by unfold addF; rw [if_neg fun q => c2 q.2]
          rw [ea]
          exact ExW.iff (b := false) (Tr.and2 ((t1 _ _ _ _ _ _ ⟨0, 0, 0, 0⟩).to (by simp [c1])) ((t2 _ _ _ _ _ _).to (by rw [List.length_map]; simp; lia))) ExsW.nil
end
end Mine
end

section
open PySem PySem.W PySem.Calls PyProof.Rows PySem.SeqAt PySem.MeetsSeq Builtin.ObjectAttr
set_option Elab.async false
set_option tactic.hygienic false
set_option linter.unusedVariables false
set_option maxRecDepth 100000
namespace Mine
-- the item that a datum stands for
noncomputable def unE {α : Type} (emb : α → D) (zs : List α) (d : D) : Option α := by
  classical exact if h : ∃ x ∈ zs, emb x = d then some h.choose else none
theorem unE_is {α : Type} {emb : α → D} {zs : List α} (hinj : ∀ x ∈ zs, ∀ y ∈ zs, emb x = emb y → x = y) {x : α} (hx : x ∈ zs) : unE emb zs (emb x) = some x := by
  have h : ∃ y ∈ zs, emb y = emb x := ⟨x, hx, rfl⟩
  unfold unE
  rw [dif_pos h]
  exact congrArg some (hinj _ h.choose_spec.1 _ hx h.choose_spec.2)
noncomputable def onE {α β : Type} (f : α → β) (z : β) : Option α → β
  | some x => f x
  | none => z
theorem fm_unE {α : Type} {emb : α → D} {zs : List α} (hinj : ∀ x ∈ zs, ∀ y ∈ zs, emb x = emb y → x = y) (q : α → Bool) (f : α → D) :
    ∀ (l : List α), (∀ x ∈ l, x ∈ zs) → ((l.map emb).filter fun d => onE q false (unE emb zs d)).map (fun d => onE f .none (unE emb zs d)) = (l.filter q).map f
  | [], _ => rfl
  | x :: l, h => by
    have ih := fm_unE hinj q f l fun y hy => h y (List.mem_cons_of_mem _ hy)
    have hx := unE_is hinj (h x List.mem_cons_self)
    rw [List.map_cons]
    cases hq : q x with
    | true =>
      rw [List.filter_cons_of_pos (by rw [hx]; exact hq), List.filter_cons_of_pos hq, List.map_cons, List.map_cons, ih, hx]; rfl
    | false =>
      rw [List.filter_cons_of_neg (by rw [hx]; simp [onE, hq]), List.filter_cons_of_neg (by simp [hq]), ih]
theorem dN_inj {x y : Node} (h : dN x = dN y) : x = y := by
  have h' : x.map D.str = y.map D.str := by injection h
  have h2 := congrArg (List.map (dStr (fun c => c) "")) h'
  rw [List.map_map, List.map_map] at h2
  have e : (dStr (fun c => c) "" ∘ D.str) = id := rfl
  rwa [e, List.map_id, List.map_id] at h2
noncomputable def wtN (x : Node) : Int := lenP (pairS x)
noncomputable def parN (F : List Node) (x : Node) : Int := if x.length = 1 then 0 else 1 + ((F.findIdx fun y => decide (y = x.dropLast) : Nat) : Int)
section
variable {w : World} {hb : Heap} {n : Nat} {A : Around} {env : Env} {ls ls' fls : List (Str × D)} {σ σ' σ'' τ : List Ob} {L : Addr}
theorem Ev.compE {α : Type} {emb : α → D} {zs : List α} {elt iter : PySem.Expr} {x : Str} {px pos : Pos} {ifs : List PySem.Expr} {scope : Scope} (q : α → Bool) (f : α → D) (hinj : ∀ x ∈ zs, ∀ y ∈ zs, emb x = emb y → x = y)
    (hsi : Si w hb n env ls σ iter (zs.map emb)) (hf : Free env scope (closOf scope env) x ls fls)
    (ht : ∀ τ C e, e ∈ zs → TrI w hb n (compEnvC scope (closOf scope env) C env) ((x, emb e) :: fls) (σ ++ τ) ifs (q e))
    (he : ∀ τ C e, e ∈ zs → q e = true → Ev w hb n (compEnvC scope (closOf scope env) C env) ((x, emb e) :: fls) (σ ++ τ) elt (f e)) (hpl : ∀ e ∈ zs, q e = true → (f e).pl = true) (hsz : zs.length ≤ 16777216)
    (hfree : autoParam ((scope.names.all fun x => !(x.2 == NameKind.free) || (env.cells.lookup x.1).isSome) = true) Mine.auR) (hkind : autoParam (scope.kind = .function) Mine.auR) (hx : autoParam (scope.names.lookup x = some .local) Mine.auR) (hcell : autoParam (∀ y ∈ scope.names, y.2 ≠ .cell) Mine.auD) (hxi : autoParam (x ≠ "_initial_size") Mine.auD)
    (hnames : autoParam (∀ y ∈ scope.names, y.2 = .local → scope.names.lookup y.1 = some .local) Mine.auD) (hs : autoParam (∀ x, foldedSetIterable iter env x = pure x) Mine.auI) :
    Ev w hb n env ls σ (.ListComp elt [⟨.Name x px, iter, ifs, 0⟩] scope pos) (.lst ((zs.filter q).map f)) := by
  rw [← fm_unE hinj q f zs fun _ h => h]
  refine Ev.comp (fun d => onE q false (unE emb zs d)) (fun d => onE f .none (unE emb zs d)) hsi hf ?_ ?_ ?_ (by rw [List.length_map]; exact hsz) hfree hkind hx hcell hxi hnames hs
  · intro τ C d hd
    obtain ⟨z, hz, rfl⟩ := List.mem_map.mp hd
    rw [unE_is hinj hz]
    exact ht τ C z hz
  · intro τ C d hd hp
    obtain ⟨z, hz, rfl⟩ := List.mem_map.mp hd
    rw [unE_is hinj hz] at hp ⊢
    exact he τ C z hz hp
  · intro d hd hp
    obtain ⟨z, hz, rfl⟩ := List.mem_map.mp hd
    rw [unE_is hinj hz] at hp ⊢
    exact hpl z hz hp
theorem filter_all {α : Type} (l : List α) : l.filter (fun _ => true) = l := List.filter_eq_self.mpr fun _ _ => rfl
-- what the first lines leave
noncomputable def lsF (xs : List Int) : List (Str × D) := [("fronts", .own 0), ("script", dSc xs)]
noncomputable def σF (V : List Node) : List Ob := [.lst (V.map dN)]
theorem last_str {x : Node} (h : x ≠ []) : (x.map D.str)[(-1 + ((x.map D.str).length : Int)).toNat]? = some (.str (x.getLastD "")) := by
  have h1 : x.length ≠ 0 := fun q => h (List.length_eq_zero_iff.mp q)
  have e : (-1 + ((x.map D.str).length : Int)).toNat = x.length - 1 := by rw [List.length_map]; lia
  rw [e, List.getElem?_map, List.getLastD_eq_getLast?, List.getLast?_eq_getElem?, List.getElem?_eq_getElem (by lia)]
  rfl
theorem Ex.compE {α : Type} {emb : α → D} {zs : List α} {elt iter : PySem.Expr} {x y : Str} {px py pos spos : Pos} {ifs : List PySem.Expr} {scope : Scope} (q : α → Bool) (f : α → D) (hinj : ∀ x ∈ zs, ∀ y ∈ zs, emb x = emb y → x = y)
    (hsi : Si w hb n env ls σ iter (zs.map emb)) (hf : Free env scope (closOf scope env) x ls fls)
    (ht : ∀ τ C e, e ∈ zs → TrI w hb n (compEnvC scope (closOf scope env) C env) ((x, emb e) :: fls) (σ ++ τ) ifs (q e))
    (he : ∀ τ C e, e ∈ zs → q e = true → Ev w hb n (compEnvC scope (closOf scope env) C env) ((x, emb e) :: fls) (σ ++ τ) elt (f e)) (hpl : ∀ e ∈ zs, q e = true → (f e).pl = true) (hsz : zs.length ≤ 16777216)
    (hsw : autoParam (swapsWith (.ListComp elt [⟨.Name x px, iter, ifs, 0⟩] scope pos) (some (.Name y py)) spos.line env = pure true) Mine.auR) (hy : autoParam (env.kindOf y = some .local) Mine.auR)
    (hfree : autoParam ((scope.names.all fun x => !(x.2 == NameKind.free) || (env.cells.lookup x.1).isSome) = true) Mine.auR) (hkind : autoParam (scope.kind = .function) Mine.auR) (hx : autoParam (scope.names.lookup x = some .local) Mine.auR) (hcell : autoParam (∀ y ∈ scope.names, y.2 ≠ .cell) Mine.auD) (hxi : autoParam (x ≠ "_initial_size") Mine.auD)
    (hnames : autoParam (∀ y ∈ scope.names, y.2 = .local → scope.names.lookup y.1 = some .local) Mine.auD) (hs : autoParam (∀ x, foldedSetIterable iter env x = pure x) Mine.auI) :
    Ex w hb n env ls σ (.Assign [.Name y py] (.ListComp elt [⟨.Name x px, iter, ifs, 0⟩] scope pos) spos) (.next ((y, .lst ((zs.filter q).map f)) :: ls)) := by
  rw [← fm_unE hinj q f zs fun _ h => h]
  refine Ex.comp (fun d => onE q false (unE emb zs d)) (fun d => onE f .none (unE emb zs d)) hsi hf ?_ ?_ ?_ (by rw [List.length_map]; exact hsz) hsw hy hfree hkind hx hcell hxi hnames hs
  · intro τ C d hd
    obtain ⟨z, hz, rfl⟩ := List.mem_map.mp hd
    rw [unE_is hinj hz]
    exact ht τ C z hz
  · intro τ C d hd hp
    obtain ⟨z, hz, rfl⟩ := List.mem_map.mp hd
    rw [unE_is hinj hz] at hp ⊢
    exact he τ C z hz hp
  · intro d hd hp
    obtain ⟨z, hz, rfl⟩ := List.mem_map.mp hd
    rw [unE_is hinj hz] at hp ⊢
    exact hpl z hz hp
theorem ev_joinS {es : List PySem.Expr} {y : Node} {d : D} {p3 p4 p10 : Pos} (ha : EvA w hb n env ls σ es [d]) (hf : Fs w hb n (.builtin "str.join") [.str "/", d] σ (.str (Txt.join "/" y)))
    (hline : (p4.endLine == p10.line) = true) (hb1 : autoParam (attributeBase (.Constant (.str "/") 0 p3) "join" env (eval (.Constant (.str "/") 0 p3) env) = eval (.Constant (.str "/") 0 p3) env) Mine.auR)
    (hfew : autoParam (((backTo p10 (starEach es env)).all (fun x => !x.1) && (backToKw p10 (keywordEach [] env)).all (fun x => x.1.isSome)
      && decide (es.length + ([] : List Keyword).length + (if ([] : List Keyword).isEmpty then 0 else 1) < 30)) = true) Mine.auR) :
    Ev w hb n env ls σ (.Call (.Attribute (.Constant (.str "/") 0 p3) "join" p4) es [] p10) (.str (Txt.join "/" y)) := Ev.meth Ev.str ha hf F.plainAttrs_str F.slot_str_join F.type_str_join (.inl ⟨rfl, _, rfl⟩) hb1 hfew hline
theorem ev_wt {e1 e2 : PySem.Expr} {s1 s2 : Str} {p1 p2 p11 p16 p17 : Pos} (h1 : Ev w hb n env ls σ e1 (.str s1)) (h2 : Ev w hb n env ls σ e2 (.str s2)) (hk : env.kindOf ("len" : Str) = some .globalImplicit) (b1 : s1.length ≤ 1000) (b2 : s2.length ≤ 1000)
    (b0 : autoParam ((Str.ofString "/").length = 1) Mine.auR) :
    Ev w hb n env ls σ (.Call (.Name "len" p1) [.BinOp (.BinOp (.Constant (.str "/") 0 p2) .Add e1 p11) .Add e2 p16] [] p17) (.int ((Str.ofString "/" ++ s1 ++ s2).length : Nat)) := by
  generalize Str.ofString "/" = s0 at b0 ⊢
  have c1 : (s0 ++ s1).length = 1 + s1.length := by rw [Str.length_append, b0]
  exact Ev.call (Ev.blt hk rfl Boot.len) Kpr.blt (EvA.plain (EvS.cons (Ev.bin (Ev.bin Ev.str h1 (Bo.addS (by lia))) h2 (Bo.addS (by lia))) EvS.nil)) (Fs.lenS (by rw [Str.length_append]; lia))
theorem ev_butLast {x : Node} {p5 p6 p7 p8 p9 : Pos} (hfr : ls.lookup ("front" : Str) = some (dN x)) (hl : x.length ≤ 3) :
    Ev w hb n env ls σ (.Subscript (.Name "front" p5) (.Slice none (some (.UnaryOp .USub (.Constant (.int 1) 0 p6) p7)) none p8) p9) (dN x.dropLast) := by
  have hpk : pick (x.map D.str) none (some (-1)) none = x.dropLast.map .str := by rw [pick_map, pick_butLast]
  have hl3 : (x.map D.str).length ≤ 16777216 := by rw [List.length_map]; lia
  exact (Ev.cut (Ev.name hfr) (.inl rfl) EvP.no (EvP.yes (Ev.neg Ev.int)) EvP.no (by decide) hl3).to (congrArg D.lst hpk)
theorem ev_last {x : Node} {p12 p13 p14 p15 : Pos} (hfr : ls.lookup ("front" : Str) = some (dN x)) (hne : x ≠ []) :
    Ev w hb n env ls σ (.Subscript (.Name "front" p12) (.UnaryOp .USub (.Constant (.int 1) 0 p13) p14) p15) (.str (x.getLastD "")) := by
  have hl1 : x.length ≠ 0 := fun q => hne (List.length_eq_zero_iff.mp q)
  have hl4 : -((x.map D.str).length : Int) ≤ -1 := by rw [List.length_map]; lia
  exact Ev.itemN (Ev.name hfr) (.inl rfl) (Ev.neg Ev.int) (by decide) hl4 (by decide) (last_str hne)
theorem fs_joinSl {y : Node} (h : y ∈ allN) : Fs w hb n (.builtin "str.join") [.str "/", dN y] σ (.str (Txt.join "/" y)) := Fs.joinL (.inl rfl) (join_ok y h).1
theorem wt_len (x : Node) : (((Str.ofString "/" ++ Txt.join "/" x.dropLast ++ x.getLastD "").length : Nat) : Int) = wtN x := by
  rw [Str.length_append]; rfl
theorem wt_b1 {x : Node} (hN : x ∈ allN) : (Txt.join "/" x.dropLast).length ≤ 1000 := (join_ok x.dropLast (allN_pre (List.dropLast_prefix x) hN)).2.1
theorem wt_b2 {x : Node} (hN : x ∈ allN) : (x.getLastD "").length ≤ 1000 := Nat.le_trans (pair_small x hN).2.1 (by decide)
theorem law_3 {xs : List Int} {V : List Node} (hN : ∀ x ∈ V, Nd x) (h6 : V.length ≤ 6) :
    Ex w hb (n + 12) (lawEnv w L) (lsF xs) (σF V) (lawS w 3) (.next (("weights", dIs (V.map wtN)) :: lsF xs)) := by
  have e : dIs (V.map wtN) = .lst ((V.filter fun _ => true).map fun x => .int (wtN x)) := by rw [filter_all]; unfold dIs; rw [List.map_map]; rfl
  rw [e]
  refine Ex.compE (fls := []) (emb := dN) (zs := V) _ _ (fun x _ y _ h => dN_inj h) (Si.of (Ev.name rfl) (Src.list (.inr ⟨0, rfl, rfl⟩))) Free.nil ?_ ?_ ?_ (by lia)
  · intro τ C x hx; exact TrI.no
  · intro τ C x hx _
    obtain ⟨ha, hne⟩ := hN x hx
    rw [← wt_len x]
    have hf := fs_joinSl (w := w) (hb := hb) (n := n + 12) (σ := σF V ++ τ) (allN_pre (List.dropLast_prefix x) ha)
    exact ev_wt (s1 := Txt.join "/" x.dropLast) (s2 := x.getLastD "") (ev_joinS (EvA.plain (EvS.cons (ev_butLast rfl (allN_mem.mp ha).1) EvS.nil)) hf rfl) (ev_last rfl hne) rfl (wt_b1 ha) (wt_b2 ha)
  · intro x hx _; rfl
end
end Mine
end

section
open PySem PySem.W PySem.Calls PyProof.Rows PySem.SeqAt PySem.MeetsSeq Builtin.ObjectAttr
set_option Elab.async false
set_option tactic.hygienic false
set_option linter.unusedVariables false
set_option maxRecDepth 100000
namespace Mine
section
variable {w : World} {hb : Heap} {n : Nat} {A : Around} {env : Env} {ls ls' fls : List (Str × D)} {σ σ' σ'' τ : List Ob} {L : Addr}
noncomputable def ls4 (xs : List Int) (V : List Node) : List (Str × D) := ("weights", dIs (V.map wtN)) :: lsF xs
theorem law_4 {xs : List Int} {V : List Node} (hN : ∀ x ∈ V, Nd x) (h6 : V.length ≤ 6) (hpar : ∀ x ∈ V, x.length ≠ 1 → x.dropLast ∈ V) :
    Ex w hb (n + 12) (lawEnv w L) (ls4 xs V) (σF V) (lawS w 4) (.next (("parents", dIs (V.map (parN V))) :: ls4 xs V)) := by
  have e : dIs (V.map (parN V)) = .lst ((V.filter fun _ => true).map fun x => .int (parN V x)) := by rw [filter_all]; unfold dIs; rw [List.map_map]; rfl
  rw [e]
  refine Ex.compE (fls := [("fronts", .own 0)]) (emb := dN) (zs := V) _ _ (fun x _ y _ h => dN_inj h) (Si.of (Ev.name rfl) (Src.list (.inr ⟨0, rfl, rfl⟩))) (Free.cons Free.nil) ?_ ?_ ?_ (by lia)
  · intro τ C x hx; exact TrI.no
  · intro τ C x hx _
    obtain ⟨ha, hne⟩ := hN x hx
    have h3 := (allN_mem.mp ha).1
    have hl : (x.map D.str).length < 2 ^ 60 := by rw [List.length_map]; lia
    have h0 : (σF V ++ τ)[0]? = some (.lst (V.map dN)) := rfl
    by_cases h1 : x.length = 1
    · have e1 : parN V x = 0 := by unfold parN; rw [if_pos h1]
      rw [e1]
      exact Ev.ife (c := true) ((Tr.cmp (Ev.call (Ev.blt rfl rfl Boot.len) Kpr.blt (EvA.plain (EvS.cons (Ev.name rfl) EvS.nil)) (Fs.lenL (.inl rfl) hl)) Ev.int Co.eqI).to (by rw [List.length_map, h1]; rfl)) Ev.int
    · have e1 : parN V x = 1 + ((V.findIdx fun y => decide (y = x.dropLast) : Nat) : Int) := by unfold parN; rw [if_neg h1]
      have hm := hpar x hx h1
      have hlt : V.findIdx (fun y => decide (y = x.dropLast)) < V.length := List.findIdx_lt_length_of_exists ⟨_, hm, by simp⟩
      have hj : V[V.findIdx fun y => decide (y = x.dropLast)]? = some x.dropLast := by
        rw [List.getElem?_eq_getElem hlt]
        have := List.findIdx_getElem (w := hlt)
        simpa using this
      have hno : ∀ m, m < V.findIdx (fun y => decide (y = x.dropLast)) → V[m]? ≠ some x.dropLast := fun m hm q => by
        have := List.not_of_lt_findIdx hm
        obtain ⟨hq, e⟩ := List.getElem?_eq_some_iff.mp q
        rw [e] at this; simp at this
      have ef : (((x.map D.str).length : Int) == 1) = false := by rw [List.length_map]; simp; lia
      rw [e1]
      have hi := Fs.index (w := w) (hb := hb) (n := n + 12) (σ := σF V ++ τ) (EqT.lst EqT.str) (d := .own 0) (.inr ⟨0, rfl, h0⟩) hj hno (by lia)
      exact Ev.ife (c := false) ((Tr.cmp (Ev.call (Ev.blt rfl rfl Boot.len) Kpr.blt (EvA.plain (EvS.cons (Ev.name rfl) EvS.nil)) (Fs.lenL (.inl rfl) hl)) Ev.int Co.eqI).to ef)
        (Ev.bin Ev.int (Ev.meth (Ev.name rfl) (EvA.plain (EvS.cons (ev_butLast rfl h3) EvS.nil)) hi F.plainAttrs_list F.slot_list_index F.type_list_index (.inr (.inl ⟨rfl, _, .inr ⟨0, rfl, h0⟩⟩))) Bo.addI)
  · intro x hx _; rfl
noncomputable def ls5 (xs : List Int) (V : List Node) : List (Str × D) := ("parents", dIs (V.map (parN V))) :: ls4 xs V
noncomputable def maxI (l : List Int) : Int := match l with | [] => 0 | x :: l => maxBy iLt x l
noncomputable def widthP (xs : List Int) (V : List Node) : Int := maxI (V.map wtN) + (xs.sum + 2).fmod 5
theorem law_5 {xs : List Int} {V : List Node} (h0 : V ≠ []) : Ex w hb (n + 12) (lawEnv w L) (ls5 xs V) (σF V) (lawS w 5) (.next (("width", .int (widthP xs V)) :: ls5 xs V)) := by
  have hm : Fs w hb (n + 12) (.builtin "max") [dIs (V.map wtN)] (σF V) (.int (maxI (V.map wtN))) := by
    cases V with
    | nil => exact absurd rfl h0
    | cons x V => exact Fs.maxL OrdT.int (.inl rfl)
  exact Ex.assign (Ev.bin (Ev.call (Ev.blt rfl rfl Boot.max) Kpr.blt (EvA.plain (EvS.cons (Ev.name rfl) EvS.nil)) hm)
    (Ev.bin (Ev.bin (Ev.call (Ev.blt rfl rfl Boot.sum) Kpr.blt (EvA.plain (EvS.cons (Ev.name rfl) EvS.nil)) (Fs.sum (.inl rfl))) Ev.int Bo.addI) Ev.int Bo.modI) Bo.addI) (.inl rfl)
noncomputable def ls6 (xs : List Int) (V : List Node) : List (Str × D) := ("width", .int (widthP xs V)) :: ls5 xs V
noncomputable def dPs (V : List Node) : D := .lst (V.map fun x => .str (pathS x))
theorem law_6 {xs : List Int} {V : List Node} (hN : ∀ x ∈ V, Nd x) (h6 : V.length ≤ 6) : Ex w hb (n + 12) (lawEnv w L) (ls6 xs V) (σF V) (lawS w 6) (.next (("paths", dPs V) :: ls6 xs V)) := by
  have e : dPs V = .lst ((V.filter fun _ => true).map fun x => .str (pathS x)) := by rw [filter_all]; rfl
  rw [e]
  refine Ex.compE (fls := []) (emb := dN) (zs := V) _ _ (fun x _ y _ h => dN_inj h) (Si.of (Ev.name rfl) (Src.list (.inr ⟨0, rfl, rfl⟩))) Free.nil ?_ ?_ ?_ (by lia)
  · intro τ C x hx; exact TrI.no
  · intro τ C x hx _
    obtain ⟨ha, hne⟩ := hN x hx
    have h3 := (allN_mem.mp ha).1
    exact Ev.call (Ev.glob rfl rfl) (Kpr.K rfl) (EvA.plain (EvS.cons Ev.str (EvS.star (Ev.name rfl) (.inl rfl) EvS.nil (by rw [List.length_map]; lia)))) (by rw [List.append_nil]; exact fs_joinR (n := n + 10) ha)
  · intro x hx _; rfl
noncomputable def ls9 (xs : List Int) (V : List Node) : List (Str × D) := ("hanging", .own 1) :: ("cuts", .int 0) :: ("gone", .lst []) :: ("paths", dPs V) :: ls6 xs V
theorem law_7 {xs : List Int} {V : List Node} : Ex w hb (n + 12) (lawEnv w L) (("paths", dPs V) :: ls6 xs V) (σF V) (lawS w 7) (.next (("gone", .lst []) :: ("paths", dPs V) :: ls6 xs V)) :=
  Ex.assign (Ev.list EvS.nil) (.inl rfl)
theorem law_8 {xs : List Int} {V : List Node} : Ex w hb (n + 12) (lawEnv w L) (("gone", .lst []) :: ("paths", dPs V) :: ls6 xs V) (σF V) (lawS w 8) (.next (("cuts", .int 0) :: ("gone", .lst []) :: ("paths", dPs V) :: ls6 xs V)) :=
  Ex.assign Ev.int (.inl rfl)
theorem law_9 {xs : List Int} {V : List Node} : ExW w hb (n + 12) (lawEnv w L) (("cuts", .int 0) :: ("gone", .lst []) :: ("paths", dPs V) :: ls6 xs V) (σF V) (lawS w 9) (.next (ls9 xs V) (σF V ++ [.lst []])) :=
  ExW.newList (.inl rfl)
end
end Mine
end

section
open PySem PySem.W PySem.Calls PyProof.Rows PySem.SeqAt PySem.MeetsSeq Builtin.ObjectAttr
set_option Elab.async false
set_option tactic.hygienic false
set_option linter.unusedVariables false
set_option maxRecDepth 100000
namespace Mine
/-! the turn of one folder -/
noncomputable abbrev Item := Node × List Node
noncomputable def dP (x : Node) : D := .str (pathS x)
noncomputable def dIt (t : Item) : D := .lst [dP t.1, .acc (t.2.map prN)]
noncomputable def bodyS (w : World) (j : Nat) : Stmt := match lawS w 10 with
  | .For _ _ b _ _ => b.getD j (.Pass ⟨0, 0, 0, 0⟩)
  | _ => .Pass ⟨0, 0, 0, 0⟩
structure OkH (H : List Item) : Prop where
  nd : ∀ t ∈ H, Nd t.1
  ps : ∀ t ∈ H, ∀ p ∈ t.2, Nd p
  len : ∀ t ∈ H, t.2.length ≤ 50
  small : H.length ≤ 50
noncomputable def innerOf (H : List Item) (i : Node) : List Item := H.filter fun t => decide (t.1.dropLast = i)
noncomputable def underOf (V : List Node) (i : Node) : List Node := V.filter fun p => decide (cp2 i p = i)
theorem map_inj_on {α β : Type} {f : α → β} {P : α → Prop} (hf : ∀ x y, P x → P y → f x = f y → x = y) : ∀ {l m : List α}, (∀ x ∈ l, P x) → (∀ x ∈ m, P x) → l.map f = m.map f → l = m
  | [], [], _, _, _ => rfl
  | [], _ :: _, _, _, h => by cases h
  | _ :: _, [], _, _, h => by cases h
  | x :: l, y :: m, hl, hm, h => by
    rw [List.map_cons, List.map_cons, List.cons.injEq] at h
    rw [hf x y (hl x List.mem_cons_self) (hm y List.mem_cons_self) h.1, map_inj_on hf (fun z hz => hl z (List.mem_cons_of_mem _ hz)) (fun z hz => hm z (List.mem_cons_of_mem _ hz)) h.2]
theorem dP_inj {x y : Node} (hx : x ∈ allN) (hy : y ∈ allN) (h : dP x = dP y) : x = y := path_inj hx hy (by injection h)
theorem prN_inj {x y : Node} (hx : Nd x) (hy : Nd y) (h : prN x = prN y) : x = y := by
  have h1 : [D.str (pairS x).1, D.str (pairS x).2] = [D.str (pairS y).1, D.str (pairS y).2] := by injection h
  rw [List.cons.injEq, List.cons.injEq] at h1
  have h2 : (pairS x).1 = (pairS y).1 := by injection h1.1
  have h3 : (pairS x).2 = (pairS y).2 := by injection h1.2.1
  exact pair_inj hx hy (Prod.ext h2 h3)
theorem dIt_inj {H : List Item} (o : OkH H) : ∀ x ∈ H, ∀ y ∈ H, dIt x = dIt y → x = y := fun x hx y hy h => by
  have h1 : [dP x.1, D.acc (x.2.map prN)] = [dP y.1, D.acc (y.2.map prN)] := by injection h
  rw [List.cons.injEq, List.cons.injEq] at h1
  have h2 : x.2.map prN = y.2.map prN := by injection h1.2.1
  exact Prod.ext (dP_inj (o.nd x hx).1 (o.nd y hy).1 h1.1) (map_inj_on (P := Nd) (fun a b ha hb => prN_inj ha hb) (o.ps x hx) (o.ps y hy) h2)
theorem plN (xs : List Node) : D.plAll (xs.map prN) = true := by
  rw [plAll_iff]
  intro d hd
  obtain ⟨p, _, rfl⟩ := List.mem_map.mp hd
  rfl
theorem pl_dI (t : Item) : (dIt t).pl = true := by
  show (D.plAll [dP t.1, .acc (t.2.map prN)]) = true
  rw [plAll_iff]
  intro d hd
  replace hd := mem2f hd
  rcases hd with rfl | rfl
  · rfl
  · exact plN _
theorem beqP {x y : Node} (hx : x ∈ allN) (hy : y ∈ allN) : (pathS x == pathS y) = decide (x = y) := by
  rw [Bool.eq_iff_iff, beq_iff_eq, decide_eq_true_iff]
  exact ⟨fun h => path_inj hx hy h, fun h => by rw [h]⟩
noncomputable def lsM (xs : List Int) (V : List Node) (G : List Node) (c : Int) : List (Str × D) :=
  [("hanging", .own 1), ("cuts", .int c), ("gone", .lst (G.map prN)), ("paths", .lst (V.map dP)), ("width", .int (widthP xs V)), ("parents", dIs (V.map (parN V))), ("weights", dIs (V.map wtN))]
noncomputable def σM (V : List Node) (H : List Item) : List Ob := [.lst (V.map dN), .lst (H.map dIt)]
noncomputable def lsB0 (xs : List Int) (V : List Node) (i : Node) (G : List Node) (c : Int) : List (Str × D) := ("folder", dP i) :: lsM xs V G c
section
variable {w : World} {hb : Heap} {n : Nat} {A : Around} {env : Env} {ls ls' fls : List (Str × D)} {σ σ' σ'' τ : List Ob} {L : Addr}
variable {xs : List Int} {V : List Node} {i : Node} {G : List Node} {c : Int} {H : List Item}
theorem body_0 (o : OkH H) (hi : i ∈ allN) :
    Ex w hb (n + 12) (lawEnv w L) (lsB0 xs V i G c) (σM V H) (bodyS w 0) (.next (("inner", .lst ((innerOf H i).map dIt)) :: lsB0 xs V i G c)) := by
  refine Ex.compE (fls := [("folder", dP i)]) (emb := dIt) (zs := H) (fun t => decide (t.1.dropLast = i)) _ (dIt_inj o) (Si.of (Ev.name rfl) (Src.list (.inr ⟨1, rfl, rfl⟩))) (Free.cons Free.nil) ?_ ?_ ?_ (by have := o.small; lia)
  · intro τ C t ht
    have hN := o.nd t ht
    rw [← beqP (allN_pre (List.dropLast_prefix t.1) hN.1) hi]
    exact TrI.one (Tr.cmp (Ev.itemT (e := .str (pathS t.1.dropLast)) (Ev.call (Ev.glob rfl rfl) (Kpr.K rfl) (EvA.plain (EvS.cons (Ev.item (e := dP t.1) (Ev.name rfl) (.inl rfl) Ev.int) EvS.nil)) (fs_splitN (n := n + 10) hN)) Ev.int) (Ev.name rfl) Co.eqS)
  · intro τ C t ht _; exact Ev.name rfl
  · intro t ht _; exact pl_dI t
noncomputable def lsB1 (xs : List Int) (V : List Node) (i : Node) (G : List Node) (c : Int) (I : List Item) : List (Str × D) := ("inner", .lst (I.map dIt)) :: lsB0 xs V i G c
theorem fst_list (I : List Item) : ((I.filter fun _ => true).map fun t => dP t.1) = ((I.map (·.1)).map pathS).map .str := by
  rw [filter_all, List.map_map, List.map_map]; rfl
theorem body_1 {I : List Item} (o : OkH I) (hi : i ∈ allN) (hc : ∀ t I', I = t :: I' → I' ≠ [] → cpN t.1 (I'.map (·.1)) = i) :
    Ex w hb (n + 12) (lawEnv w L) (lsB1 xs V i G c I) (σM V H) (bodyS w 1) (.next (lsB1 xs V i G c I)) := by
  have hs := o.small
  have hl : (I.map dIt).length < 2 ^ 60 := by rw [List.length_map]; lia
  have hle : ∀ p1 p2 p3 p4 k p5, Tr w hb (n + 12) (lawEnv w L) (lsB1 xs V i G c I) (σM V H) (.Compare (.Call (.Name "len" p1) [.Name "inner" p2] [] p3) [.Gt] [.Constant (.int 1) k p4] p5) (decide (((I.map dIt).length : Int) > 1)) := fun p1 p2 p3 p4 k p5 =>
    Tr.cmp (Ev.call (Ev.blt rfl rfl Boot.len) Kpr.blt (EvA.plain (EvS.cons (Ev.name rfl) EvS.nil)) (Fs.lenL (.inl rfl) hl)) Ev.int Co.gtI
  by_cases h1 : I.length > 1
  · obtain ⟨t, I', rfl⟩ : ∃ t I', I = t :: I' := by
      cases I with
      | nil => simp at h1
      | cons t I' => exact ⟨t, I', rfl⟩
    have hI' : I' ≠ [] := fun q => by subst q; simp at h1
    have hcp := hc t I' rfl hI'
    refine Ex.iff (b := false) (Tr.and2 ((hle _ _ _ _ _ _).to (by rw [List.length_map]; simp; simp at h1; lia)) ?_) Exs.nil
    have hcm := fs_commonN (w := w) (hb := hb) (n := n + 9) (σ := σM V H) (x := t.1) (xs := I'.map (·.1)) (fun y hy => by
      have : y ∈ (t :: I').map (·.1) := hy
      obtain ⟨z, hz, rfl⟩ := List.mem_map.mp this
      exact (o.nd z hz).1) (by rw [List.length_map]; simp at hs; lia)
    rw [hcp] at hcm
    refine (Tr.cmp (Ev.call (Ev.glob rfl rfl) (Kpr.K rfl) (EvA.plain (EvS.cons ((Ev.compE (fls := []) (emb := dIt) (zs := t :: I') (fun _ => true) (fun t => dP t.1) (dIt_inj o) (Si.of (Ev.name rfl) (Src.list (.inl rfl))) Free.nil ?_ ?_ ?_ (by lia)).to (congrArg D.lst (fst_list (t :: I')))) EvS.nil)) hcm) (Ev.name rfl) Co.neS).to (by simp)
    · intro τ C t ht; exact TrI.no
    · intro τ C t ht _; exact Ev.item (e := dP t.1) (Ev.name rfl) (.inl rfl) Ev.int
    · intro t ht _; rfl
  · exact Ex.iff (b := false) (Tr.and1 ((hle _ _ _ _ _ _).to (by rw [List.length_map]; simp; lia))) Exs.nil
theorem body_2 {I : List Item} (hi : i ∈ allN) (hV : ∀ x ∈ V, x ∈ allN) (hs : V.length ≤ 50) :
    Ex w hb (n + 12) (lawEnv w L) (lsB1 xs V i G c I) (σM V H) (bodyS w 2) (.next (("under", .lst ((underOf V i).map dP)) :: lsB1 xs V i G c I)) := by
  refine Ex.compE (fls := [("folder", dP i)]) (emb := dP) (zs := V) (fun p => decide (cp2 i p = i)) _ (fun x hx y hy h => dP_inj (hV x hx) (hV y hy) h) (Si.of (Ev.name rfl) (Src.list (.inl rfl))) (Free.cons Free.nil) ?_ ?_ ?_ (by lia)
  · intro τ C p hp
    rw [← beqP (allN_pre (cp2_l i p) hi) hi]
    have hcm := fs_commonN (w := w) (hb := hb) (n := n + 9) (σ := σM V H ++ τ) (x := i) (xs := [p]) (fun y hy => by
      replace hy := mem2f hy
      rcases hy with rfl | rfl
      · exact hi
      · exact hV _ hp) (by simp)
    exact TrI.one (Tr.cmp (Ev.call (Ev.glob rfl rfl) (Kpr.K rfl) (EvA.plain (EvS.cons (Ev.list (EvS.cons (Ev.name rfl) (EvS.cons (Ev.name rfl) EvS.nil))) EvS.nil)) hcm) (Ev.name rfl) Co.eqS)
  · intro τ C t ht _; exact Ev.name rfl
  · intro t ht _; rfl
noncomputable def lsB2 (xs : List Int) (V : List Node) (i : Node) (G : List Node) (c : Int) (I : List Item) : List (Str × D) := ("under", .lst ((underOf V i).map dP)) :: lsB1 xs V i G c I
theorem plσ : ∀ ob ∈ σM V H, ob.pl = true := fun ob hm => by
  unfold σM at hm
  replace hm := mem2f hm
  rcases hm with rfl | rfl
  · show D.plAll _ = true
    rw [plAll_iff]; intro d hd
    obtain ⟨p, _, rfl⟩ := List.mem_map.mp hd
    exact pl_strs _
  · show D.plAll _ = true
    rw [plAll_iff]; intro d hd
    obtain ⟨p, _, rfl⟩ := List.mem_map.mp hd
    exact pl_dI _
theorem body_3 {I : List Item} (hV : ∀ x ∈ V, Nd x) (hVd : V.Nodup) (hs : V.length ≤ 50) (hG : G.Nodup) (hGn : ∀ x ∈ G, Nd x) (hGs : G.length ≤ 50) :
    ExW w hb (n + 12) (lawEnv w L) (lsB2 xs V i G c I) (σM V H) (bodyS w 3) (.next (("part", .acc ((hangU (underOf V i) G).map prN)) :: lsB2 xs V i G c I) (σM V H)) := by
  have hf := fs_hangN (w := w) (hb := hb) (n := n + 7) (σ := σM V H) (U := underOf V i) (G := G) (hVd.filter _) hG (fun x hx => hV x (List.mem_filter.mp hx).1) hGn (Nat.le_trans (List.length_filter_le _ _) hs) hGs plσ
  rw [List.map_map] at hf
  exact ExW.assign (EvW.call (Ev.glob rfl rfl) (Kpr.K rfl) (EvA.toW (EvA.plain (EvS.cons (Ev.name rfl) (EvS.cons (Ev.name rfl) EvS.nil)))) hf) (.inl rfl)
end
end Mine
end

section
open PySem PySem.W PySem.Calls PyProof.Rows PySem.SeqAt PySem.MeetsSeq Builtin.ObjectAttr
set_option Elab.async false
set_option tactic.hygienic false
set_option linter.unusedVariables false
set_option maxRecDepth 100000
namespace Mine
noncomputable def wsum (ps : List Node) : Int := (ps.map wtN).sum
theorem tot_wsum (ps : List Node) : tot (ps.map pairS) = wsum ps := by
  unfold tot wsum
  rw [List.map_map]; rfl
-- while the greedy cuts: what is cut off, how many, those right below, what hangs
structure CS where
  G : List Node
  c : Int
  I : List Item
  part : List Node
noncomputable def maxAt (l : List Int) : Nat := l.findIdx fun x => decide (x = maxI l)
noncomputable def cutStep (U : List Node) (W : Int) (a : CS) : CS :=
  if wsum a.part > W then
    let k := maxAt (a.I.map fun t => wsum t.2)
    let G' := a.G ++ (a.I.getD k ([], [])).2
    ⟨G', a.c + 1, a.I.take k ++ a.I.drop (k + 1), hangU U G'⟩
  else a
noncomputable def cutN (U : List Node) (W : Int) : Nat → CS → CS
  | 0, a => a
  | m + 1, a => cutStep U W (cutN U W m a)
-- what a state of the greedy must be for its step to be shown
structure OkC (U : List Node) (W : Int) (a : CS) : Prop where
  oi : OkH a.I
  gd : a.G.Nodup
  gn : ∀ x ∈ a.G, Nd x
  gs : a.G.length ≤ 50
  pn : ∀ x ∈ a.part, Nd x
  ps : a.part.length ≤ 50
  ne : wsum a.part > W → a.I ≠ []
noncomputable def lsC (xs : List Int) (V : List Node) (i : Node) (a : CS) : List (Str × D) := 
  [("part", .acc (a.part.map prN)), ("inner", .lst (a.I.map dIt)), ("cuts", .int a.c), ("gone", .lst (a.G.map prN)), ("under", .lst ((underOf V i).map dP)), ("folder", dP i), ("hanging", .own 1), ("paths", .lst (V.map dP)), ("width", .int (widthP xs V)), ("parents", dIs (V.map (parN V))), ("weights", dIs (V.map wtN))]
section
variable {w : World} {hb : Heap} {n : Nat} {A : Around} {env : Env} {ls ls' fls : List (Str × D)} {σ σ' σ'' τ : List Ob} {L : Addr}
variable {xs : List Int} {V : List Node} {i : Node} {G : List Node} {c : Int} {H : List Item}
theorem szs_N {ps : List Node} (h : ∀ x ∈ ps, Nd x) (hl : ps.length ≤ 50) : Szs (ps.map pairS) := ⟨fun p hp => by
    obtain ⟨x, hx, rfl⟩ := List.mem_map.mp hp
    have h1 := (pair_small x (h x hx).1).1
    have h2 := (pair_small x (h x hx).1).2.1
    exact ⟨Nat.le_trans h1 (by decide), Nat.le_trans h2 (by decide)⟩, by rw [List.length_map]; lia⟩
theorem fs_lenN {d : D} {ps : List Node} (hA : IsA σ d (ps.map prN)) (h : ∀ x ∈ ps, Nd x) (hl : ps.length ≤ 50) : Fs w hb (n + 3) (.builtin "len") [d] σ (.int (wsum ps)) := by
  have := Fs.lenA (w := w) (hb := hb) (n := n) (σ := σ) (d := d) (xs := ps.map pairS) (by rw [map_prN]; exact hA) (szs_N h hl)
  rwa [tot_wsum] at this
theorem maxAt_lt {l : List Int} (h : l ≠ []) : maxAt l < l.length ∧ l[maxAt l]? = some (maxI l) ∧ ∀ m, m < maxAt l → l[m]? ≠ some (maxI l) := by
  have hm : maxI l ∈ l := by
    cases l with
    | nil => exact absurd rfl h
    | cons x l => exact maxBy_mem l x
  have hlt : maxAt l < l.length := List.findIdx_lt_length_of_exists ⟨_, hm, by simp⟩
  refine ⟨hlt, ?_, fun m hm' q => ?_⟩
  · rw [List.getElem?_eq_getElem hlt]
    have := List.findIdx_getElem (xs := l) (p := fun x => decide (x = maxI l)) (w := hlt)
    exact congrArg some (of_decide_eq_true this)
  · have := List.not_of_lt_findIdx hm'
    obtain ⟨hq, e⟩ := List.getElem?_eq_some_iff.mp q
    rw [e] at this; simp at this
noncomputable def turnS (w : World) : Stmt := match bodyS w 4 with
  | .For _ _ b _ _ => b.getD 0 (.Pass ⟨0, 0, 0, 0⟩)
  | _ => .Pass ⟨0, 0, 0, 0⟩
theorem turn_ok {a : CS} (o : OkC (underOf V i) (widthP xs V) a) (hV : ∀ x ∈ V, Nd x) (hVd : V.Nodup) (hs : V.length ≤ 6) (o' : OkC (underOf V i) (widthP xs V) (cutStep (underOf V i) (widthP xs V) a)) {tn : D} :
    ExW w hb (n + 12) (lawEnv w L) (("turn", tn) :: lsC xs V i a) (σM V H) (turnS w) (.next (lsC xs V i (cutStep (underOf V i) (widthP xs V) a)) (σM V H)) := by
  by_cases hgt : wsum a.part > widthP xs V
  · have hne := o.ne hgt
    let l : List Int := a.I.map fun t => wsum t.2
    have hl : l ≠ [] := fun q => hne (List.map_eq_nil_iff.mp q)
    obtain ⟨k1, k2, k3⟩ := maxAt_lt hl
    have kI : maxAt l < a.I.length := by rw [List.length_map] at k1; exact k1
    have hsI := o.oi.small
    obtain ⟨it, hit⟩ : ∃ it, a.I[maxAt l]? = some it := ⟨_, List.getElem?_eq_getElem kI⟩
    have hitm := List.mem_of_getElem? hit
    have e : cutStep (underOf V i) (widthP xs V) a = ⟨a.G ++ it.2, a.c + 1, a.I.take (maxAt l) ++ a.I.drop (maxAt l + 1), hangU (underOf V i) (a.G ++ it.2)⟩ := by
      unfold cutStep
      rw [if_pos hgt]
      have : a.I.getD (maxAt l) ([], []) = it := by rw [List.getD_eq_getElem?_getD, hit]; rfl
      show CS.mk (a.G ++ (a.I.getD (maxAt l) ([], [])).2) _ _ _ = _
      rw [this]
    rw [e] at o' ⊢
    have hip := o.oi.ps it hitm
    have hil := o.oi.len it hitm
    have hsz : dIs l = .lst ((a.I.filter fun _ => true).map fun t => .int (wsum t.2)) := by rw [filter_all]; unfold dIs; rw [List.map_map]; rfl
    have hmx : Fs w hb (n + 12) (.builtin "max") [dIs l] (σM V H) (.int (maxI l)) := by
      generalize l = l' at hl
      cases l' with
      | nil => exact absurd rfl hl
      | cons x V => exact Fs.maxL OrdT.int (.inl rfl)
    have hll : l.length < 2 ^ 60 := by show (a.I.map _).length < _; rw [List.length_map]; lia
    have hix := Fs.index (w := w) (hb := hb) (n := n + 12) (σ := σM V H) EqT.int (d := dIs l) (.inl rfl) k2 k3 hll
    have hf := fs_hangN (w := w) (hb := hb) (n := n + 7) (σ := σM V H) (U := underOf V i) (G := a.G ++ it.2) (hVd.filter _) o'.gd (fun x hx => hV x (List.mem_filter.mp hx).1) o'.gn (Nat.le_trans (List.length_filter_le _ _) (by lia)) o'.gs plσ
    rw [List.map_map] at hf
    have hitD : (a.I.map dIt)[(maxAt l : Int).toNat]? = some (dIt it) := by rw [Int.toNat_natCast, List.getElem?_map, hit]; rfl
    have hcp : D.lst (pick (a.I.map dIt) none (some (maxAt l : Int)) none ++ pick (a.I.map dIt) (some ((maxAt l : Int) + 1)) none none) = .lst ((a.I.take (maxAt l) ++ a.I.drop (maxAt l + 1)).map dIt) := by
      rw [show ((maxAt l : Int) + 1) = ((maxAt l + 1 : Nat) : Int) by lia, pick_take, pick_drop, List.map_append, List.map_take, List.map_drop]
    have hcl : (pick (a.I.map dIt) none (some (maxAt l : Int)) none).length + (pick (a.I.map dIt) (some ((maxAt l : Int) + 1)) none none).length ≤ 16777216 := by
      rw [show ((maxAt l : Int) + 1) = ((maxAt l + 1 : Nat) : Int) by lia, pick_take, pick_drop, List.length_take, List.length_drop, List.length_map]; lia
    have hbI : (a.I.map dIt).length ≤ 16777216 := by rw [List.length_map]; lia
    have hgl : (a.G.map prN).length + (it.2.map prN).length ≤ 16777216 := by rw [List.length_map, List.length_map]; have := o.gs; lia
    have hga : D.lst (a.G.map prN ++ it.2.map prN) = .lst ((a.G ++ it.2).map prN) := by rw [List.map_append]
    have hcpy : D.lst ((it.2.filter fun _ => true).map prN) = .lst (it.2.map prN) := by rw [filter_all]
    refine ExW.iff (b := true) (Tr.and2 (Tr.cmp (Ev.name rfl) Ev.none Co.isNotNoneA) ((Tr.cmp (Ev.call (Ev.blt rfl rfl Boot.len) Kpr.blt (EvA.plain (EvS.cons (Ev.name rfl) EvS.nil)) (fs_lenN (n := n + 9) (.inl rfl) o.pn o.ps)) (Ev.name rfl) Co.gtI).to (decide_eq_true hgt))) ?_
    refine ExsW.cons (ls' := ("sizes", dIs l) :: ("turn", tn) :: lsC xs V i a) (Ex.toW ?_) ?_
    · rw [hsz]
      refine Ex.compE (fls := []) (emb := dIt) (zs := a.I) (fun _ => true) (fun t => .int (wsum t.2)) (dIt_inj o.oi) (Si.of (Ev.name rfl) (Src.list (.inl rfl))) Free.nil ?_ ?_ ?_ (by lia)
      · intro τ C t ht; exact TrI.no
      · intro τ C t ht _
        exact Ev.call (Ev.blt rfl rfl Boot.len) Kpr.blt (EvA.plain (EvS.cons (Ev.item (e := .acc (t.2.map prN)) (Ev.name rfl) (.inl rfl) Ev.int) EvS.nil)) (fs_lenN (n := n + 9) (.inl rfl) (o.oi.ps t ht) (o.oi.len t ht))
      · intro t ht _; rfl
    refine ExsW.cons (Ex.toW (Ex.assign (Ev.meth (Ev.name rfl) (EvA.plain (EvS.cons (Ev.call (Ev.blt rfl rfl Boot.max) Kpr.blt (EvA.plain (EvS.cons (Ev.name rfl) EvS.nil)) hmx) EvS.nil)) hix F.plainAttrs_list F.slot_list_index F.type_list_index (.inr (.inl ⟨rfl, _, .inl rfl⟩))) (.inl rfl))) ?_
    refine ExsW.cons (ls' := ("gone", .lst ((a.G ++ it.2).map prN)) :: ("k", .int (maxAt l)) :: ("sizes", dIs l) :: ("turn", tn) :: lsC xs V i a) (Ex.toW (Ex.assign ((Ev.bin (Ev.name rfl) ((Ev.compE (fls := []) (emb := prN) (zs := it.2) (fun _ => true) prN (fun x hx y hy h => prN_inj (hip x hx) (hip y hy) h) (Si.of (Ev.item (e := .acc (it.2.map prN)) (Ev.item (e := dIt it) (Ev.name rfl) (.inl rfl) (Ev.name rfl) (by lia) (by lia) hitD) (.inl rfl) Ev.int) (Src.acc (.inl rfl))) Free.nil ?_ ?_ ?_ (by lia)).to hcpy) (Bo.addL (.inl rfl) (.inl rfl) hgl)).to hga) (.inl rfl))) ?_
    · intro τ C t ht; exact TrI.no
    · intro τ C t ht _; exact Ev.name rfl
    · intro t ht _; rfl
    refine ExsW.cons (Ex.toW (Ex.assign ((Ev.bin (Ev.cut (Ev.name rfl) (.inl rfl) EvP.no (EvP.yes (Ev.name rfl)) EvP.no (by decide) hbI) (Ev.cut (Ev.name rfl) (.inl rfl) (EvP.yes (Ev.bin (Ev.name rfl) Ev.int Bo.addI)) EvP.no EvP.no (by decide) hbI) (Bo.addL (.inl rfl) (.inl rfl) hcl)).to hcp) (.inl rfl))) ?_
    refine ExsW.cons (Ex.toW (Ex.aug rfl Ev.int Io.addI (.inl rfl))) ?_
    refine ExsW.weaken (ExsW.cons (ExW.assign (EvW.call (Ev.glob rfl rfl) (Kpr.K rfl) (EvA.toW (EvA.plain (EvS.cons (Ev.name rfl) (EvS.cons (Ev.name rfl) EvS.nil)))) hf) (.inl rfl)) ExsW.nil) ?_
    exact subC rfl (subC rfl (subC rfl (subC rfl (subC rfl (subC rfl (subC rfl (subC rfl (subC rfl (subC rfl (subC rfl subN))))))))))
  · have e : cutStep (underOf V i) (widthP xs V) a = a := by unfold cutStep; rw [if_neg hgt]
    rw [e]
    exact ExW.iff (b := false) (Tr.and2 (Tr.cmp (Ev.name rfl) Ev.none Co.isNotNoneA) ((Tr.cmp (Ev.call (Ev.blt rfl rfl Boot.len) Kpr.blt (EvA.plain (EvS.cons (Ev.name rfl) EvS.nil)) (fs_lenN (n := n + 9) (.inl rfl) o.pn o.ps)) (Ev.name rfl) Co.gtI).to (decide_eq_false hgt))) (ExsW.weaken ExsW.nil (look_sub rfl))
end
end Mine
end

section
open PySem PySem.W PySem.Calls PyProof.Rows PySem.SeqAt PySem.MeetsSeq Builtin.ObjectAttr
set_option Elab.async false
set_option tactic.hygienic false
set_option linter.unusedVariables false
set_option maxRecDepth 100000
namespace Mine
section
variable {w : World} {hb : Heap} {n : Nat} {A : Around} {env : Env} {ls ls' fls : List (Str × D)} {σ σ' σ'' τ : List Ob} {L : Addr}
variable {xs : List Int} {V : List Node} {i : Node} {G : List Node} {c : Int} {H : List Item}
noncomputable def startC (V : List Node) (i : Node) (G : List Node) (c : Int) (I : List Item) : CS := ⟨G, c, I, hangU (underOf V i) G⟩
theorem body_4 {I : List Item} (hV : ∀ x ∈ V, Nd x) (hVd : V.Nodup) (hs : V.length ≤ 6) (o : ∀ j, j ≤ I.length → OkC (underOf V i) (widthP xs V) (cutN (underOf V i) (widthP xs V) j (startC V i G c I))) :
    ExW w hb (n + 12) (lawEnv w L) (("part", .acc ((hangU (underOf V i) G).map prN)) :: lsB2 xs V i G c I) (σM V H) (bodyS w 4) (.next (lsC xs V i (cutN (underOf V i) (widthP xs V) I.length (startC V i G c I))) (σM V H)) := by
  have hsI : I.length ≤ 50 := (o 0 (Nat.zero_le _)).oi.small
  have hl : (I.map dIt).length < 2 ^ 60 := by rw [List.length_map]; lia
  have er : (rangeD 0 I.length).length = I.length := by unfold rangeD; rw [List.length_map, List.length_range]
  have e0 : lsC xs V i (cutN (underOf V i) (widthP xs V) I.length (startC V i G c I)) = (fun j => lsC xs V i (cutN (underOf V i) (widthP xs V) j (startC V i G c I))) (rangeD 0 I.length).length := by rw [er]
  rw [e0]
  refine ExW.forN (xs := rangeD 0 I.length) (fun j => lsC xs V i (cutN (underOf V i) (widthP xs V) j (startC V i G c I))) (fun _ => σM V H)
    ((SiP.range1 (Ev.blt rfl rfl Boot.range) (EvA.plain (EvS.cons (Ev.call (Ev.blt rfl rfl Boot.len) Kpr.blt (EvA.plain (EvS.cons (Ev.name rfl) EvS.nil)) (Fs.lenL (.inl rfl) hl)) EvS.nil)) (by rw [List.length_map]; lia) (by rw [List.length_map]; lia)).to (by rw [List.length_map]; rfl)) (.inl rfl) rfl ?_ (fun j e he => ?_)
  · exact subC rfl (subC rfl (subC rfl (subC rfl (subC rfl (subC rfl (subC rfl (subC rfl (subC rfl (subC rfl (subC rfl subN))))))))))
  · have hj : j < I.length := by
      have := (List.getElem?_eq_some_iff.mp he).1
      rwa [er] at this
    exact ⟨_, ExsW.cons (turn_ok (o j (by lia)) hV hVd hs (o (j + 1) (by lia))) ExsW.nil, fun y e h => h⟩
theorem body_5 {a : CS} (hp : ∀ x ∈ a.part, Nd x) (hs : a.part.length ≤ 50) (hw : ¬ wsum a.part > widthP xs V) : ExW w hb (n + 12) (lawEnv w L) (lsC xs V i a) (σM V H) (bodyS w 5) (.next (lsC xs V i a) (σM V H)) :=
  ExW.iff (b := false) (Tr.or2 (Tr.cmp (Ev.name rfl) Ev.none Co.isNoneA) (Tr.orN ((Tr.cmp (Ev.call (Ev.blt rfl rfl Boot.len) Kpr.blt (EvA.plain (EvS.cons (Ev.name rfl) EvS.nil)) (fs_lenN (n := n + 9) (.inl rfl) hp hs)) (Ev.name rfl) Co.gtI).to (decide_eq_false hw)))) ExsW.nil
theorem body_6 {a : CS} (hi : i ∈ allN) (hp : ∀ x ∈ a.part, Nd x) (hs : a.part.length ≤ 50) (hc : i ≠ [] → ∃ x P, a.part = x :: P ∧ cpN x P = i) : Ex w hb (n + 12) (lawEnv w L) (lsC xs V i a) (σM V H) (bodyS w 6) (.next (lsC xs V i a)) := by
  have hroot : ("/" : Str) = pathS [] := by decide +kernel
  have h1 : ∀ p1 p2 p3 k, Tr w hb (n + 12) (lawEnv w L) (lsC xs V i a) (σM V H) (.Compare (.Name "folder" p1) [.NotEq] [.Constant (.str "/") k p2] p3) (!decide (i = [])) := fun p1 p2 p3 k =>
    (Tr.cmp (Ev.name rfl) Ev.str Co.neS).to (by rw [hroot]; unfold bne; rw [beqP hi (by decide +kernel)])
  by_cases h0 : i = []
  · exact Ex.iff (b := false) (Tr.and1 ((h1 _ _ _ _).to (by simp [h0]))) Exs.nil
  · obtain ⟨x, P, e, hcp⟩ := hc h0
    have hm : ∀ y ∈ x :: P, Nd y := fun y hy => hp y (e ▸ hy)
    have hcm := fs_commonN (w := w) (hb := hb) (n := n + 9) (σ := σM V H) (x := x) (xs := P) (fun y hy => (hm y hy).1) (by rw [e] at hs; simp at hs; lia)
    rw [hcp] at hcm
    have hl : D.lst ((a.part.filter fun _ => true).map dP) = dS ((x :: P).map pathS) := by rw [filter_all, e]; unfold dS; rw [List.map_map]; rfl
    refine Ex.iff (b := false) (Tr.and2 ((h1 _ _ _ _).to (by simp [h0])) ((Tr.cmp (Ev.call (Ev.glob rfl rfl) (Kpr.K rfl) (EvA.plain (EvS.cons ((Ev.compE (fls := []) (emb := prN) (zs := a.part) (fun _ => true) dP (fun x hx y hy h => prN_inj (hp x hx) (hp y hy) h) (Si.of (Ev.name rfl) (Src.acc (.inl rfl))) Free.nil ?_ ?_ ?_ (by lia)).to hl) EvS.nil)) hcm) (Ev.name rfl) Co.neS).to (by simp))) Exs.nil
    · intro τ C t ht; exact TrI.no
    · intro τ C t ht _
      exact Ev.call (Ev.glob rfl rfl) (Kpr.K rfl) (EvA.lone (Ev.name rfl) (.inr (.inl rfl))) (fs_joinPr (n := n + 10) (hp t ht))
    · intro t ht _; rfl
theorem body_7 {a : CS} (hl : H.length ≤ 1000) : ExW w hb (n + 12) (lawEnv w L) (lsC xs V i a) (σM V H) (bodyS w 7) (.next (lsC xs V i a) (σM V (H ++ [(i, a.part)]))) := by
  have e : σM V (H ++ [(i, a.part)]) = (σM V H).set 1 (.lst (H.map dIt ++ [.lst [dP i, .acc (a.part.map prN)]])) := by
    unfold σM
    rw [List.map_append]; rfl
  rw [e]
  have h1 : (σM V H)[1]? = some (.lst (H.map dIt)) := rfl
  exact ExW.expr (EvW.meth (Ev.name rfl) (EvA.toW (EvA.plain (EvS.cons (Ev.list (EvS.cons (Ev.name rfl) (EvS.cons (Ev.name rfl) EvS.nil))) EvS.nil))) (FsW.append h1 (by rw [List.length_map]; lia)) F.plainAttrs_list F.slot_list_append F.type_list_append (.inr (.inl ⟨rfl, _, .inr ⟨1, rfl, h1⟩⟩)))
end
end Mine
end

section
open PySem PySem.W PySem.Calls PyProof.Rows PySem.SeqAt PySem.MeetsSeq Builtin.ObjectAttr
set_option Elab.async false
set_option tactic.hygienic false
set_option linter.unusedVariables false
set_option maxRecDepth 100000
namespace Mine
structure MS where
  G : List Node
  c : Int
  H : List Item
noncomputable def endC (V : List Node) (W : Int) (m : MS) (i : Node) : CS := cutN (underOf V i) W (innerOf m.H i).length (startC V i m.G m.c (innerOf m.H i))
noncomputable def stepM (V : List Node) (W : Int) (m : MS) (i : Node) : MS := ⟨(endC V W m i).G, (endC V W m i).c, m.H ++ [(i, (endC V W m i).part)]⟩
noncomputable def foldersP (V : List Node) : List Node := V.reverse ++ [[]]
noncomputable def stM (V : List Node) (W : Int) (j : Nat) : MS := ((foldersP V).take j).foldl (stepM V W) ⟨[], 0, []⟩
noncomputable def endM (V : List Node) (W : Int) : MS := (foldersP V).foldl (stepM V W) ⟨[], 0, []⟩
-- what the walk asks of a turn
structure OkT (V : List Node) (W : Int) (m : MS) (i : Node) : Prop where
  ia : i ∈ allN
  oh : OkH m.H
  ci : ∀ t I', innerOf m.H i = t :: I' → I' ≠ [] → cpN t.1 (I'.map (·.1)) = i
  oc : ∀ j, j ≤ (innerOf m.H i).length → OkC (underOf V i) W (cutN (underOf V i) W j (startC V i m.G m.c (innerOf m.H i)))
  fit : ¬ wsum (endC V W m i).part > W
  cp : i ≠ [] → ∃ x P, (endC V W m i).part = x :: P ∧ cpN x P = i
theorem OkH.filter {H : List Item} (o : OkH H) (p : Item → Bool) : OkH (H.filter p) :=
  ⟨fun t ht => o.nd t (List.mem_filter.mp ht).1, fun t ht => o.ps t (List.mem_filter.mp ht).1, fun t ht => o.len t (List.mem_filter.mp ht).1, Nat.le_trans (List.length_filter_le _ _) o.small⟩
section
variable {w : World} {hb : Heap} {n : Nat} {A : Around} {env : Env} {ls ls' fls : List (Str × D)} {σ σ' σ'' τ : List Ob} {L : Addr}
variable {xs : List Int} {V : List Node} {i : Node} {G : List Node} {c : Int} {H : List Item}
theorem body_all (hV : ∀ x ∈ V, Nd x) (hVd : V.Nodup) (hs : V.length ≤ 6) {m : MS} (o : OkT V (widthP xs V) m i) :
    ExsW w hb (n + 12) (lawEnv w L) (("folder", dP i) :: lsM xs V m.G m.c) (σM V m.H) [bodyS w 0, bodyS w 1, bodyS w 2, bodyS w 3, bodyS w 4, bodyS w 5, bodyS w 6, bodyS w 7]
      (.next (lsC xs V i (endC V (widthP xs V) m i)) (σM V (stepM V (widthP xs V) m i).H)) := by
  have o0 := o.oc 0 (Nat.zero_le _)
  have oe := o.oc _ (Nat.le_refl _)
  refine ExsW.cons (Ex.toW (body_0 o.oh o.ia)) ?_
  refine ExsW.cons (Ex.toW (body_1 (o.oh.filter _) o.ia o.ci)) ?_
  refine ExsW.cons (Ex.toW (body_2 o.ia (fun x hx => (hV x hx).1) (by lia))) ?_
  refine ExsW.cons (body_3 hV hVd (by lia) o0.gd o0.gn o0.gs) ?_
  refine ExsW.cons (body_4 hV hVd hs o.oc) ?_
  refine ExsW.cons (body_5 oe.pn oe.ps o.fit) ?_
  refine ExsW.cons (Ex.toW (body_6 o.ia oe.pn oe.ps o.cp)) ?_
  exact ExsW.cons (body_7 (by have := o.oh.small; lia)) ExsW.nil
theorem take_fold {α β : Type} {l : List α} {f : β → α → β} {b : β} {j : Nat} {x : α} (h : l[j]? = some x) : (l.take (j + 1)).foldl f b = f ((l.take j).foldl f b) x := by
  rw [List.take_add_one, h, Option.toList_some, List.foldl_append]; rfl
theorem law_10 (hV : ∀ x ∈ V, Nd x) (hVd : V.Nodup) (hs : V.length ≤ 6) (o : ∀ (j : Nat) (i : Node), (foldersP V)[j]? = some i → OkT V (widthP xs V) (stM V (widthP xs V) j) i) :
    ExW w hb (n + 12) (lawEnv w L) (ls9 xs V) (σF V ++ [.lst []]) (lawS w 10) (.next (lsM xs V (endM V (widthP xs V)).G (endM V (widthP xs V)).c) (σM V (endM V (widthP xs V)).H)) := by
  have el : ((foldersP V).map dP).length = (foldersP V).length := List.length_map _
  have ee : endM V (widthP xs V) = stM V (widthP xs V) ((foldersP V).map dP).length := by unfold stM endM; rw [el, List.take_length]
  rw [ee]
  have hroot : ("/" : Str) = pathS [] := by decide +kernel
  have hl : (V.map dP).length ≤ 16777216 := by rw [List.length_map]; lia
  have hpk : pick (V.map dP) none none (some (-1)) = (V.map dP).reverse := pick_rev
  have hit : D.lst (pick (V.map dP) none none (some (-1)) ++ [.str "/"]) = .lst ((foldersP V).map dP) := by
    rw [hpk, hroot]; unfold foldersP; rw [List.map_append, List.map_reverse]; rfl
  refine ExW.forN (xs := (foldersP V).map dP) (fun j => lsM xs V (stM V (widthP xs V) j).G (stM V (widthP xs V) j).c) (fun j => σM V (stM V (widthP xs V) j).H)
    (SiP.lst ((Ev.bin (Ev.cut (Ev.name rfl) (.inl rfl) EvP.no EvP.no (EvP.yes (Ev.neg Ev.int)) (by decide) hl) (Ev.list (EvS.cons Ev.str EvS.nil)) (Bo.addL (.inl rfl) (.inl rfl) (by rw [hpk, List.length_reverse, List.length_map]; simp; lia))).to hit)) (.inr ⟨rfl, rfl⟩) rfl ?_ (fun j e he => ?_)
  · exact subC rfl (subC rfl (subC rfl (subC rfl (subC rfl (subC rfl (subC rfl subN))))))
  · rw [List.getElem?_map] at he
    cases hx : (foldersP V)[j]? with
    | none => (first | exact nS hx he | exact nS he hx | exact nD hx he | exact nD he hx | cases sE hx he | (rw [hx] at he; cases he))
    | some i =>
      (first | exact nS hx he | exact nS he hx | exact nD hx he | exact nD he hx | cases sE hx he | (rw [hx] at he; cases he))
      have hst : stM V (widthP xs V) (j + 1) = stepM V (widthP xs V) (stM V (widthP xs V) j) i := take_fold hx
      rw [hst]
      exact ⟨_, body_all hV hVd hs (o j i hx), subC rfl (subC rfl (subC rfl (subC rfl (subC rfl (subC rfl (subC rfl subN))))))⟩
end
end Mine
end

section
open PySem PySem.W PySem.Calls PyProof.Rows PySem.SeqAt PySem.MeetsSeq Builtin.ObjectAttr
set_option Elab.async false
set_option tactic.hygienic false
set_option linter.unusedVariables false
set_option maxRecDepth 100000
namespace Mine
section
variable {w : World} {hb : Heap} {n : Nat} {A : Around} {env : Env} {ls ls' fls : List (Str × D)} {σ σ' σ'' τ : List Ob} {L : Addr}
variable {xs : List Int} {V : List Node} {i : Node} {G : List Node} {c : Int} {H : List Item}
theorem EvF.compE {α : Type} {emb : α → D} {zs : List α} {elt iter : PySem.Expr} {x : Str} {px pos : Pos} {ifs : List PySem.Expr} {scope : Scope} (q : α → Bool) (f : α → D) (hinj : ∀ x ∈ zs, ∀ y ∈ zs, emb x = emb y → x = y)
    (hsi : Si w hb n env ls σ iter (zs.map emb)) (hf : Free env scope (closOf scope env) x ls fls)
    (ht : ∀ τ C e, e ∈ zs → TrI w hb n (compEnvC scope (closOf scope env) C env) ((x, emb e) :: fls) (σ ++ τ) ifs (q e))
    (he : ∀ τ C e, e ∈ zs → q e = true → Ev w hb n (compEnvC scope (closOf scope env) C env) ((x, emb e) :: fls) (σ ++ τ) elt (f e)) (hpl : ∀ e ∈ zs, q e = true → (f e).pl = true) (hsz : zs.length ≤ 16777216)
    (hfree : autoParam ((scope.names.all fun x => !(x.2 == NameKind.free) || (env.cells.lookup x.1).isSome) = true) Mine.auR) (hkind : autoParam (scope.kind = .function) Mine.auR) (hx : autoParam (scope.names.lookup x = some .local) Mine.auR) (hcell : autoParam (∀ y ∈ scope.names, y.2 ≠ .cell) Mine.auD) (hxi : autoParam (x ≠ "_initial_size") Mine.auD)
    (hnames : autoParam (∀ y ∈ scope.names, y.2 = .local → scope.names.lookup y.1 = some .local) Mine.auD) (hs : autoParam (∀ x, foldedSetIterable iter env x = pure x) Mine.auI) :
    EvF w hb n env ls σ (.ListComp elt [⟨.Name x px, iter, ifs, 0⟩] scope pos) ((zs.filter q).map f) := by
  rw [← fm_unE hinj q f zs fun _ h => h]
  refine EvF.comp (fun d => onE q false (unE emb zs d)) (fun d => onE f .none (unE emb zs d)) hsi hf ?_ ?_ ?_ (by rw [List.length_map]; exact hsz) hfree hkind hx hcell hxi hnames hs
  · intro τ C d hd
    obtain ⟨z, hz, rfl⟩ := List.mem_map.mp hd
    rw [unE_is hinj hz]
    exact ht τ C z hz
  · intro τ C d hd hp
    obtain ⟨z, hz, rfl⟩ := List.mem_map.mp hd
    rw [unE_is hinj hz] at hp ⊢
    exact he τ C z hz hp
  · intro d hd hp
    obtain ⟨z, hz, rfl⟩ := List.mem_map.mp hd
    rw [unE_is hinj hz] at hp ⊢
    exact hpl z hz hp
noncomputable def σT (V : List Node) (H : List Item) (G : List Node) : List Ob := [.lst (V.map dN), .lst (H.map dIt), .lst (((G ++ G).map pairS).map prD)]
noncomputable def σU (V : List Node) (H : List Item) (G : List Node) : List Ob := [.lst (V.map dN), .lst (H.map dIt), .lst ((G.map pairS).map prD), .lst [], .lst (((hangU V G).map pairS).map prD)]
noncomputable def lsT (xs : List Int) (V : List Node) (G : List Node) (c : Int) : List (Str × D) := ("twofold", .own 2) :: lsM xs V G c
noncomputable def lsU (xs : List Int) (V : List Node) (G : List Node) (c : Int) : List (Str × D) := ("told", .tup [.own 4, .own 2]) :: lsT xs V G c
theorem law_11 (hg : G.length ≤ 50) : ExW w hb (n + 12) (lawEnv w L) (lsM xs V G c) (σM V H) (lawS w 11) (.next (lsT xs V G c) (σT V H G)) := by
  have e : (G.map prN ++ G.map prN) = ((G ++ G).map pairS).map prD := by rw [map_prN, List.map_append]
  exact ExW.assign (EvF.ownAt (k := 2) ((EvF.add (Ev.name rfl) (Ev.name rfl) (.inl rfl) (.inl rfl) (by rw [List.length_map]; lia)).to e) rfl) (.inl rfl)
theorem law_12 (hV : ∀ x ∈ V, Nd x) (hVd : V.Nodup) (hs : V.length ≤ 6) (hG : G.Nodup) (hGV : ∀ x ∈ G, x ∈ V) (hg : G.length ≤ 50) :
    ExW w hb (n + 12) (lawEnv w L) (lsT xs V G c) (σT V H G) (lawS w 12) (.next (lsU xs V G c) (σU V H G)) := by
  have nG : ∀ x ∈ G ++ G, Nd x := fun x hx => hV x ((List.mem_append.mp hx).elim (hGV x) (hGV x))
  have e2 : uldP (V.map pairS) ((G ++ G).map pairS) = ((uldP V (G ++ G)).1.map pairS, (uldP V (G ++ G)).2.map pairS) := uldP_map (P := Nd) (fun x y hx hy => pair_inj hx hy) hV nG
  rw [uldP_twice hVd hG hGV] at e2
  have hfs := fs_uld (w := w) (hb := hb) (n := n + 11) (σ := σT V H G ++ [.lst ((V.map pairS).map prD)]) (mk := .lst) (xs := V.map pairS) (ys := (G ++ G).map pairS) (ke := 3) (ka := 2) (Pops.lst (by rw [List.length_map]; lia)) rfl rfl (by decide) (by rw [List.length_map]; lia) (by rw [List.length_map, List.length_append]; lia)
  rw [e2] at hfs
  have ex : ((V.filter fun _ => true).map prN) = (V.map pairS).map prD := by rw [filter_all, map_prN]
  refine ExW.assign (EvW.call (Ev.glob rfl rfl) (Kpr.K rfl) (EvAW.plain (EvSW.cons (EvF.ownAt (k := 3) ((EvF.compE (fls := []) (emb := dP) (zs := V) (fun _ => true) prN (fun x hx y hy h => dP_inj (hV x hx).1 (hV y hy).1 h) (Si.of (Ev.name rfl) (Src.list (.inl rfl))) Free.nil ?_ ?_ ?_ (by lia)).to ex) rfl) (EvSW.cons (Ev.toW (Ev.name rfl)) EvSW.nil))) hfs) (.inl rfl)
  · intro τ C t ht; exact TrI.no
  · intro τ C t ht _
    exact Ev.call (Ev.glob rfl rfl) (Kpr.K rfl) (EvA.plain (EvS.cons (Ev.name rfl) EvS.nil)) (fs_splitN (n := n + 10) (hV t ht))
  · intro t ht _; rfl
theorem law_13 (H0 : List Item) (hH : H = H0 ++ [([], hangU V G)]) (hl : H.length ≤ 50) (hV : ∀ x ∈ V, Nd x) (hs : V.length ≤ 50) :
    Ex w hb (n + 12) (lawEnv w L) (lsU xs V G c) (σU V H G) (lawS w 13) (.next (lsU xs V G c)) := by
  have h4 : (σU V H G)[4]? = some (.lst (((hangU V G).map pairS).map prD)) := rfl
  have h2 : (σU V H G)[2]? = some (.lst ((G.map pairS).map prD)) := rfl
  have h1 : (σU V H G)[1]? = some (.lst (H.map dIt)) := rfl
  have hn : ∀ x ∈ hangU V G, Nd x := fun x hx => hV x (List.mem_reverse.mp (List.mem_filter.mp hx).1)
  have hnl : (hangU V G).length ≤ 50 := Nat.le_trans (List.length_filter_le _ _) (by rw [List.length_reverse]; exact hs)
  have hlast : (H.map dIt)[(-1 + ((H.map dIt).length : Int)).toNat]? = some (dIt ([], hangU V G)) := by
    have : (-1 + ((H.map dIt).length : Int)).toNat = H0.length := by rw [List.length_map, hH, List.length_append, List.length_singleton]; lia
    rw [this, hH, List.map_append, List.getElem?_append_right (by simp)]; simp
  have ec : D.lst (((hangU V G).filter fun _ => true).map prN) = .lst (((hangU V G).map pairS).map prD) := by rw [filter_all, map_prN]
  have hGp : D.lst (G.map prN) = .lst ((G.map pairS).map prD) := by rw [map_prN]
  refine Ex.iff (b := false) (Tr.or2 ((Tr.cmp (Ev.itemT (e := .own 4) (Ev.name rfl) Ev.int) ((Ev.compE (fls := []) (emb := prN) (zs := hangU V G) (fun _ => true) prN (fun x hx y hy h => prN_inj (hn x hx) (hn y hy) h)
    (Si.of (Ev.item (e := .acc ((hangU V G).map prN)) (Ev.itemN (e := dIt ([], hangU V G)) (Ev.name rfl) (.inr ⟨1, rfl, h1⟩) (Ev.neg Ev.int) (by decide) (by rw [List.length_map, hH, List.length_append, List.length_singleton]; lia) (by decide) hlast) (.inl rfl) Ev.int) (Src.acc (.inl rfl))) Free.nil ?_ ?_ ?_ (by lia)).to ec) (Co.neLs EqT.pair (.inr ⟨4, rfl, h4⟩) (.inl rfl))).to (by simp))
    (Tr.or2 (Tr.cmp (Ev.itemT (e := .own 2) (Ev.name rfl) Ev.int) (Ev.name rfl) Co.isNotOwn) (Tr.orN ((Tr.cmp (Ev.itemT (e := .own 2) (Ev.name rfl) Ev.int) (Ev.name (d := .lst (G.map prN)) rfl) (Co.neLs EqT.pair (.inr ⟨2, rfl, h2⟩) (.inl hGp))).to (by simp))))) Exs.nil
  · intro τ C t ht; exact TrI.no
  · intro τ C t ht _; exact Ev.name rfl
  · intro t ht _; rfl
end
end Mine
end

section
open PySem PySem.W PySem.Calls PyProof.Rows PySem.SeqAt PySem.MeetsSeq Builtin.ObjectAttr
set_option Elab.async false
set_option tactic.hygienic false
set_option linter.unusedVariables false
set_option maxRecDepth 100000
namespace Mine
noncomputable def sharedN (V : List Node) : Node := if (V.map (parN V)).countP (fun y => decide (y = 0)) > 1 then [] else V.headD []
noncomputable def leastV (xs : List Int) (V : List Node) : List Int := leastP (V.map (parN V)) (V.map wtN) (widthP xs V) V.length (0 :: V.map fun _ => 0) 0
-- all that the walk asks
structure LawOk (xs : List Int) (V : List Node) : Prop where
  nd : ∀ x ∈ V, Nd x
  dup : V.Nodup
  six : V.length ≤ 6
  ne : V ≠ []
  par : ∀ x ∈ V, x.length ≠ 1 → x.dropLast ∈ V
  turn : ∀ (j : Nat) (i : Node), (foldersP V)[j]? = some i → OkT V (widthP xs V) (stM V (widthP xs V) j) i
  gd : (endM V (widthP xs V)).G.Nodup
  gv : ∀ x ∈ (endM V (widthP xs V)).G, x ∈ V
  last : ∃ H0, (endM V (widthP xs V)).H = H0 ++ [([], hangU V (endM V (widthP xs V)).G)]
  small : (endM V (widthP xs V)).H.length ≤ 50
  shared : ∀ x V', V = x :: V' → cpN x (V' ++ [x]) = sharedN V
  least : [(endM V (widthP xs V)).c, wsum (hangU V (endM V (widthP xs V)).G)] = leastV xs V
section
variable {w : World} {hb : Heap} {n : Nat} {A : Around} {env : Env} {ls ls' fls : List (Str × D)} {σ σ' σ'' τ : List Ob} {L : Addr}
variable {xs : List Int} {V : List Node} {i : Node} {G : List Node} {c : Int} {H : List Item}
noncomputable def lsV (xs : List Int) (V : List Node) (G : List Node) (c : Int) : List (Str × D) := ("shared", dP (sharedN V)) :: lsU xs V G c
theorem law_14 (h0 : V ≠ []) (hs : V.length ≤ 6) : Ex w hb (n + 12) (lawEnv w L) (lsU xs V G c) (σU V H G) (lawS w 14) (.next (lsV xs V G c)) := by
  have hroot : ("/" : Str) = pathS [] := by decide +kernel
  obtain ⟨x, V', hx⟩ : ∃ x V', V = x :: V' := by
    cases V with
    | nil => exact absurd rfl h0
    | cons x V' => exact ⟨x, V', rfl⟩
  have h1 : (V.map dP)[(0 : Int).toNat]? = some (dP (V.headD [])) := by rw [hx]; rfl
  have hc := Fs.count (w := w) (hb := hb) (n := n + 12) (σ := σU V H G) EqT.int (d := dIs (V.map (parN V))) (x := 0) (ys := V.map (parN V)) (.inl rfl)
  have ht : ∀ p1 p2 p3 p4 p5 k k' (hline : (p2.endLine == p4.line) = true), Tr w hb (n + 12) (lawEnv w L) (lsU xs V G c) (σU V H G) (.Compare (.Call (.Attribute (.Name "parents" p1) "count" p2) [.Constant (.int 0) k p3] [] p4) [.Gt] [.Constant (.int 1) k' p5] p5) (decide ((((V.map (parN V)).countP (fun y => decide (y = 0)) : Nat) : Int) > 1)) := fun p1 p2 p3 p4 p5 k k' hline =>
    Tr.cmp (Ev.meth (Ev.name rfl) (EvA.plain (EvS.cons Ev.int EvS.nil)) hc F.plainAttrs_list F.slot_list_count F.type_list_count (.inr (.inl ⟨rfl, _, .inl rfl⟩)) rfl rfl hline) Ev.int Co.gtI
  by_cases hgt : (V.map (parN V)).countP (fun y => decide (y = 0)) > 1
  · have e : dP (sharedN V) = .str "/" := by rw [hroot]; unfold sharedN; rw [if_pos hgt]; rfl
    unfold lsV
    rw [e]
    exact Ex.assign (Ev.ife (c := true) ((Tr.cmp (Ev.meth (Ev.name rfl) (EvA.plain (EvS.cons Ev.int EvS.nil)) hc F.plainAttrs_list F.slot_list_count F.type_list_count (.inr (.inl ⟨rfl, _, .inl rfl⟩))) Ev.int Co.gtI).to (decide_eq_true (by lia))) Ev.str) (.inl rfl)
  · have e : dP (sharedN V) = dP (V.headD []) := by unfold sharedN; rw [if_neg hgt]
    unfold lsV
    rw [e]
    exact Ex.assign (Ev.ife (c := false) ((Tr.cmp (Ev.meth (Ev.name rfl) (EvA.plain (EvS.cons Ev.int EvS.nil)) hc F.plainAttrs_list F.slot_list_count F.type_list_count (.inr (.inl ⟨rfl, _, .inl rfl⟩))) Ev.int Co.gtI).to (decide_eq_false (by lia))) (Ev.item (Ev.name rfl) (.inl rfl) Ev.int (by decide) (by decide) h1)) (.inl rfl)
theorem law_15 (hV : ∀ x ∈ V, Nd x) (h0 : V ≠ []) (hs : V.length ≤ 6) (hsh : ∀ x V', V = x :: V' → cpN x (V' ++ [x]) = sharedN V) : Ex w hb (n + 12) (lawEnv w L) (lsV xs V G c) (σU V H G) (lawS w 15) (.next (lsV xs V G c)) := by
  obtain ⟨x, V', hx⟩ : ∃ x V', V = x :: V' := by
    cases V with
    | nil => exact absurd rfl h0
    | cons x V' => exact ⟨x, V', rfl⟩
  have hcp := hsh x V' hx
  have hm : ∀ y ∈ x :: (V' ++ [x]), y ∈ allN := fun y hy => by
    have : y ∈ V := by
      rw [hx]
      simp only [List.mem_cons, List.mem_append, List.not_mem_nil, or_false] at hy ⊢
      rcases hy with h | h | h
      · exact .inl h
      · exact .inr h
      · exact .inl h
    exact (hV y this).1
  have hcm := fs_commonN (w := w) (hb := hb) (n := n + 9) (σ := σU V H G) (x := x) (xs := V' ++ [x]) hm (by rw [hx] at hs; simp at hs ⊢; lia)
  rw [hcp] at hcm
  have hpk : pick (V.map dP) none (some 1) none = (V.map dP).take 1 := pick_take 1
  have hl : (V.map dP).length ≤ 16777216 := by rw [List.length_map]; lia
  have hl2 : (V.map dP).length + (pick (V.map dP) none (some 1) none).length ≤ 16777216 := by rw [hpk, List.length_take, List.length_map]; lia
  have ed : D.lst (V.map dP ++ pick (V.map dP) none (some 1) none) = dS ((x :: (V' ++ [x])).map pathS) := by
    rw [hpk, hx]; unfold dS; rw [List.map_map]
    show D.lst (dP x :: (V'.map dP ++ [dP x])) = .lst (dP x :: (V' ++ [x]).map _)
    rw [List.map_append]; rfl
  exact Ex.iff (b := false) ((Tr.cmp (Ev.call (Ev.glob rfl rfl) (Kpr.K rfl) (EvA.plain (EvS.cons ((Ev.bin (Ev.name rfl) (Ev.cut (Ev.name rfl) (.inl rfl) EvP.no (EvP.yes Ev.int) EvP.no (by decide) hl) (Bo.addL (.inl rfl) (.inl rfl) hl2)).to ed) EvS.nil)) hcm) (Ev.name rfl) Co.neS).to (by simp)) Exs.nil
theorem law_16 (hV : ∀ x ∈ V, Nd x) (hs : V.length ≤ 6) (H0 : List Item) (hH : H = H0 ++ [([], hangU V G)]) (hl : H.length ≤ 50) :
    Ex w hb (n + 12) (lawEnv w L) (lsV xs V G c) (σU V H G) (lawS w 16) (.ret (.bool (decide ([c, wsum (hangU V G)] = leastV xs V)))) := by
  have h1 : (σU V H G)[1]? = some (.lst (H.map dIt)) := rfl
  have hn : ∀ x ∈ hangU V G, Nd x := fun x hx => hV x (List.mem_reverse.mp (List.mem_filter.mp hx).1)
  have hnl : (hangU V G).length ≤ 50 := Nat.le_trans (List.length_filter_le _ _) (by rw [List.length_reverse]; lia)
  have hlast : (H.map dIt)[(-1 + ((H.map dIt).length : Int)).toNat]? = some (dIt ([], hangU V G)) := by
    have : (-1 + ((H.map dIt).length : Int)).toNat = H0.length := by rw [List.length_map, hH, List.length_append, List.length_singleton]; lia
    rw [this, hH, List.map_append, List.getElem?_append_right (by simp)]; simp
  have hfl := fs_least (w := w) (hb := hb) (par := V.map (parN V)) (wt := V.map wtN) (width := widthP xs V) V.length (0 :: V.map fun _ => 0) 0 (n + 11 - V.length) (σU V H G) (by simp) (by simp) (by simp) (by lia)
  rw [show n + 11 - V.length + V.length + 1 = n + 12 by lia] at hfl
  have hz : D.lst ([D.int 0] ++ ((V.filter fun _ => true).map fun _ => D.int 0)) = dIs (0 :: V.map fun _ => 0) := by
    rw [filter_all]; unfold dIs; rw [List.map_cons, List.map_map]; rfl
  have hzl : [D.int 0].length + ((V.filter fun _ => true).map fun _ => D.int 0).length ≤ 16777216 := by rw [filter_all, List.length_map]; simp; lia
  refine Ex.ret (Ev.cmp (Ev.list (EvS.cons (Ev.name rfl) (EvS.cons (Ev.call (Ev.blt rfl rfl Boot.len) Kpr.blt (EvA.plain (EvS.cons (Ev.item (e := .acc ((hangU V G).map prN)) (Ev.itemN (e := dIt ([], hangU V G)) (Ev.name rfl) (.inr ⟨1, rfl, h1⟩) (Ev.neg Ev.int) (by decide) (by rw [List.length_map, hH, List.length_append, List.length_singleton]; lia) (by decide) hlast) (.inl rfl) Ev.int) EvS.nil)) (fs_lenN (n := n + 9) (.inl rfl) hn hnl)) EvS.nil)))
    (Ev.call (Ev.glob rfl rfl) (Kpr.K rfl) (EvA.plain (EvS.cons (Ev.name rfl) (EvS.cons (Ev.name rfl) (EvS.cons (Ev.name rfl) (EvS.cons ((Ev.bin (Ev.list (EvS.cons Ev.int EvS.nil)) (Ev.compE (fls := []) (emb := dP) (zs := V) (fun _ => true) (fun _ => .int 0) (fun x hx y hy h => dP_inj (hV x hx).1 (hV y hy).1 h) (Si.of (Ev.name rfl) (Src.list (.inl rfl))) Free.nil ?_ ?_ ?_ (by lia)) (Bo.addL (.inl rfl) (.inl rfl) hzl)).to hz) (EvS.cons Ev.int EvS.nil)))))) hfl)
    (Co.eqLs EqT.int (xs := [c, wsum (hangU V G)]) (ys := leastV xs V) (.inl rfl) (.inl rfl)))
  · intro τ C t ht; exact TrI.no
  · intro τ C t ht _; exact Ev.int
  · intro t ht _; rfl
end
end Mine
end

section
open PySem PySem.W PySem.Calls PyProof.Rows PySem.SeqAt PySem.MeetsSeq Builtin.ObjectAttr
set_option Elab.async false
set_option tactic.hygienic false
set_option linter.unusedVariables false
set_option maxRecDepth 100000
namespace Mine
noncomputable def frontsX (xs : List Int) : List Node := frontsP (rowsP xs)
theorem namesP_ok (k : Int) : namesP k ∈ allN := by
  rw [allN_mem]
  refine ⟨?_, fun x hx => ?_⟩
  · unfold namesP
    rw [List.length_map]
    exact List.length_filter_le _ _
  · unfold namesP at hx
    obtain ⟨f, hf, rfl⟩ := List.mem_map.mp hx
    have h2 := (List.mem_filter.mp hf).2
    unfold tabN nm3
    rcases figs_mem (List.mem_filter.mp hf).1 with rfl | rfl | rfl | rfl <;> simp
theorem rowsP_ok {xs : List Int} : ∀ r ∈ rowsP xs, r ∈ allN := fun r hr => by
  unfold rowsP at hr
  rcases List.mem_append.mp hr with h | h
  · obtain ⟨k, _, rfl⟩ := List.mem_map.mp h
    exact namesP_ok _
  · replace h := mem2f h
    rcases h with rfl | rfl <;> decide +kernel
theorem nodup_len {α : Type} [DecidableEq α] : ∀ {l m : List α}, l.Nodup → (∀ x ∈ l, x ∈ m) → l.length ≤ m.length
  | [], m, _, _ => Nat.zero_le _
  | x :: l, m, hl, hs => by
    rw [List.nodup_cons] at hl
    have hx := hs x List.mem_cons_self
    have := nodup_len (m := m.erase x) hl.2 fun y hy => (List.mem_erase_of_ne (a := y) (b := x) (fun q => hl.1 (by rw [← q]; exact hy))).mpr (hs y (List.mem_cons_of_mem _ hy))
    rw [List.length_erase_of_mem hx] at this
    have : 0 < m.length := List.length_pos_of_mem hx
    simp only [List.length_cons]
    lia
theorem law_cells (w : World) : ((cellsFrom 0 (lawFd w).scope.names []).map (·.1)).Nodup := by
  have e : (cellsFrom 0 (lawFd w).scope.names []).map (·.1) = (["folder", "fronts", "script"] : List Str) := rfl
  rw [e]; decide
section
variable {w : World} {hb : Heap} {n : Nat}
theorem bind_1 {fd : FuncData} {x : Str} (h : ∀ a, bindArgs fd ⟨[a], []⟩ = pure [(x, a)]) : ∀ vals : List Value, vals.length = [x].length → bindArgs fd ⟨vals, []⟩ = pure ([x].zip vals) := len1 fun a => h a
theorem fs_law {xs : List Int} (hl : xs.length ≤ 63) (o : LawOk xs (frontsX xs)) : ∃ σ', FsW w hb (n + 13) (.ref 238) [dSc xs] [] (.bool true) σ' := by
  generalize hm : endM (frontsX xs) (widthP xs (frontsX xs)) = m
  obtain ⟨H0, hH⟩ := o.last
  have hle := o.least
  have hgs : m.G.length ≤ 50 := by
    have h1 := o.gd; have h2 := o.gv; have h3 := o.six
    rw [hm] at h1 h2
    have := nodup_len h1 h2
    lia
  refine ⟨σU (frontsX xs) m.H m.G, FsW.of_def (fd := lawFd w) (body := lawB w) (o' := .ret (.bool true) (σU (frontsX xs) m.H m.G)) ["script"] (by obtain ⟨oc, od, osl, h⟩ := (lawX w).2; exact rfl) rfl (fun L => ?_) (.inl rfl) (bind_1 fun a => rfl) (hcells := law_cells w)⟩
  rw [lawB_is]
  refine ExsW.cons (Ex.toW (law_0 hl)) ?_
  refine ExsW.cons law_1 ?_
  refine ExsW.cons (law_2 fun r hr => Nat.le_trans (allN_mem.mp (rowsP_ok r hr)).1 (by decide)) ?_
  refine ExsW.cons (Ex.toW (law_3 o.nd o.six)) ?_
  refine ExsW.cons (Ex.toW (law_4 o.nd o.six o.par)) ?_
  refine ExsW.cons (Ex.toW (law_5 o.ne)) ?_
  refine ExsW.cons (Ex.toW (law_6 o.nd o.six)) ?_
  refine ExsW.cons (Ex.toW law_7) ?_
  refine ExsW.cons (Ex.toW law_8) ?_
  refine ExsW.cons law_9 ?_
  refine ExsW.cons (law_10 o.nd o.dup o.six o.turn) ?_
  have gd := o.gd; have gv := o.gv; have hsm := o.small
  rw [hm] at hH hle gd gv hsm
  show ExsW _ _ _ _ (lsM xs (frontsX xs) (endM (frontsX xs) (widthP xs (frontsX xs))).G (endM (frontsX xs) (widthP xs (frontsX xs))).c) (σM (frontsX xs) (endM (frontsX xs) (widthP xs (frontsX xs))).H) _ _
  rw [hm]
  refine ExsW.cons (law_11 hgs) ?_
  refine ExsW.cons (law_12 o.nd o.dup o.six gd gv hgs) ?_
  refine ExsW.cons (Ex.toW (law_13 H0 hH hsm o.nd (Nat.le_trans o.six (by decide)))) ?_
  refine ExsW.cons (Ex.toW (law_14 o.ne o.six)) ?_
  refine ExsW.cons (Ex.toW (law_15 o.nd o.ne o.six o.shared)) ?_
  have z := law_16 (w := w) (hb := hb) (n := n) (L := L) (xs := xs) (V := frontsX xs) (G := m.G) (c := m.c) (H := m.H) o.nd o.six H0 hH hsm
  rw [decide_eq_true hle] at z
  exact ExsW.ret (Ex.toWr z)
end
end Mine
end

section
open PySem PySem.W PySem.Calls PyProof.Rows
set_option Elab.async false
set_option tactic.hygienic false
set_option linter.unusedVariables false
namespace Mine
/-! taking off a largest one -/
theorem insert_one : ∀ {S L : List Int}, S.Sublist L → S.length < L.length → ∃ (S' : List Int) (x : Int), S'.Sublist L ∧ S'.length = S.length + 1 ∧ x ∈ L ∧ S'.sum = S.sum + x
  | _, _, .slnil, h => absurd h (Nat.lt_irrefl _)
  | _, _, .cons (l₁ := S) a s, _ => ⟨a :: S, a, .cons_cons a s, rfl, List.mem_cons_self, by rw [List.sum_cons]; lia⟩
  | _, _, .cons_cons (l₁ := S) a s, h => by
    obtain ⟨S', x, h1, h2, h3, h4⟩ := insert_one s (by simpa using h)
    exact ⟨a :: S', x, .cons_cons a h1, by simp [h2], List.mem_cons_of_mem _ h3, by rw [List.sum_cons, List.sum_cons]; lia⟩
set_option tactic.hygienic true in
theorem remove_max {L1 L2 : List Int} {M : Int} (hM : ∀ x ∈ L1 ++ L2, x ≤ M) {R : List Int} (h : R.Sublist (L1 ++ M :: L2)) (hl : R.length ≤ (L1 ++ L2).length) :
    ∃ R' : List Int, R'.Sublist (L1 ++ L2) ∧ R'.length = R.length ∧ R'.sum ≤ R.sum := by
  obtain ⟨R1, R2, rfl, h1, h2⟩ := List.sublist_append_iff.mp h
  cases h2 with
  | cons _ h2 => exact ⟨R1 ++ R2, List.Sublist.append h1 h2, rfl, Int.le_refl _⟩
  | cons_cons _ h3 =>
    rename_i R3
    have hs : (R1 ++ R3).Sublist (L1 ++ L2) := List.Sublist.append h1 h3
    have hlen : (R1 ++ R3).length < (L1 ++ L2).length := by
      simp only [List.length_append, List.length_cons] at hl ⊢; lia
    obtain ⟨S', x, q1, q2, q3, q4⟩ := insert_one hs hlen
    have := hM x q3
    refine ⟨S', q1, by rw [q2]; simp only [List.length_append, List.length_cons]; lia, ?_⟩
    rw [q4]; simp only [List.sum_append, List.sum_cons]; lia
-- kept is the most that fits, and of all with so many the least
noncomputable def Best (b W : Int) (L kept : List Int) : Prop := ∀ R : List Int, R.Sublist L → b + R.sum ≤ W → R.length ≤ kept.length ∧ (R.length = kept.length → kept.sum ≤ R.sum)
theorem Best.here {b W : Int} {L : List Int} : Best b W L L := fun R h _ => ⟨h.length_le, fun e => by rw [h.eq_of_length e]; exact Int.le_refl _⟩
theorem Best.step {b W M : Int} {L1 L2 kept : List Int} (hM : ∀ x ∈ L1 ++ L2, x ≤ M) (hgt : b + (L1 ++ M :: L2).sum > W) (h : Best b W (L1 ++ L2) kept) : Best b W (L1 ++ M :: L2) kept := fun R hR hf => by
  have hl : R.length ≤ (L1 ++ L2).length := by
    have h1 := hR.length_le
    have h2 : R.length ≠ (L1 ++ M :: L2).length := fun q => by
      rw [hR.eq_of_length q] at hf; lia
    simp only [List.length_append, List.length_cons] at h1 h2 ⊢; lia
  obtain ⟨R', q1, q2, q3⟩ := remove_max hM hR hl
  obtain ⟨g1, g2⟩ := h R' q1 (by lia)
  exact ⟨by lia, fun e => by have := g2 (by lia); lia⟩
theorem Best.rev {b W : Int} {L kept : List Int} (h : Best b W L kept) : Best b W L.reverse kept := fun R hR hf => by
  have := h R.reverse (by have := hR.reverse; rwa [List.reverse_reverse] at this) (by rw [List.sum_reverse]; exact hf)
  rw [List.length_reverse, List.sum_reverse] at this
  exact this
end Mine
end

section
open PySem PySem.W PySem.Calls PyProof.Rows
set_option Elab.async false
set_option tactic.hygienic false
set_option linter.unusedVariables false
namespace Mine
/-! the greedy cutting is a least one -/
noncomputable def sumTo (f : Nat → Int) : Nat → Int
  | 0 => f 0
  | k + 1 => sumTo f k + f (k + 1)
theorem sumTo_congr {f g : Nat → Int} : ∀ {k : Nat}, (∀ j, j ≤ k → f j = g j) → sumTo f k = sumTo g k
  | 0, h => h 0 (Nat.le_refl _)
  | k + 1, h => by unfold sumTo; rw [sumTo_congr fun j hj => h j (by lia), h (k + 1) (Nat.le_refl _)]
theorem sumTo_upd {f g : Nat → Int} {p : Nat} {d : Int} : ∀ {k : Nat}, p ≤ k → (∀ j, j ≤ k → j ≠ p → g j = f j) → g p = f p + d → sumTo g k = sumTo f k + d
  | 0, hp, h, e => by
    have : p = 0 := by lia
    subst this; exact e
  | k + 1, hp, h, e => by
    unfold sumTo
    by_cases hk : p = k + 1
    · subst hk
      rw [sumTo_congr (f := g) (g := f) fun j hj => h j (by lia) (by lia), e]; lia
    · rw [sumTo_upd (by lia) (fun j hj hne => h j (by lia) hne) e, h (k + 1) (Nat.le_refl _) (Ne.symm hk)]; lia
section
variable (pl wl : List Int) (W : Int) (m : Nat)
-- the nodes from k on that hang at j
noncomputable def chd (j k : Nat) : List Nat := (List.range' k (m - k)).filter fun t => decide (pl.getD t 0 = (j : Int))
theorem chd_step {j k : Nat} (hk : k < m) : chd pl m j k = if pl.getD k 0 = (j : Int) then k :: chd pl m j (k + 1) else chd pl m j (k + 1) := by
  unfold chd
  rw [show m - k = (m - (k + 1)) + 1 by lia, List.range'_succ, List.filter_cons]
  simp
theorem chd_end {j : Nat} : chd pl m j m = [] := by unfold chd; rw [Nat.sub_self]; rfl
theorem chd_lt {j k t : Nat} (h : t ∈ chd pl m j k) : t < m ∧ k ≤ t := by
  unfold chd at h
  have := List.mem_range'_1.mp (List.mem_filter.mp h).1
  lia
noncomputable def w0 : Nat → Int
  | 0 => 0
  | k + 1 => wl.getD k 0
noncomputable def keptZ (z : Nat → Int) (K : Nat → Bool) (j k : Nat) : List Int := ((chd pl m j k).filter fun t => !K t).map fun t => z (t + 1)
noncomputable def gcK (K : Nat → Bool) (j k : Nat) : Int := ((chd pl m j k).filter K).length
noncomputable def tailS (f : Nat → Int) (k : Nat) : Int := ((List.range' (k + 1) (m - k)).map f).sum
theorem tailS_end {f : Nat → Int} : tailS m f m = 0 := by unfold tailS; rw [Nat.sub_self]; rfl
theorem tailS_step {f : Nat → Int} {k : Nat} (hk : k < m) : tailS m f k = f (k + 1) + tailS m f (k + 1) := by
  unfold tailS
  rw [show m - k = (m - (k + 1)) + 1 by lia, List.range'_succ, List.map_cons, List.sum_cons]
structure Greedy (z : Nat → Int) (K : Nat → Bool) : Prop where
  sz : ∀ j, j ≤ m → z j = w0 wl j + (keptZ pl m z K j j).sum
  fit : ∀ j, j ≤ m → z j ≤ W
  nn : ∀ j, j ≤ m → 0 ≤ z j
  wn : ∀ k, k < m → 0 ≤ wl.getD k 0
  best : ∀ j, j ≤ m → Best (w0 wl j) W ((chd pl m j j).map fun t => z (t + 1)) (keptZ pl m z K j j)
  par : ∀ t, t < m → 0 ≤ pl.getD t 0 ∧ pl.getD t 0 ≤ t
variable {pl wl W m} {z : Nat → Int} {K : Nat → Bool}
theorem len_split {α : Type} (K : α → Bool) : ∀ l : List α, l.length = (l.filter fun t => !K t).length + (l.filter K).length
  | [] => rfl
  | x :: l => by
    have := len_split K l
    cases h : K x <;> simp [List.filter_cons, h] <;> lia
theorem kept_len (j k : Nat) : ((keptZ pl m z K j k).length : Int) = (chd pl m j k).length - gcK pl m K j k := by
  unfold keptZ gcK
  rw [List.length_map]
  have := len_split K (chd pl m j k)
  lia
theorem sum_nn : ∀ {l : List Int}, (∀ x ∈ l, 0 ≤ x) → 0 ≤ l.sum
  | [], _ => Int.le_refl _
  | x :: l, h => by
    have h1 := h x List.mem_cons_self
    have h2 := sum_nn (l := l) fun y hy => h y (List.mem_cons_of_mem _ hy)
    rw [List.sum_cons]; lia
-- no outcome is below the greedy's
theorem lower (g : Greedy pl wl W m z K) : ∀ (k : Nat), k ≤ m → ∀ (h : Nat → Int) (cuts : Int) (o : Int × Int) (R : Nat → List Int), Outc pl wl W k h cuts o →
    (∀ j, j ≤ k → (R j).Sublist ((chd pl m j k).map fun t => z (t + 1)) ∧ (R j).sum ≤ h j) →
    tailS m (fun j => gcK pl m K j j) k + sumTo (fun j => ((chd pl m j k).length : Int) - (R j).length) k ≤ cuts →
    ¬ lexLt o (tailS m (fun j => gcK pl m K j j) 0 + gcK pl m K 0 0, z 0)
  | 0, _, h, cuts, o, R, ⟨ho, he⟩, hR, hc => by
    subst he
    obtain ⟨r1, r2⟩ := hR 0 (Nat.le_refl _)
    have hz : w0 wl 0 = 0 := rfl
    obtain ⟨b1, b2⟩ := g.best 0 (Nat.zero_le _) (R 0) r1 (by rw [hz]; lia)
    have hk := kept_len (pl := pl) (m := m) (z := z) (K := K) 0 0
    have hs := g.sz 0 (Nat.zero_le _)
    rw [hz] at hs
    have hc' : tailS m (fun j => gcK pl m K j j) 0 + (((chd pl m 0 0).length : Int) - (R 0).length) ≤ cuts := hc
    unfold lexLt
    simp only
    intro q
    rcases q with q | ⟨q1, q2⟩
    · lia
    · have := b2 (by lia); lia
  | k + 1, hk, h, cuts, o, R, ⟨ho, hx⟩, hR, hc => by
    have hkm : k < m := by lia
    obtain ⟨r1, r2⟩ := hR (k + 1) (Nat.le_refl _)
    have hz : w0 wl (k + 1) = wl.getD k 0 := rfl
    obtain ⟨b1, b2⟩ := g.best (k + 1) hk (R (k + 1)) r1 (by rw [hz]; lia)
    have hkl := kept_len (pl := pl) (m := m) (z := z) (K := K) (k + 1) (k + 1)
    have hs := g.sz (k + 1) hk
    rw [hz] at hs
    obtain ⟨p1, p2⟩ := g.par k hkm
    have hts := tailS_step m (f := fun j => gcK pl m K j j) hkm
    have hc' : tailS m (fun j => gcK pl m K j j) (k + 1) + (sumTo (fun j => ((chd pl m j (k + 1)).length : Int) - (R j).length) k + (((chd pl m (k + 1) (k + 1)).length : Int) - (R (k + 1)).length)) ≤ cuts := hc
    have hpN : ((pl.getD k 0).toNat : Int) = pl.getD k 0 := Int.toNat_of_nonneg p1
    have hother : ∀ j, j ≠ (pl.getD k 0).toNat → chd pl m j k = chd pl m j (k + 1) := fun j hj => by
      rw [chd_step pl m hkm, if_neg]; intro q; apply hj; lia
    have hself : chd pl m (pl.getD k 0).toNat k = k :: chd pl m (pl.getD k 0).toNat (k + 1) := by rw [chd_step pl m hkm, if_pos hpN.symm]
    have hsubA : ∀ j, j ≤ k → (R j).Sublist ((chd pl m j k).map fun t => z (t + 1)) := fun j hj => by
      obtain ⟨s1, _⟩ := hR j (by lia)
      by_cases e : j = (pl.getD k 0).toNat
      · rw [e] at s1 ⊢
        rw [hself, List.map_cons]; exact .cons _ s1
      · rw [hother j e]; exact s1
    have hsumA : sumTo (fun j => ((chd pl m j k).length : Int) - (R j).length) k = sumTo (fun j => ((chd pl m j (k + 1)).length : Int) - (R j).length) k + 1 :=
      sumTo_upd (p := (pl.getD k 0).toNat) (by lia) (fun j _ hne => by rw [hother j hne]) (by rw [hself, List.length_cons]; lia)
    have hRn : 0 ≤ (R (k + 1)).sum := sum_nn fun x hx => by
      obtain ⟨t, ht, rfl⟩ := List.mem_map.mp (r1.subset hx)
      exact g.nn _ (by have := (chd_lt pl m ht).1; lia)
    have hwn := g.wn k hkm
    rcases hx with hx | hx
    · exact lower g k (by lia) h (cuts + 1) o R hx (fun j hj => ⟨hsubA j hj, (hR j (by lia)).2⟩) (by rw [hsumA]; lia)
    · by_cases heq : (R (k + 1)).length = (keptZ pl m z K (k + 1) (k + 1)).length
      · have hz2 := b2 heq
        refine lower g k (by lia) _ cuts o (fun j => if j = (pl.getD k 0).toNat then z (k + 1) :: R j else R j) hx (fun j hj => ?_) ?_
        · obtain ⟨s1, s2⟩ := hR j (by lia)
          by_cases e : j = (pl.getD k 0).toNat
          · simp only [e, if_true]
            rw [e] at s1 s2
            rw [hself, List.map_cons]
            refine ⟨.cons_cons _ s1, ?_⟩
            rw [if_pos hpN, List.sum_cons]; lia
          · simp only [e, if_false]
            rw [hother j e, if_neg (by lia)]
            exact ⟨s1, s2⟩
        · have : sumTo (fun j => ((chd pl m j k).length : Int) - (((fun j => if j = (pl.getD k 0).toNat then z (k + 1) :: R j else R j) j : List Int)).length) k = sumTo (fun j => ((chd pl m j (k + 1)).length : Int) - (R j).length) k := by
            refine sumTo_congr fun j hj => ?_
            by_cases e : j = (pl.getD k 0).toNat
            · simp only [e, if_true]; rw [hself, List.length_cons, List.length_cons]; lia
            · simp only [e, if_false]; rw [hother j e]
          simp only at this ⊢
          rw [this]; lia
      · refine lower g k (by lia) _ cuts o R hx (fun j hj => ⟨hsubA j hj, ?_⟩) (by rw [hsumA]; lia)
        have := (hR j (by lia)).2
        split <;> lia
end
end Mine
end

section
open PySem PySem.W PySem.Calls PyProof.Rows
set_option Elab.async false
set_option tactic.hygienic false
set_option linter.unusedVariables false
namespace Mine
noncomputable def cntK (K : Nat → Bool) : Nat → Int
  | 0 => 0
  | k + 1 => cntK K k + (if K k then 1 else 0)
section
variable {pl wl : List Int} {W : Int} {m : Nat} {z : Nat → Int} {K : Nat → Bool}
theorem keptZ_step {j k : Nat} (hk : k < m) : (keptZ pl m z K j k).sum = (keptZ pl m z K j (k + 1)).sum + (if pl.getD k 0 = (j : Int) ∧ K k = false then z (k + 1) else 0) := by
  unfold keptZ
  rw [chd_step pl m hk]
  generalize pl.getD k 0 = q
  by_cases h : q = (j : Int)
  · rw [if_pos h]
    cases hK : K k with
    | true => simp [hK]
    | false => simp [h, hK]; lia
  · rw [if_neg h, if_neg fun x => h x.1]; lia
theorem gcK_step {j k : Nat} (hk : k < m) : gcK pl m K j k = gcK pl m K j (k + 1) + (if pl.getD k 0 = (j : Int) ∧ K k = true then 1 else 0) := by
  unfold gcK
  rw [chd_step pl m hk]
  generalize pl.getD k 0 = q
  by_cases h : q = (j : Int)
  · rw [if_pos h]
    cases hK : K k with
    | true => simp [h, hK]
    | false => simp [hK]
  · rw [if_neg h, if_neg fun x => h x.1]; lia
-- the greedy's own cutting is one
theorem reach (g : Greedy pl wl W m z K) : ∀ (k : Nat), k ≤ m → ∀ (h : Nat → Int) (cuts : Int), (∀ j, j ≤ k → h j = (keptZ pl m z K j k).sum) → Outc pl wl W k h cuts (cuts + cntK K k, z 0)
  | 0, _, h, cuts, hh => by
    have h0 := hh 0 (Nat.le_refl _)
    have hs := g.sz 0 (Nat.zero_le _)
    have hz : w0 wl 0 = 0 := rfl
    have hf := g.fit 0 (Nat.zero_le _)
    refine ⟨by lia, ?_⟩
    show (cuts + 0, z 0) = (cuts, h 0)
    rw [Int.add_zero, h0, hs, hz, Int.zero_add]
  | k + 1, hk, h, cuts, hh => by
    have hkm : k < m := by lia
    have h1 := hh (k + 1) (Nat.le_refl _)
    have hs := g.sz (k + 1) hk
    have hz : w0 wl (k + 1) = wl.getD k 0 := rfl
    have hf := g.fit (k + 1) hk
    rw [hz] at hs
    refine ⟨by lia, ?_⟩
    cases hK : K k with
    | true =>
      left
      have e : cuts + cntK K (k + 1) = cuts + 1 + cntK K k := by show cuts + (cntK K k + if K k = true then 1 else 0) = _; rw [hK, if_pos rfl]; lia
      rw [e]
      refine reach g k (by lia) h (cuts + 1) fun j hj => ?_
      rw [hh j (by lia), keptZ_step hkm, if_neg (by rw [hK]; simp)]; lia
    | false =>
      right
      have e : cuts + cntK K (k + 1) = cuts + cntK K k := by show cuts + (cntK K k + if K k = true then 1 else 0) = _; rw [hK, if_neg (by simp)]; lia
      rw [e]
      refine reach g k (by lia) _ cuts fun j hj => ?_
      rw [hh j (by lia), keptZ_step (j := j) hkm]
      by_cases hj2 : (j : Int) = pl.getD k 0
      · rw [if_pos hj2, if_pos ⟨hj2.symm, hK⟩]; lia
      · rw [if_neg hj2, if_neg fun q => hj2 q.1.symm]; lia
theorem count_all (hpar : ∀ t, t < m → 0 ≤ pl.getD t 0 ∧ pl.getD t 0 ≤ t) : ∀ d k, k + d = m → tailS m (fun j => gcK pl m K j j) k + sumTo (fun j => gcK pl m K j k) k = cntK K m - cntK K k
  | 0, k, e => by
    have : k = m := by lia
    subst this
    rw [tailS_end]
    have : ∀ k', sumTo (fun j => gcK pl k K j k) k' = 0 := fun k' => by
      have e0 : (fun j => gcK pl k K j k) = fun _ => (0 : Int) := funext fun j => by unfold gcK; rw [chd_end]; rfl
      rw [e0]
      induction k' with
      | zero => rfl
      | succ n ih => show sumTo (fun _ => (0 : Int)) n + 0 = 0; rw [ih]; rfl
    rw [this]; lia
  | d + 1, k, e => by
    have hkm : k < m := by lia
    have ih := count_all hpar d (k + 1) (by lia)
    obtain ⟨p1, p2⟩ := hpar k hkm
    have hts := tailS_step m (f := fun j => gcK pl m K j j) hkm
    have hsu : sumTo (fun j => gcK pl m K j (k + 1)) (k + 1) = sumTo (fun j => gcK pl m K j (k + 1)) k + gcK pl m K (k + 1) (k + 1) := rfl
    have hup : sumTo (fun j => gcK pl m K j k) k = sumTo (fun j => gcK pl m K j (k + 1)) k + (if K k then 1 else 0) := by
      refine sumTo_upd (p := (pl.getD k 0).toNat) (by lia) (fun j _ hne => ?_) ?_
      · rw [gcK_step hkm, if_neg]; · lia
        intro q; apply hne; have := q.1; lia
      · have hpN : ((pl.getD k 0).toNat : Int) = pl.getD k 0 := Int.toNat_of_nonneg p1
        rw [gcK_step (j := (pl.getD k 0).toNat) hkm]
        congr 1
        cases hK : K k with
        | true => rw [if_pos ⟨hpN.symm, rfl⟩, if_pos rfl]
        | false => rw [if_neg (by simp), if_neg (by simp)]
    have hcn : cntK K (k + 1) = cntK K k + (if K k then 1 else 0) := rfl
    rw [hsu] at ih
    lia
-- so _law_least tells what the greedy reached
theorem greedy_least (g : Greedy pl wl W m z K) (hm : m < 99) {hangs : List Int} (hh : ∀ j, hangs.getD j 0 = 0) : leastP pl wl W m hangs 0 = [tailS m (fun j => gcK pl m K j j) 0 + gcK pl m K 0 0, z 0] := by
  have hc := count_all (K := K) g.par m 0 (by lia)
  have hc' : tailS m (fun j => gcK pl m K j j) 0 + gcK pl m K 0 0 = cntK K m - cntK K 0 := hc
  have h0 : cntK K 0 = 0 := rfl
  have hr := reach g m (Nat.le_refl _) (fun j => hangs.getD j 0) 0 fun j _ => by
    rw [hh]; unfold keptZ; rw [chd_end]; rfl
  rcases least_out pl wl W m hangs 0 (by lia) with ⟨o, o1, o2, o3⟩ | ⟨_, o2⟩
  · have hl := lower g m (Nat.le_refl _) (fun j => hangs.getD j 0) 0 o (fun _ => []) o1 (fun j _ => ⟨List.nil_sublist _, by rw [hh]; exact Int.le_refl _⟩) (by
      rw [tailS_end]
      have : ∀ k', sumTo (fun j => ((chd pl m j m).length : Int) - (([] : List Int).length : Nat)) k' = 0 := fun k' => by
        have e0 : (fun j => ((chd pl m j m).length : Int) - (([] : List Int).length : Nat)) = fun _ => (0 : Int) := funext fun j => by rw [chd_end]; rfl
        rw [e0]
        induction k' with
        | zero => rfl
        | succ n ih => show sumTo (fun _ => (0 : Int)) n + 0 = 0; rw [ih]; rfl
      have := this m
      lia)
    have hg := o3 _ hr
    rw [o2]
    unfold lexLt at hl hg
    simp only at hl hg
    have e1 : o.1 = tailS m (fun j => gcK pl m K j j) 0 + gcK pl m K 0 0 := by lia
    have e2 : o.2 = z 0 := by lia
    rw [e1, e2]
  · exact absurd hr (o2 _)
end
end Mine
end

section
open PySem PySem.W PySem.Calls PyProof.Rows
set_option Elab.async false
set_option tactic.hygienic false
set_option linter.unusedVariables false
set_option maxRecDepth 100000
namespace Mine
/-! the fronts: each after what it hangs at -/
inductive Grown : List Node → Prop
  | nil : Grown []
  | snoc {V : List Node} {x : Node} : Grown V → Nd x → x ∉ V → (x.length = 1 ∨ x.dropLast ∈ V) → Grown (V ++ [x])
theorem Grown.inv {V : List Node} {x : Node} (g : Grown (V ++ [x])) : Grown V ∧ Nd x ∧ x ∉ V ∧ (x.length = 1 ∨ x.dropLast ∈ V) := by
  generalize hl : V ++ [x] = l at g
  cases g with
  | nil => simp at hl
  | snoc a b c d =>
    obtain ⟨rfl, h2⟩ := List.append_inj' hl rfl
    cases h2
    exact ⟨a, b, c, d⟩
theorem Grown.nd {V : List Node} (g : Grown V) : ∀ x ∈ V, Nd x := by
  induction g with
  | nil => intro x hx; cases hx
  | snoc a b c d ih =>
    intro y hy
    rcases List.mem_append.mp hy with h | h
    · exact ih y h
    · rw [List.mem_singleton.mp h]; exact b
theorem Grown.nodup {V : List Node} (g : Grown V) : V.Nodup := by
  induction g with
  | nil => exact List.nodup_nil
  | snoc a b c d ih => exact List.nodup_append.mpr ⟨ih, by simp, fun y hy z hz e => by rw [List.mem_singleton.mp hz] at e; exact c (e ▸ hy)⟩
theorem Grown.pre {A B : List Node} (g : Grown (A ++ B)) : Grown A := by
  have : ∀ n, ∀ B' : List Node, B'.length = n → Grown (A ++ B') → Grown A := fun n => by
    induction n with
    | zero => intro B' h g; rw [List.length_eq_zero_iff.mp h, List.append_nil] at g; exact g
    | succ n ih =>
      intro B' h g
      rcases List.eq_nil_or_concat B' with rfl | ⟨B2, x, e⟩
      · simp at h
      · rw [List.concat_eq_append] at e
        rw [e] at g h
        rw [← List.append_assoc] at g
        exact ih B2 (by simpa using h) g.inv.1
  exact this _ B rfl g
theorem pre_dropLast {x y : Node} (h : x <+: y) (hne : x ≠ y) : x <+: y.dropLast := by
  obtain ⟨t, rfl⟩ := h
  have ht : t ≠ [] := fun q => hne (by rw [q, List.append_nil])
  rw [List.dropLast_append_of_ne_nil ht]
  exact List.prefix_append _ _
theorem Grown.anc {V : List Node} (g : Grown V) : ∀ {x y : Node}, y ∈ V → x <+: y → x ≠ [] → x ∈ V := by
  induction g with
  | nil => intro x y hy; cases hy
  | @snoc V0 x0 a b c d ih =>
    intro x y hy hp hne
    rcases List.mem_append.mp hy with h | h
    · exact List.mem_append_left _ (ih h hp hne)
    · rw [List.mem_singleton.mp h] at hp
      by_cases e : x = x0
      · rw [e]; exact List.mem_append_right _ (List.mem_singleton.mpr rfl)
      · have hp2 := pre_dropLast hp e
        rcases d with d | d
        · have := hp2.length_le
          rw [List.length_dropLast, d] at this
          exact absurd (List.length_eq_zero_iff.mp (by lia)) hne
        · exact List.mem_append_left _ (ih d hp2 hne)
theorem Grown.par {V : List Node} (g : Grown V) {x : Node} (hx : x ∈ V) (h1 : x.length ≠ 1) : x.dropLast ∈ V := by
  refine g.anc hx (List.dropLast_prefix x) fun q => ?_
  have h2 := (g.nd x hx).2
  have : x.dropLast.length = 0 := by rw [q]; rfl
  rw [List.length_dropLast] at this
  have h3 : x.length ≠ 0 := fun e => h2 (List.length_eq_zero_iff.mp e)
  lia
set_option tactic.hygienic true in
theorem addF_grown {F : List Node} {x : Node} (g : Grown F) (hx : Nd x) (h : x.length = 1 ∨ x.dropLast ∈ F ∨ 6 ≤ F.length) : Grown (addF F x) ∧ (x ∈ addF F x ∨ 6 ≤ (addF F x).length) ∧ F.length ≤ (addF F x).length := by
  unfold addF
  split
  · rename_i h'
    refine ⟨.snoc g hx h'.1 ?_, .inl (by simp), by simp⟩
    rcases h with h | h | h
    · exact .inl h
    · exact .inr h
    · lia
  · rename_i h'
    refine ⟨g, ?_, Nat.le_refl _⟩
    by_cases hm : x ∈ F
    · exact .inl hm
    · exact .inr (by
        have : ¬ F.length < 6 := fun q => h' ⟨hm, q⟩
        lia)
theorem addFold_grown {F : List Node} {r : Node} (g : Grown F) (hr : r ∈ allN) : ∀ n, n ≤ r.length → Grown ((List.range n).foldl (fun F i => addF F (r.take (i + 1))) F) ∧
    (n = 0 ∨ r.take n ∈ (List.range n).foldl (fun F i => addF F (r.take (i + 1))) F ∨ 6 ≤ ((List.range n).foldl (fun F i => addF F (r.take (i + 1))) F).length) ∧ F.length ≤ ((List.range n).foldl (fun F i => addF F (r.take (i + 1))) F).length
  | 0, _ => ⟨g, .inl rfl, Nat.le_refl _⟩
  | n + 1, hn => by
    obtain ⟨h1, h2, h3⟩ := addFold_grown g hr n (by lia)
    rw [List.range_succ, List.foldl_append]
    show Grown (addF _ _) ∧ _
    have hlen : (r.take (n + 1)).length = n + 1 := by rw [List.length_take]; lia
    have hN : Nd (r.take (n + 1)) := ⟨allN_pre (List.take_prefix _ _) hr, fun q => by rw [q] at hlen; simp at hlen⟩
    have hd : (r.take (n + 1)).dropLast = r.take n := by rw [List.dropLast_eq_take, hlen, List.take_take]; congr 1; lia
    obtain ⟨q1, q2, q3⟩ := addF_grown h1 hN (by
      rcases h2 with h2 | h2 | h2
      · exact .inl (by rw [hlen, h2])
      · exact .inr (.inl (by rw [hd]; exact h2))
      · exact .inr (.inr h2))
    exact ⟨q1, .inr q2, Nat.le_trans h3 q3⟩
theorem rowF_grown {F : List Node} {r : Node} (g : Grown F) (hr : r ∈ allN) : Grown (rowF F r) ∧ F.length ≤ (rowF F r).length ∧ (r ≠ [] → rowF F r ≠ []) := by
  obtain ⟨h1, h2, h3⟩ := addFold_grown g hr r.length (Nat.le_refl _)
  refine ⟨h1, h3, fun hne q => ?_⟩
  have q' : (List.range r.length).foldl (fun F i => addF F (r.take (i + 1))) F = [] := q
  rw [q'] at h2
  rcases h2 with h2 | h2 | h2
  · exact hne (List.length_eq_zero_iff.mp h2)
  · cases h2
  · simp at h2
theorem rows_grown : ∀ (rows : List Node) (F : List Node), Grown F → (∀ r ∈ rows, r ∈ allN) → Grown (rows.foldl rowF F) ∧ F.length ≤ (rows.foldl rowF F).length ∧ ((∃ r ∈ rows, r ≠ []) → rows.foldl rowF F ≠ [])
  | [], F, g, _ => ⟨g, Nat.le_refl _, fun ⟨r, hr, _⟩ => by cases hr⟩
  | r :: rows, F, g, h => by
    obtain ⟨h1, h2, h3⟩ := rowF_grown g (h r List.mem_cons_self)
    obtain ⟨q1, q2, q3⟩ := rows_grown rows (rowF F r) h1 fun s hs => h s (List.mem_cons_of_mem _ hs)
    refine ⟨q1, Nat.le_trans h2 q2, fun ⟨s, hs, hne⟩ => ?_⟩
    rcases List.mem_cons.mp hs with rfl | hs
    · intro q
      have e : (List.foldl rowF (rowF F s) rows) = [] := q
      rw [e] at q2
      exact h3 hne (List.length_eq_zero_iff.mp (by simpa using q2))
    · exact q3 ⟨s, hs, hne⟩
theorem fronts_grown (xs : List Int) : Grown (frontsX xs) ∧ frontsX xs ≠ [] ∧ (frontsX xs).length ≤ 6 := by
  obtain ⟨h1, _, h3⟩ := rows_grown (rowsP xs) [] .nil rowsP_ok
  refine ⟨h1, h3 ⟨["a", "a"], ?_, by simp⟩, rowFold_len _ _ (by simp)⟩
  unfold rowsP
  exact List.mem_append_right _ List.mem_cons_self
end Mine
end

section
open PySem PySem.W PySem.Calls PyProof.Rows
set_option Elab.async false
set_option tactic.hygienic false
set_option linter.unusedVariables false
set_option maxRecDepth 100000
namespace Mine
/-! what hangs at a folder -/
theorem cp2_iff {i p : Node} : cp2 i p = i ↔ i <+: p := ⟨fun h => h ▸ cp2_r i p, fun h => (List.IsPrefix.eq_of_length (cp2_max (List.prefix_refl i) h) (Nat.le_antisymm (cp2_max (List.prefix_refl i) h).length_le (cp2_l i p).length_le)).symm⟩
noncomputable def hangN (V : List Node) (i : Node) (G : List Node) : List Node := hangU (underOf V i) G
theorem hangN_is (V : List Node) (i : Node) (G : List Node) : hangN V i G = (V.filter fun p => decide (i <+: p) && decide (p ∉ G)).reverse := by
  unfold hangN hangU underOf
  rw [List.filter_reverse, List.filter_filter]
  congr 1
  refine List.filter_congr fun p _ => ?_
  rw [Bool.eq_iff_iff]; simp [cp2_iff, and_comm]
theorem mem_hangN {V : List Node} {i : Node} {G : List Node} {p : Node} : p ∈ hangN V i G ↔ p ∈ V ∧ i <+: p ∧ p ∉ G := by
  rw [hangN_is, List.mem_reverse, List.mem_filter]; simp
theorem hangN_congr {V : List Node} {i : Node} {G G' : List Node} (h : ∀ p ∈ V, i <+: p → (p ∈ G ↔ p ∈ G')) : hangN V i G = hangN V i G' := by
  rw [hangN_is, hangN_is]
  congr 1
  refine List.filter_congr fun p hp => ?_
  by_cases hi : i <+: p
  · have := h p hp hi
    rw [Bool.eq_iff_iff]; simp [hi, this]
  · simp [hi]
theorem hangN_nodup {V : List Node} {i : Node} {G : List Node} (h : V.Nodup) : (hangN V i G).Nodup := by
  rw [hangN_is]; exact (List.reverse_perm _).nodup_iff.mpr (h.filter _)
theorem hangN_len {V : List Node} {i : Node} {G : List Node} : (hangN V i G).length ≤ V.length := by
  rw [hangN_is, List.length_reverse]; exact List.length_filter_le _ _
/-! sums -/
theorem wsum_nil : wsum [] = 0 := rfl
theorem wsum_cons (x : Node) (l : List Node) : wsum (x :: l) = wtN x + wsum l := by unfold wsum; rw [List.map_cons, List.sum_cons]
theorem wsum_rev (l : List Node) : wsum l.reverse = wsum l := by unfold wsum; rw [List.map_reverse, List.sum_reverse]
theorem wsum_split (p : Node → Bool) : ∀ l : List Node, wsum l = wsum (l.filter p) + wsum (l.filter fun x => !p x)
  | [] => rfl
  | x :: l => by
    have ih := wsum_split p l
    cases h : p x with
    | true => rw [List.filter_cons_of_pos h, List.filter_cons_of_neg (by simp [h]), wsum_cons, wsum_cons]; lia
    | false => rw [List.filter_cons_of_neg (by simp [h]), List.filter_cons_of_pos (by simp [h]), wsum_cons, wsum_cons]; lia
noncomputable def hsum (V : List Node) (q : Node → Bool) : Int := wsum (V.filter q)
theorem wsum_hang (V : List Node) (i : Node) (G : List Node) : wsum (hangN V i G) = hsum V fun p => decide (i <+: p) && decide (p ∉ G) := by rw [hangN_is, wsum_rev]; rfl
theorem hsum_congr {V : List Node} {q q' : Node → Bool} (h : ∀ p ∈ V, q p = q' p) : hsum V q = hsum V q' := by unfold hsum; rw [List.filter_congr h]
theorem hsum_split (V : List Node) (q r : Node → Bool) : hsum V q = hsum V (fun p => q p && r p) + hsum V (fun p => q p && !r p) := by
  unfold hsum
  rw [wsum_split r (V.filter q), List.filter_filter, List.filter_filter]
  congr 2 <;> (refine List.filter_congr fun p _ => ?_) <;> rw [Bool.and_comm]
theorem hsum_one {V : List Node} (hd : V.Nodup) {i : Node} : hsum V (fun p => decide (p = i)) = if i ∈ V then wtN i else 0 := by
  induction V with
  | nil => rfl
  | cons x V ih =>
    rw [List.nodup_cons] at hd
    have ih := ih hd.2
    unfold hsum at ih ⊢
    by_cases h : x = i
    · subst h
      rw [List.filter_cons_of_pos (by simp), wsum_cons, ih, if_neg hd.1, if_pos List.mem_cons_self]; lia
    · rw [List.filter_cons_of_neg (by simpa using h), ih]
      have : (i ∈ x :: V) ↔ i ∈ V := by simp [Ne.symm h]
      by_cases hm : i ∈ V
      · rw [if_pos hm, if_pos (this.mpr hm)]
      · rw [if_neg hm, if_neg fun q => hm (this.mp q)]
-- right below i
noncomputable def Kid (i x : Node) : Prop := x ≠ [] ∧ x.dropLast = i
theorem Kid.pre {i x : Node} (h : Kid i x) : i <+: x := h.2 ▸ List.dropLast_prefix x
theorem Kid.len {i x : Node} (h : Kid i x) : x.length = i.length + 1 := by
  have h1 : x.length ≠ 0 := fun q => h.1 (List.length_eq_zero_iff.mp q)
  have : i.length = x.length - 1 := by rw [← h.2, List.length_dropLast]
  lia
theorem Kid.apart {i x y p : Node} (hx : Kid i x) (hy : Kid i y) (h1 : x <+: p) (h2 : y <+: p) : x = y := by
  have hl : x.length = y.length := by rw [hx.len, hy.len]
  obtain ⟨s, rfl⟩ := h1
  obtain ⟨t, ht⟩ := h2
  exact (List.append_inj ht hl.symm).1.symm
-- what hangs at i: what hangs at those right below it, and the rest
theorem hang_kids {V : List Node} {i : Node} {G : List Node} : ∀ {l : List Node}, l.Nodup → (∀ x ∈ l, Kid i x) →
    wsum (hangN V i G) = (l.map fun x => wsum (hangN V x G)).sum + hsum V fun p => decide (i <+: p) && decide (p ∉ G) && l.all fun x => !decide (x <+: p)
  | [], _, _ => by rw [wsum_hang, List.map_nil, List.sum_nil, Int.zero_add]; exact hsum_congr fun p _ => by simp
  | x :: l, hd, hk => by
    rw [List.nodup_cons] at hd
    have ih := hang_kids (V := V) (G := G) hd.2 fun y hy => hk y (List.mem_cons_of_mem _ hy)
    have kx := hk x List.mem_cons_self
    rw [ih, hsum_split V _ fun p => decide (x <+: p), List.map_cons, List.sum_cons, wsum_hang V x G]
    have e1 : hsum V (fun p => (decide (i <+: p) && decide (p ∉ G) && l.all fun x => !decide (x <+: p)) && decide (x <+: p)) = hsum V fun p => decide (x <+: p) && decide (p ∉ G) := by
      refine hsum_congr fun p _ => ?_
      by_cases hx : x <+: p
      · have h1 : i <+: p := kx.pre.trans hx
        have h2 : (l.all fun y => !decide (y <+: p)) = true := List.all_eq_true.mpr fun y hy => by
          simp only [Bool.not_eq_true', decide_eq_false_iff_not]
          intro q
          exact hd.1 ((hk y (List.mem_cons_of_mem _ hy)).apart kx q hx ▸ hy)
        rw [h2]; simp [hx, h1]
      · simp [hx]
    have e2 : hsum V (fun p => (decide (i <+: p) && decide (p ∉ G) && l.all fun x => !decide (x <+: p)) && !decide (x <+: p)) = hsum V fun p => decide (i <+: p) && decide (p ∉ G) && (x :: l).all fun x => !decide (x <+: p) := by
      refine hsum_congr fun p _ => ?_
      rw [List.all_cons]
      generalize (l.all fun x => !decide (x <+: p)) = b
      generalize decide (x <+: p) = c
      generalize (decide (i <+: p) && decide (p ∉ G)) = d
      cases b <;> cases c <;> cases d <;> rfl
    rw [e1, e2]; lia
noncomputable def w0N (V : List Node) (i : Node) : Int := if i ∈ V then wtN i else 0
-- all of those right below it: the rest is i itself
theorem hang_all {V : List Node} (g : Grown V) {i : Node} {G : List Node} {l : List Node} (hl : l.Nodup) (hk : ∀ x ∈ l, Kid i x) (hall : ∀ x ∈ V, Kid i x → x ∈ l) (hi : i ∉ G) :
    wsum (hangN V i G) = w0N V i + (l.map fun x => wsum (hangN V x G)).sum := by
  rw [hang_kids hl hk]
  have e : hsum V (fun p => decide (i <+: p) && decide (p ∉ G) && l.all fun x => !decide (x <+: p)) = hsum V fun p => decide (p = i) := by
    refine hsum_congr fun p hp => ?_
    by_cases h : p = i
    · subst h
      have h2 : (l.all fun y => !decide (y <+: p)) = true := List.all_eq_true.mpr fun y hy => by
        simp only [Bool.not_eq_true', decide_eq_false_iff_not]
        intro q
        have := q.length_le; have := (hk y hy).len; lia
      rw [h2]; simp [hi]
    · by_cases hip : i <+: p
      · -- the one right below i on the way to p
        have hlen : i.length + 1 ≤ p.length := by
          have h1 := hip.length_le
          have h2 : i.length ≠ p.length := fun q => h (hip.eq_of_length q).symm
          lia
        have hkid : Kid i (p.take (i.length + 1)) := by
          have h1 : (p.take (i.length + 1)).length = i.length + 1 := by rw [List.length_take]; lia
          refine ⟨fun q => by rw [q] at h1; simp at h1, ?_⟩
          rw [List.dropLast_eq_take, h1, List.take_take, show min (i.length + 1 - 1) (i.length + 1) = i.length by lia]
          exact (List.prefix_iff_eq_take.mp hip).symm
        have hm := hall _ (g.anc hp (List.take_prefix _ _) hkid.1) hkid
        have h2 : (l.all fun y => !decide (y <+: p)) = false := List.all_eq_false.mpr ⟨_, hm, by simp [List.take_prefix]⟩
        rw [h2]; simp [h]
      · simp [hip, h]
  rw [e, hsum_one g.nodup]
  unfold w0N
  lia
end Mine
end

section
open PySem PySem.W PySem.Calls PyProof.Rows
set_option Elab.async false
set_option tactic.hygienic false
set_option linter.unusedVariables false
set_option maxRecDepth 100000
namespace Mine
noncomputable def szI (t : Item) : Int := wsum t.2
theorem maxI_ge {l : List Int} {x : Int} (h : x ∈ l) : x ≤ maxI l := by
  cases l with
  | nil => cases h
  | cons y l =>
    have := max_ge STO.int l y x h
    unfold iLt at this
    have := of_decide_eq_false this
    show x ≤ maxBy iLt y l
    unfold iLt
    lia
theorem cut_sum {V : List Node} {i x : Node} {G : List Node} (hx : i <+: x) : wsum (hangN V i G) = wsum (hangN V x G) + wsum (hangN V i (G ++ hangN V x G)) := by
  rw [wsum_hang V i G, hsum_split V _ fun p => decide (x <+: p), wsum_hang V x G, wsum_hang V i]
  congr 1
  · refine hsum_congr fun p _ => ?_
    by_cases h : x <+: p
    · have := hx.trans h; simp [h, this]
    · simp [h]
  · refine hsum_congr fun p hp => ?_
    have : (p ∉ G ++ hangN V x G) ↔ p ∉ G ∧ ¬ (x <+: p) := by
      rw [List.mem_append, mem_hangN]
      constructor
      · intro q; exact ⟨fun h => q (.inl h), fun h => q (.inr ⟨hp, h, fun h' => q (.inl h')⟩)⟩
      · rintro ⟨q1, q2⟩ (h | h)
        · exact q1 h
        · exact q2 h.2.1
    rw [Bool.eq_iff_iff]; simp only [Bool.and_eq_true, decide_eq_true_iff, Bool.not_eq_true', decide_eq_false_iff_not]
    rw [this]
    constructor
    · rintro ⟨⟨a, b⟩, c⟩; exact ⟨a, b, c⟩
    · rintro ⟨a, b, c⟩; exact ⟨⟨a, b⟩, c⟩
-- while the greedy cuts below i
structure CI (V : List Node) (W : Int) (i : Node) (G0 : List Node) (I0 : List Item) (c0 : Int) (a : CS) : Prop where
  sub : a.I.Sublist I0
  nd : a.G.Nodup
  gv : ∀ p ∈ a.G, p ∈ V
  part : a.part = hangN V i a.G
  ps : ∀ t ∈ a.I, t.2 = hangN V t.1 a.G
  low : ∀ p ∈ a.G, p ∈ G0 ∨ (i <+: p ∧ p ≠ i)
  up : ∀ p ∈ G0, p ∈ a.G
  sum : wsum a.part = w0N V i + (a.I.map szI).sum
  cnt : a.c + a.I.length = c0 + I0.length
  best : ∀ kept, Best (w0N V i) W (a.I.map szI) kept → Best (w0N V i) W (I0.map szI) kept
section
variable {V : List Node} {W : Int} {i : Node} {G0 : List Node} {I0 : List Item} {c0 : Int} {a : CS}
theorem CI.ne (h : CI V W i G0 I0 c0 a) (hw : w0N V i ≤ W) (hgt : wsum a.part > W) : a.I ≠ [] := fun q => by
  have := h.sum
  rw [q, List.map_nil, List.sum_nil] at this
  lia
theorem CI.step (h : CI V W i G0 I0 c0 a) (hd : V.Nodup) (hw : w0N V i ≤ W) (hk : ∀ t ∈ I0, Kid i t.1) (hf : (I0.map (·.1)).Nodup) :
    CI V W i G0 I0 c0 (cutStep (underOf V i) W a) ∧ (wsum a.part > W → (cutStep (underOf V i) W a).I.length + 1 = a.I.length) := by
  unfold cutStep
  by_cases hgt : wsum a.part > W
  · rw [if_pos hgt]
    have hne := h.ne hw hgt
    have hl : (a.I.map fun t => wsum t.2) ≠ [] := fun q => hne (List.map_eq_nil_iff.mp q)
    obtain ⟨k1, k2, k3⟩ := maxAt_lt hl
    generalize hk' : maxAt (a.I.map fun t => wsum t.2) = k at k1 k2 k3
    have kI : k < a.I.length := by rw [List.length_map] at k1; exact k1
    have hit : a.I.getD k ([], []) = a.I[k] := by rw [List.getD_eq_getElem?_getD, List.getElem?_eq_getElem kI]; rfl
    have hI : a.I = a.I.take k ++ a.I[k] :: a.I.drop (k + 1) := by rw [← List.drop_eq_getElem_cons kI, List.take_append_drop]
    have hmx : wsum a.I[k].2 = maxI (a.I.map fun t => wsum t.2) := by
      rw [List.getElem?_map, List.getElem?_eq_getElem kI] at k2
      exact Option.some.inj k2
    simp only [hk', hit]
    generalize a.I[k] = it at hI hmx
    generalize a.I.take k = I1 at hI ⊢
    generalize a.I.drop (k + 1) = I2 at hI ⊢
    have hitm : it ∈ a.I := by rw [hI]; simp
    have hps := h.ps it hitm
    have kit := hk it (h.sub.subset hitm)
    have hfI : (a.I.map (·.1)).Nodup := (h.sub.map _).nodup hf
    have hnew : ∀ t ∈ I1 ++ I2, t ∈ a.I ∧ t.1 ≠ it.1 := fun t ht => by
      rw [hI, List.map_append, List.map_cons] at hfI
      have h2 := (List.perm_middle (a := it.1) (l₁ := I1.map (·.1)) (l₂ := I2.map (·.1))).nodup_iff.mp hfI
      rw [List.nodup_cons, ← List.map_append] at h2
      refine ⟨by rw [hI]; rcases List.mem_append.mp ht with q | q <;> simp [q], fun q => h2.1 (q ▸ List.mem_map_of_mem ht)⟩
    have hsums : (a.I.map szI).sum = ((I1 ++ I2).map szI).sum + wsum it.2 := by
      rw [hI]; simp only [List.map_append, List.map_cons, List.sum_append, List.sum_cons]
      show _ + (wsum it.2 + _) = _; lia
    have hcs := cut_sum (V := V) (G := a.G) kit.pre
    refine ⟨⟨?_, ?_, ?_, rfl, ?_, ?_, ?_, ?_, ?_, ?_⟩, fun _ => ?_⟩
    · refine List.Sublist.trans ?_ h.sub
      rw [hI]
      exact List.Sublist.append_left (List.sublist_cons_self _ _) _
    · show (a.G ++ it.2).Nodup
      rw [hps]
      refine List.nodup_append.mpr ⟨h.nd, hangN_nodup hd, fun p hp q hq e => ?_⟩
      subst e
      exact (mem_hangN.mp hq).2.2 hp
    · intro p hp
      rcases List.mem_append.mp hp with q | q
      · exact h.gv p q
      · rw [hps] at q; exact (mem_hangN.mp q).1
    · intro t ht
      obtain ⟨t1, t2⟩ := hnew t ht
      rw [h.ps t t1]
      refine hangN_congr fun p hp htp => ?_
      show p ∈ a.G ↔ p ∈ a.G ++ it.2
      rw [List.mem_append]
      refine ⟨.inl, fun q => q.elim id fun q => ?_⟩
      rw [hps] at q
      exact absurd ((hk t (h.sub.subset t1)).apart kit htp (mem_hangN.mp q).2.1) t2
    · intro p hp
      rcases List.mem_append.mp hp with q | q
      · exact h.low p q
      · rw [hps] at q
        have h1 := (mem_hangN.mp q).2.1
        refine .inr ⟨kit.pre.trans h1, fun e => ?_⟩
        have := h1.length_le
        have := kit.len
        rw [e] at *; lia
    · intro p hp; exact List.mem_append_left _ (h.up p hp)
    · have e1 := h.sum
      rw [h.part, hcs, ← hps] at e1
      show wsum (hangN V i (a.G ++ it.2)) = _
      show _ = w0N V i + ((I1 ++ I2).map szI).sum
      lia
    · have := h.cnt
      rw [hI] at this
      simp only [List.length_append, List.length_cons] at this ⊢
      lia
    · intro kept hb
      refine h.best kept ?_
      rw [hI, List.map_append, List.map_cons]
      have hb' : Best (w0N V i) W ((I1 ++ I2).map szI) kept := hb
      rw [List.map_append] at hb'
      refine Best.step (M := szI it) (fun y hy => ?_) ?_ hb'
      · rw [← List.map_append] at hy
        obtain ⟨t, ht, rfl⟩ := List.mem_map.mp hy
        show wsum t.2 ≤ wsum it.2
        rw [hmx]
        exact maxI_ge (List.mem_map.mpr ⟨t, (hnew t ht).1, rfl⟩)
      · have e1 := h.sum
        have : I1.map szI ++ szI it :: I2.map szI = a.I.map szI := by rw [hI, List.map_append, List.map_cons]
        rw [this]; lia
    · show (I1 ++ I2).length + 1 = a.I.length
      rw [hI]; simp only [List.length_append, List.length_cons]; lia
  · rw [if_neg hgt]
    exact ⟨h, fun q => absurd q hgt⟩
theorem CI.all (h : CI V W i G0 I0 c0 a) (h0 : a.I.length = I0.length) (hd : V.Nodup) (hw : w0N V i ≤ W) (hk : ∀ t ∈ I0, Kid i t.1) (hf : (I0.map (·.1)).Nodup) :
    ∀ n, CI V W i G0 I0 c0 (cutN (underOf V i) W n a) ∧ ((cutN (underOf V i) W n a).I.length + n = I0.length ∨ ¬ wsum (cutN (underOf V i) W n a).part > W)
  | 0 => ⟨h, .inl h0⟩
  | n + 1 => by
    obtain ⟨h1, h2⟩ := CI.all h h0 hd hw hk hf n
    obtain ⟨q1, q2⟩ := h1.step hd hw hk hf
    refine ⟨q1, ?_⟩
    show (cutStep (underOf V i) W (cutN (underOf V i) W n a)).I.length + (n + 1) = _ ∨ _
    by_cases hgt : wsum (cutN (underOf V i) W n a).part > W
    · left
      have := q2 hgt
      rcases h2 with h2 | h2
      · lia
      · exact absurd hgt h2
    · right
      show ¬ wsum (cutStep (underOf V i) W (cutN (underOf V i) W n a)).part > W
      unfold cutStep
      rw [if_neg hgt]
      exact hgt
theorem CI.fits (h : CI V W i G0 I0 c0 a) (h0 : a.I.length = I0.length) (hd : V.Nodup) (hw : w0N V i ≤ W) (hk : ∀ t ∈ I0, Kid i t.1) (hf : (I0.map (·.1)).Nodup) :
    ¬ wsum (cutN (underOf V i) W I0.length a).part > W := fun hgt => by
  obtain ⟨h1, h2⟩ := CI.all h h0 hd hw hk hf I0.length
  rcases h2 with h2 | h2
  · exact h1.ne hw hgt (List.length_eq_zero_iff.mp (by lia))
  · exact h2 hgt
end
end Mine
end

section
open PySem PySem.W PySem.Calls PyProof.Rows
set_option Elab.async false
set_option tactic.hygienic false
set_option linter.unusedVariables false
set_option maxRecDepth 100000
namespace Mine
-- the state after the folders B, from the last on
noncomputable def stateB (V : List Node) (W : Int) : List Node → MS
  | [] => ⟨[], 0, []⟩
  | i :: B => stepM V W (stateB V W B) i
-- the folder i comes when B is done
structure Turn (V : List Node) (i : Node) (B : List Node) : Prop where
  ib : i ∉ B
  t2 : ∀ q ∈ B, ¬ q <+: i
  t4 : ∀ d ∈ V, i <+: d → d ≠ i → d ∈ B
  bv : ∀ x ∈ B, x ∈ V
  bd : B.Nodup
  ia : i ∈ allN
  iv : i ∈ V ∨ i = []
structure Done (V : List Node) (B : List Node) (m : MS) : Prop where
  fsts : m.H.map (·.1) = B.reverse
  nd : m.G.Nodup
  gv : ∀ p ∈ m.G, p ∈ V
  low : ∀ p ∈ m.G, ∃ q ∈ B, q <+: p ∧ q ≠ p
  ps : ∀ t ∈ m.H, t.1.dropLast ∉ B → t.2 = hangN V t.1 m.G
  some : ∀ t ∈ m.H, ∃ G', t.2 = hangN V t.1 G'
section
variable {V : List Node} {W : Int} {i : Node} {B : List Node} {m : MS}
theorem Done.mem (d : Done V B m) {t : Item} (h : t ∈ m.H) : t.1 ∈ B := by
  have : t.1 ∈ m.H.map (·.1) := List.mem_map_of_mem h
  rw [d.fsts] at this
  exact List.mem_reverse.mp this
theorem inner_mem {t : Item} : t ∈ innerOf m.H i ↔ t ∈ m.H ∧ t.1.dropLast = i := by unfold innerOf; rw [List.mem_filter]; simp
theorem start_ci (g : Grown V) (d : Done V B m) (t : Turn V i B) : CI V W i m.G (innerOf m.H i) m.c (startC V i m.G m.c (innerOf m.H i)) ∧ (∀ s ∈ innerOf m.H i, Kid i s.1) ∧ ((innerOf m.H i).map (·.1)).Nodup := by
  have hk : ∀ s ∈ innerOf m.H i, Kid i s.1 := fun s hs => by
    obtain ⟨h1, h2⟩ := inner_mem.mp hs
    exact ⟨(g.nd _ (t.bv _ (d.mem h1))).2, h2⟩
  have hf : ((innerOf m.H i).map (·.1)).Nodup := by
    refine (List.Sublist.map _ List.filter_sublist).nodup ?_
    rw [d.fsts]
    exact (List.reverse_perm _).nodup_iff.mpr t.bd
  have hi : i ∉ m.G := fun hm => by
    obtain ⟨q, hq, h1, _⟩ := d.low i hm
    exact t.t2 q hq h1
  have hps : ∀ s ∈ innerOf m.H i, s.2 = hangN V s.1 m.G := fun s hs => by
    obtain ⟨h1, h2⟩ := inner_mem.mp hs
    exact d.ps s h1 (by rw [h2]; exact t.ib)
  refine ⟨⟨.refl _, d.nd, d.gv, rfl, hps, fun p hp => .inl hp, fun p hp => hp, ?_, rfl, fun _ h => h⟩, hk, hf⟩
  have hall : ∀ x ∈ V, Kid i x → x ∈ (innerOf m.H i).map (·.1) := fun x hx kx => by
    have hxB : x ∈ B := t.t4 x hx kx.pre fun e => by have := kx.len; rw [e] at this; lia
    have : x ∈ m.H.map (·.1) := by rw [d.fsts]; exact List.mem_reverse.mpr hxB
    obtain ⟨s, hs, rfl⟩ := List.mem_map.mp this
    exact List.mem_map.mpr ⟨s, inner_mem.mpr ⟨hs, kx.2⟩, rfl⟩
  have := hang_all g hf (fun x hx => by obtain ⟨s, hs, rfl⟩ := List.mem_map.mp hx; exact hk s hs) hall hi
  have e : ((innerOf m.H i).map (fun s : Item => s.1)).map (fun x => wsum (hangN V x m.G)) = (innerOf m.H i).map szI := by
    rw [List.map_map]
    refine List.map_congr_left fun s hs => ?_
    show wsum (hangN V s.1 m.G) = wsum s.2
    rw [hps s hs]
  rw [e] at this
  exact this
theorem end_ci (g : Grown V) (d : Done V B m) (t : Turn V i B) (hw : w0N V i ≤ W) : CI V W i m.G (innerOf m.H i) m.c (endC V W m i) ∧ ¬ wsum (endC V W m i).part > W := by
  obtain ⟨h, hk, hf⟩ := start_ci (W := W) g d t
  exact ⟨(CI.all h rfl g.nodup hw hk hf _).1, CI.fits h rfl g.nodup hw hk hf⟩
theorem Done.step (g : Grown V) (d : Done V B m) (t : Turn V i B) (hw : w0N V i ≤ W) : Done V (i :: B) (stepM V W m i) := by
  obtain ⟨e, _⟩ := end_ci g d t hw
  refine ⟨?_, e.nd, e.gv, fun p hp => ?_, fun s hs hsd => ?_, fun s hs => ?_⟩
  · show List.map (fun s : Item => s.1) (m.H ++ [(i, (endC V W m i).part)]) = _
    rw [List.map_append, d.fsts, List.reverse_cons]; rfl
  · rcases e.low p hp with h | ⟨h1, h2⟩
    · obtain ⟨q, q1, q2⟩ := d.low p h
      exact ⟨q, List.mem_cons_of_mem _ q1, q2⟩
    · exact ⟨i, List.mem_cons_self, h1, Ne.symm h2⟩
  · have hs' : s ∈ m.H ++ [(i, (endC V W m i).part)] := hs
    rcases List.mem_append.mp hs' with hs' | hs'
    · have h1 := d.ps s hs' fun q => hsd (List.mem_cons_of_mem _ q)
      rw [h1]
      refine hangN_congr fun p hp hsp => ?_
      show p ∈ m.G ↔ p ∈ (endC V W m i).G
      refine ⟨e.up p, fun hpe => ?_⟩
      rcases e.low p hpe with h | ⟨h2, h3⟩
      · exact h
      · exfalso
        have hsB := d.mem hs'
        rcases List.prefix_or_prefix_of_prefix hsp h2 with h4 | h4
        · exact t.t2 _ hsB h4
        · have hne : i ≠ s.1 := fun q => t.ib (q ▸ hsB)
          have h5 := pre_dropLast h4 hne
          have h6 : s.1.dropLast ≠ i := fun q => hsd (q ▸ List.mem_cons_self)
          have h7 : s.1.dropLast ≠ [] := fun q => by
            rw [q] at h5 h6
            exact h6 (List.prefix_nil.mp h5).symm
          have h8 := g.anc (t.bv _ hsB) (List.dropLast_prefix s.1) h7
          exact hsd (List.mem_cons_of_mem _ (t.t4 _ h8 h5 h6))
    · rw [List.mem_singleton.mp hs']
      exact e.part
  · have hs' : s ∈ m.H ++ [(i, (endC V W m i).part)] := hs
    rcases List.mem_append.mp hs' with hs' | hs'
    · exact d.some s hs'
    · rw [List.mem_singleton.mp hs']
      exact ⟨_, e.part⟩
theorem turn_at {A : List Node} (g : Grown (A ++ i :: B)) : Turn (A ++ i :: B) i B := by
  have hd := g.nodup
  rw [List.nodup_append] at hd
  obtain ⟨d1, d2, d3⟩ := hd
  rw [List.nodup_cons] at d2
  have gA : Grown (A ++ [i]) := by
    have : A ++ i :: B = (A ++ [i]) ++ B := by simp
    rw [this] at g
    exact g.pre
  have hB : ∀ x ∈ B, x ∉ A ++ [i] := fun x hx hm => by
    rcases List.mem_append.mp hm with h | h
    · exact d3 x h x (List.mem_cons_of_mem _ hx) rfl
    · rw [List.mem_singleton.mp h] at hx; exact d2.1 hx
  have hiV : i ∈ A ++ i :: B := by simp
  have hin := (g.nd i hiV).2
  refine ⟨d2.1, fun q hq hp => ?_, fun d hd hp hne => ?_, fun x hx => by simp [hx], d2.2, (g.nd i hiV).1, .inl hiV⟩
  · exact hB q hq (gA.anc (by simp) hp (g.nd q (by simp [hq])).2)
  · rcases List.mem_append.mp hd with h | h
    · have := gA.inv.1.anc h hp hin
      exact absurd rfl (d3 i this i List.mem_cons_self)
    · rcases List.mem_cons.mp h with h | h
      · exact absurd h hne
      · exact h
theorem turn_root (g : Grown V) : Turn V [] V :=
  ⟨fun h => (g.nd _ h).2 rfl, fun q hq hp => (g.nd q hq).2 (List.prefix_nil.mp hp), fun d hd _ _ => hd, fun _ h => h, g.nodup, by decide +kernel, .inr rfl⟩
theorem done_nil : Done V [] ⟨[], 0, []⟩ := ⟨rfl, List.nodup_nil, fun _ h => (nomatch h), fun _ h => (nomatch h), fun _ h => (nomatch h), fun _ h => (nomatch h)⟩
theorem done_all {V : List Node} (g : Grown V) (hw : ∀ i, w0N V i ≤ W) : ∀ (B A : List Node), V = A ++ B → Done V B (stateB V W B)
  | [], _, _ => done_nil
  | i :: B, A, e => by
    have ih := done_all g hw B (A ++ [i]) (by rw [e]; simp)
    exact ih.step g (by rw [e] at g ⊢; exact turn_at g) (hw i)
theorem okt (g : Grown V) (h6 : V.length ≤ 6) (d : Done V B m) (t : Turn V i B) (hw : w0N V i ≤ W) : OkT V W m i := by
  obtain ⟨hs, hk, hf⟩ := start_ci (W := W) g d t
  obtain ⟨he, hfit⟩ := end_ci g d t hw
  have hHl : m.H.length ≤ 6 := by
    have : (m.H.map (·.1)).length = B.length := by rw [d.fsts, List.length_reverse]
    rw [List.length_map] at this
    have := nodup_len t.bd t.bv
    lia
  have oh : OkH m.H := by
    refine ⟨fun s h => g.nd _ (t.bv _ (d.mem h)), fun s h p hp => ?_, fun s h => ?_, by lia⟩
    · obtain ⟨G', e⟩ := d.some s h
      rw [e] at hp
      exact g.nd _ (mem_hangN.mp hp).1
    · obtain ⟨G', e⟩ := d.some s h
      rw [e]
      have := hangN_len (V := V) (i := s.1) (G := G'); lia
  refine ⟨t.ia, oh, fun s I' e hne => ?_, fun j hj => ?_, hfit, fun hi => ?_⟩
  · rw [e] at hk hf
    obtain ⟨s2, I2, rfl⟩ : ∃ s2 I2, I' = s2 :: I2 := by
      cases I' with
      | nil => exact absurd rfl hne
      | cons a b => exact ⟨a, b, rfl⟩
    have k1 := hk s List.mem_cons_self
    have k2 := hk s2 (List.mem_cons_of_mem _ List.mem_cons_self)
    refine cpN_eq (fun y hy => ?_) fun q hq => ?_
    · have : y ∈ (s :: s2 :: I2).map (·.1) := hy
      obtain ⟨r, hr, rfl⟩ := List.mem_map.mp this
      exact (hk r hr).pre
    · have h1 := hq s.1 List.mem_cons_self
      have h2 := hq s2.1 (by simp)
      by_cases hq2 : q.length ≤ i.length
      · exact hq2
      · exfalso
        have l1 := h1.length_le; have l2 := h2.length_le
        rw [k1.len] at l1; rw [k2.len] at l2
        have e1 := h1.eq_of_length (by rw [k1.len]; lia)
        have e2 := h2.eq_of_length (by rw [k2.len]; lia)
        simp only [List.map_cons, List.nodup_cons] at hf
        exact hf.1 (by rw [← e1, e2]; exact List.mem_cons_self)
  · obtain ⟨c, _⟩ := CI.all hs rfl g.nodup hw hk hf j
    generalize cutN (underOf V i) W j _ = a at c
    refine ⟨⟨fun s h => (oh.filter _).nd s (c.sub.subset h), fun s h => (oh.filter _).ps s (c.sub.subset h), fun s h => (oh.filter _).len s (c.sub.subset h), Nat.le_trans c.sub.length_le (oh.filter _).small⟩, c.nd, fun x hx => g.nd _ (c.gv x hx), ?_, fun x hx => ?_, ?_, fun q => c.ne hw q⟩
    · have := nodup_len c.nd c.gv; lia
    · rw [c.part] at hx; exact g.nd _ (mem_hangN.mp hx).1
    · rw [c.part]; have := hangN_len (V := V) (i := i) (G := a.G); lia
  · have hiV : i ∈ V := t.iv.elim id fun q => absurd q hi
    have him : i ∈ (endC V W m i).part := by
      rw [he.part]
      refine mem_hangN.mpr ⟨hiV, List.prefix_refl i, fun hG => ?_⟩
      rcases he.low i hG with h | ⟨_, h⟩
      · obtain ⟨q, hq, h1, _⟩ := d.low i h
        exact t.t2 q hq h1
      · exact h rfl
    obtain ⟨x, P, e⟩ : ∃ x P, (endC V W m i).part = x :: P := by
      cases hp : (endC V W m i).part with
      | nil => (first | exact nS hp him | exact nS him hp | exact nD hp him | exact nD him hp | cases sE hp him | (rw [hp] at him; cases him))
      | cons x P => exact ⟨x, P, rfl⟩
    refine ⟨x, P, e, cpN_eq (fun y hy => ?_) fun q hq => ?_⟩
    · have : y ∈ (endC V W m i).part := by rw [e]; exact hy
      rw [he.part] at this
      exact (mem_hangN.mp this).2.1
    · exact (hq i (by rw [← e]; exact him)).length_le
end
end Mine
end

section
open PySem PySem.W PySem.Calls PyProof.Rows
set_option Elab.async false
set_option tactic.hygienic false
set_option linter.unusedVariables false
set_option maxRecDepth 100000
namespace Mine
-- the q-th node; the root is the 0-th
noncomputable def ndV (V : List Node) : Nat → Node
  | 0 => []
  | k + 1 => V.getD k []
theorem ndV_get {V : List Node} {k : Nat} (h : k < V.length) : ndV V (k + 1) = V[k] := by
  show V.getD k [] = _
  rw [List.getD_eq_getElem?_getD, List.getElem?_eq_getElem h]; rfl
theorem ndV_mem {V : List Node} {k : Nat} (h : k < V.length) : ndV V (k + 1) ∈ V := by rw [ndV_get h]; exact List.getElem_mem h
theorem turn_ix {V : List Node} (g : Grown V) : ∀ q, q ≤ V.length → Turn V (ndV V q) (V.drop q)
  | 0, _ => turn_root g
  | k + 1, h => by
    have hk : k < V.length := by lia
    have e : V = V.take k ++ ndV V (k + 1) :: V.drop (k + 1) := by rw [ndV_get hk, ← List.drop_eq_getElem_cons hk, List.take_append_drop]
    have g' := g
    rw [e] at g'
    have := turn_at g'
    rwa [← e] at this
noncomputable def stQ (V : List Node) (W : Int) (q : Nat) : MS := stateB V W (V.drop q)
noncomputable def endQ (V : List Node) (W : Int) (q : Nat) : CS := endC V W (stQ V W q) (ndV V q)
theorem stQ_step {V : List Node} {W : Int} {q : Nat} (h : q < V.length) : stQ V W q = stepM V W (stQ V W (q + 1)) (ndV V (q + 1)) := by
  unfold stQ
  rw [List.drop_eq_getElem_cons h, ndV_get h]; rfl
theorem done_ix {V : List Node} {W : Int} (g : Grown V) (hw : ∀ i, w0N V i ≤ W) (q : Nat) : Done V (V.drop q) (stQ V W q) := done_all g hw (V.drop q) (V.take q) (List.take_append_drop q V).symm
theorem fold_stateB {V : List Node} {W : Int} : ∀ B : List Node, B.reverse.foldl (stepM V W) ⟨[], 0, []⟩ = stateB V W B
  | [] => rfl
  | i :: B => by rw [List.reverse_cons, List.foldl_append, fold_stateB B]; rfl
theorem stM_ix {V : List Node} {W : Int} {j : Nat} (h : j ≤ V.length) : stM V W j = stQ V W (V.length - j) := by
  unfold stM foldersP stQ
  rw [List.take_append_of_le_length (by rw [List.length_reverse]; exact h), List.take_reverse, fold_stateB]
theorem folders_ix {V : List Node} {j : Nat} {i : Node} (h : (foldersP V)[j]? = some i) : j ≤ V.length ∧ i = ndV V (V.length - j) := by
  unfold foldersP at h
  by_cases hj : j < V.length
  · rw [List.getElem?_append_left (by rw [List.length_reverse]; exact hj), List.getElem?_reverse hj, List.getElem?_eq_getElem (by lia)] at h
    cases h
    refine ⟨by lia, ?_⟩
    obtain ⟨k, hk⟩ : ∃ k, V.length - j = k + 1 := ⟨V.length - j - 1, by lia⟩
    rw [hk, ndV_get (by lia)]
    congr 1; lia
  · rw [List.getElem?_append_right (by rw [List.length_reverse]; lia), List.length_reverse] at h
    have hj2 := (List.getElem?_eq_some_iff.mp h).1
    have : j - V.length = 0 := by simpa using hj2
    rw [this] at h
    cases h
    exact ⟨by lia, by rw [show V.length - j = 0 by lia]; rfl⟩
theorem endM_ix {V : List Node} {W : Int} : endM V W = stepM V W (stQ V W 0) [] := by
  unfold endM foldersP stQ
  rw [List.foldl_append, fold_stateB]; rfl
theorem under_root (V : List Node) : underOf V [] = V := List.filter_eq_self.mpr fun p _ => by
  rw [decide_eq_true_iff, cp2_iff]; exact List.nil_prefix
theorem wt_nn (x : Node) : 0 ≤ wtN x := lenP_nonneg _
theorem wsum_nn (l : List Node) : 0 ≤ wsum l := sum_nn fun x hx => by
  obtain ⟨y, _, rfl⟩ := List.mem_map.mp hx
  exact wt_nn y
set_option tactic.hygienic true in
theorem width_ok {xs : List Int} {V : List Node} (h0 : V ≠ []) : ∀ i, w0N V i ≤ widthP xs V := fun i => by
  have hf : 0 ≤ (xs.sum + 2).fmod 5 := Int.fmod_nonneg_of_pos _ (by decide)
  unfold w0N widthP
  split
  · rename_i hi
    have := maxI_ge (l := V.map wtN) (x := wtN i) (List.mem_map_of_mem hi)
    lia
  · obtain ⟨x, V', rfl⟩ : ∃ x V', V = x :: V' := by
      cases V with
      | nil => exact absurd rfl h0
      | cons x V' => exact ⟨x, V', rfl⟩
    have h1 := maxI_ge (l := (x :: V').map wtN) (x := wtN x) (by simp)
    have := wt_nn x
    lia
/-! what all paths share -/
set_option tactic.hygienic true in
theorem par_zero {V : List Node} {y : Node} : parN V y = 0 ↔ y.length = 1 := by
  unfold parN
  split
  · rename_i h; simp [h]
  · rename_i h
    constructor
    · intro q; lia
    · intro q; exact absurd q h
theorem shared_ok {V : List Node} (g : Grown V) : ∀ x V', V = x :: V' → cpN x (V' ++ [x]) = sharedN V := fun x V' e => by
  have hx1 : x.length = 1 := by
    have : Grown ([] ++ [x]) := by
      have g' : Grown ([x] ++ V') := by rw [e] at g; exact g
      exact g'.pre
    rcases this.inv.2.2.2 with h | h
    · exact h
    · cases h
  have hc : (V.map (parN V)).countP (fun y => decide (y = 0)) = (V.filter fun y => decide (y.length = 1)).length := by
    rw [List.countP_map, List.countP_eq_length_filter]
    congr 1
    refine List.filter_congr fun y _ => ?_
    show decide (parN V y = 0) = _
    rw [Bool.eq_iff_iff, decide_eq_true_iff, decide_eq_true_iff]
    exact par_zero
  have hmem : ∀ y, y ∈ x :: (V' ++ [x]) ↔ y ∈ V := fun y => by
    rw [e]; simp only [List.mem_cons, List.mem_append, List.not_mem_nil, or_false]
    constructor
    · rintro (h | h | h)
      · exact .inl h
      · exact .inr h
      · exact .inl h
    · rintro (h | h)
      · exact .inl h
      · exact .inr (.inl h)
  unfold sharedN
  rw [hc]
  by_cases hgt : (V.filter fun y => decide (y.length = 1)).length > 1
  · rw [if_pos hgt]
    have hnd : (V.filter fun y => decide (y.length = 1)).Nodup := g.nodup.filter _
    obtain ⟨a, b, l, hl⟩ : ∃ a b l, (V.filter fun y => decide (y.length = 1)) = a :: b :: l := by
      cases hq : (V.filter fun y => decide (y.length = 1)) with
      | nil => rw [hq] at hgt; simp at hgt
      | cons a r =>
        cases r with
        | nil => rw [hq] at hgt; simp at hgt
        | cons b l => exact ⟨a, b, l, rfl⟩
    rw [hl] at hnd
    have ha := List.mem_filter.mp (show a ∈ V.filter fun y => decide (y.length = 1) by rw [hl]; simp)
    have hb := List.mem_filter.mp (show b ∈ V.filter fun y => decide (y.length = 1) by rw [hl]; simp)
    refine cpN_eq (fun y _ => List.nil_prefix) fun q hq => ?_
    have h1 := hq a ((hmem a).mpr ha.1)
    have h2 := hq b ((hmem b).mpr hb.1)
    have l1 := of_decide_eq_true ha.2
    have l2 := of_decide_eq_true hb.2
    by_cases h0 : q.length ≤ 0
    · exact h0
    · exfalso
      have m1 := h1.length_le
      have e1 := h1.eq_of_length (by lia)
      have e2 := h2.eq_of_length (by lia)
      rw [List.nodup_cons] at hnd
      exact hnd.1 (by rw [← e1, e2]; exact List.mem_cons_self)
  · rw [if_neg hgt]
    have hh : V.headD [] = x := by rw [e]; rfl
    rw [hh]
    refine cpN_eq (fun y hy => ?_) fun q hq => (hq x List.mem_cons_self).length_le
    have hyV := (hmem y).mp hy
    have hyn := (g.nd y hyV).2
    have hyl : y.length ≠ 0 := fun q => hyn (List.length_eq_zero_iff.mp q)
    have ht1 : (y.take 1).length = 1 := by rw [List.length_take]; lia
    have htV : y.take 1 ∈ V := g.anc hyV (List.take_prefix _ _) fun q => by rw [q] at ht1; simp at ht1
    by_cases hxy : x = y.take 1
    · rw [hxy]; exact List.take_prefix _ _
    · exfalso
      have hxf : x ∈ V.filter fun y => decide (y.length = 1) := List.mem_filter.mpr ⟨by rw [e]; simp, by simp [hx1]⟩
      have htf : y.take 1 ∈ V.filter fun y => decide (y.length = 1) := List.mem_filter.mpr ⟨htV, by rw [ht1]; rfl⟩
      have := nodup_len (l := [x, y.take 1]) (m := V.filter fun y => decide (y.length = 1)) (by simp [hxy]) (fun z hz => by
        replace hz := mem2f hz
        rcases hz with rfl | rfl
        · exact hxf
        · exact htf)
      simp only [List.length_cons, List.length_nil] at this
      lia
end Mine
end

section
open PySem PySem.W PySem.Calls PyProof.Rows
set_option Elab.async false
set_option tactic.hygienic false
set_option linter.unusedVariables false
set_option maxRecDepth 100000
namespace Mine
noncomputable def plV (V : List Node) : List Int := V.map (parN V)
noncomputable def wlV (V : List Node) : List Int := V.map wtN
noncomputable def zV (V : List Node) (W : Int) (q : Nat) : Int := wsum (endQ V W q).part
noncomputable def KV (V : List Node) (W : Int) (t : Nat) : Bool := !decide (ndV V (t + 1) ∈ (endQ V W ((plV V).getD t 0).toNat).I.map (·.1))
theorem getD_map' {α : Type} {f : α → Int} {l : List α} {k : Nat} (h : k < l.length) : (l.map f).getD k 0 = f l[k] := by
  rw [List.getD_eq_getElem?_getD, List.getElem?_map, List.getElem?_eq_getElem h]; rfl
section
variable {V : List Node} {W : Int}
theorem pl_get {k : Nat} (h : k < V.length) : (plV V).getD k 0 = parN V (ndV V (k + 1)) := by unfold plV; rw [getD_map' h, ndV_get h]
theorem wl_get {k : Nat} (h : k < V.length) : (wlV V).getD k 0 = wtN (ndV V (k + 1)) := by unfold wlV; rw [getD_map' h, ndV_get h]
theorem ndV_inj (g : Grown V) {a b : Nat} (ha : a ≤ V.length) (hb : b ≤ V.length) (h : ndV V a = ndV V b) : a = b := by
  cases a with
  | zero =>
    cases b with
    | zero => rfl
    | succ b => exact absurd h.symm (g.nd _ (ndV_mem hb)).2
  | succ a =>
    cases b with
    | zero => exact absurd h (g.nd _ (ndV_mem ha)).2
    | succ b =>
      rw [ndV_get ha, ndV_get hb] at h
      rw [(List.getElem_inj g.nodup).mp h]
-- the number of what a node hangs at
theorem par_ix (g : Grown V) {t : Nat} (ht : t < V.length) : ∃ p, p ≤ t ∧ (plV V).getD t 0 = (p : Int) ∧ ndV V p = (ndV V (t + 1)).dropLast := by
  have hx := ndV_mem ht
  rw [pl_get ht]
  by_cases h1 : (ndV V (t + 1)).length = 1
  · refine ⟨0, Nat.zero_le _, by unfold parN; rw [if_pos h1]; rfl, ?_⟩
    show [] = _
    have : (ndV V (t + 1)).dropLast.length = 0 := by rw [List.length_dropLast, h1]
    exact (List.length_eq_zero_iff.mp this).symm
  · -- the parent stands before
    have e : V = V.take t ++ ndV V (t + 1) :: V.drop (t + 1) := by rw [ndV_get ht, ← List.drop_eq_getElem_cons ht, List.take_append_drop]
    have gA : Grown (V.take t ++ [ndV V (t + 1)]) := by
      have : V = (V.take t ++ [ndV V (t + 1)]) ++ V.drop (t + 1) := by rw [List.append_assoc]; exact e
      rw [this] at g
      exact g.pre
    have hm : (ndV V (t + 1)).dropLast ∈ V.take t := (gA.inv.2.2.2).elim (fun q => absurd q h1) id
    obtain ⟨s, hs, hse⟩ := List.getElem_of_mem hm
    rw [List.length_take] at hs
    have hsV : s < V.length := by lia
    rw [List.getElem_take] at hse
    generalize hd : (ndV V (t + 1)).dropLast = d at hse
    have hlt : V.findIdx (fun y => decide (y = d)) < V.length := List.findIdx_lt_length_of_exists ⟨d, hse ▸ List.getElem_mem hsV, by simp⟩
    have hj := List.findIdx_getElem (xs := V) (p := fun y => decide (y = d)) (w := hlt)
    have hj' : V[V.findIdx fun y => decide (y = d)] = d := of_decide_eq_true hj
    have hi : V.findIdx (fun y => decide (y = d)) = s := (List.getElem_inj g.nodup).mp (hj'.trans hse.symm)
    refine ⟨s + 1, by lia, ?_, ?_⟩
    · unfold parN; rw [if_neg h1, hd, hi]; lia
    · rw [ndV_get hsV]; exact hse
theorem par_iff (g : Grown V) {t j : Nat} (ht : t < V.length) (hj : j ≤ V.length) : (plV V).getD t 0 = (j : Int) ↔ (ndV V (t + 1)).dropLast = ndV V j := by
  obtain ⟨p, h1, h2, h3⟩ := par_ix g ht
  rw [h2, ← h3]
  constructor
  · intro q; have : p = j := by lia
    rw [this]
  · intro q; rw [ndV_inj g (by lia) hj q]
noncomputable def itemQ (V : List Node) (W : Int) (t : Nat) : Item := (ndV V (t + 1), (endQ V W (t + 1)).part)
theorem H_ix : ∀ d q, q + d = V.length → (stQ V W q).H = ((List.range' q (V.length - q)).map (itemQ V W)).reverse
  | 0, q, h => by
    have : q = V.length := by lia
    subst this
    unfold stQ
    rw [List.drop_length, Nat.sub_self]; rfl
  | d + 1, q, h => by
    rw [stQ_step (by lia)]
    show (stQ V W (q + 1)).H ++ [_] = _
    rw [H_ix d (q + 1) (by lia), show V.length - q = (V.length - (q + 1)) + 1 by lia, List.range'_succ, List.map_cons, List.reverse_cons]
    rfl
theorem inner_ix (g : Grown V) {j : Nat} (hj : j ≤ V.length) : innerOf (stQ V W j).H (ndV V j) = ((chd (plV V) V.length j j).map (itemQ V W)).reverse := by
  rw [H_ix (V.length - j) j (by lia)]
  unfold innerOf chd
  rw [List.filter_reverse, List.filter_map]
  congr 2
  refine List.filter_congr fun t ht => ?_
  have := List.mem_range'_1.mp ht
  have hp := par_iff g (t := t) (by lia) hj
  show decide ((ndV V (t + 1)).dropLast = ndV V j) = _
  rw [Bool.eq_iff_iff, decide_eq_true_iff, decide_eq_true_iff]
  exact hp.symm
theorem sub_filter {S L : List Item} (h : S.Sublist L) (hf : (L.map (·.1)).Nodup) : S = L.filter fun t => decide (t.1 ∈ S.map (·.1)) := by
  induction h with
  | slnil => rfl
  | @cons S L a h ih =>
    rw [List.map_cons, List.nodup_cons] at hf
    have hn : a.1 ∉ S.map (·.1) := fun q => by
      obtain ⟨s, hs, e⟩ := List.mem_map.mp q
      exact hf.1 (List.mem_map.mpr ⟨s, h.subset hs, e⟩)
    rw [List.filter_cons_of_neg (by simpa using hn)]
    exact ih hf.2
  | @cons_cons S L a h ih =>
    rw [List.map_cons, List.nodup_cons] at hf
    rw [List.filter_cons_of_pos (by simp)]
    congr 1
    have := ih hf.2
    refine this.trans (List.filter_congr fun t ht => ?_)
    have hne : t.1 ≠ a.1 := fun q => hf.1 (q ▸ List.mem_map_of_mem ht)
    rw [Bool.eq_iff_iff, decide_eq_true_iff, decide_eq_true_iff, List.map_cons, List.mem_cons]
    exact ⟨.inr, fun q => q.elim (fun e => absurd e hne) id⟩
-- what is kept, by numbers
theorem kept_ix (g : Grown V) (hw : ∀ i, w0N V i ≤ W) {j : Nat} (hj : j ≤ V.length) : (endQ V W j).I.map szI = (keptZ (plV V) V.length (zV V W) (KV V W) j j).reverse := by
  have d := done_ix g hw j
  have t := turn_ix g j hj
  obtain ⟨he, _⟩ := end_ci g d t (hw _)
  obtain ⟨_, _, hf⟩ := start_ci (W := W) g d t
  have h1 := sub_filter he.sub hf
  have h2 : (endQ V W j).I = ((chd (plV V) V.length j j).map (itemQ V W)).reverse.filter fun t => decide (t.1 ∈ (endQ V W j).I.map (·.1)) := by
    rw [← inner_ix g hj]; exact h1
  rw [h2, List.filter_reverse, List.map_reverse, List.filter_map, List.map_map]
  unfold keptZ
  congr 1
  have hfil : (chd (plV V) V.length j j).filter ((fun t : Item => decide (t.1 ∈ (endQ V W j).I.map (·.1))) ∘ itemQ V W) = (chd (plV V) V.length j j).filter fun t => !KV V W t := by
    refine List.filter_congr fun t ht => ?_
    have hp : (plV V).getD t 0 = (j : Int) := by unfold chd at ht; exact of_decide_eq_true (List.mem_filter.mp ht).2
    show decide (ndV V (t + 1) ∈ _) = !KV V W t
    unfold KV
    rw [hp, Int.toNat_natCast, Bool.not_not]
    exact decide_eq_decide.mpr Iff.rfl
  rw [hfil]
  rfl
theorem Best.congr {b W : Int} {L k k' : List Int} (h : Best b W L k) (hl : k'.length = k.length) (hs : k'.sum = k.sum) : Best b W L k' := fun R h1 h2 => by
  rw [hl, hs]; exact h R h1 h2
theorem w0_ix (g : Grown V) {j : Nat} (hj : j ≤ V.length) : w0 (wlV V) j = w0N V (ndV V j) := by
  cases j with
  | zero =>
    show 0 = w0N V []
    unfold w0N
    rw [if_neg fun h => (g.nd _ h).2 rfl]
  | succ k =>
    show (wlV V).getD k 0 = _
    unfold w0N
    rw [wl_get hj, if_pos (ndV_mem hj)]
theorem greedy_ok (g : Grown V) (hw : ∀ i, w0N V i ≤ W) : Greedy (plV V) (wlV V) W V.length (zV V W) (KV V W) where
  sz := fun j hj => by
    obtain ⟨he, _⟩ := end_ci g (done_ix g hw j) (turn_ix g j hj) (hw _)
    have := he.sum
    have e : (endC V W (stQ V W j) (ndV V j)).I.map szI = _ := kept_ix g hw hj
    rw [e, List.sum_reverse] at this
    rw [w0_ix g hj]
    exact this
  fit := fun j hj => by
    obtain ⟨_, hf⟩ := end_ci g (done_ix g hw j) (turn_ix g j hj) (hw _)
    show wsum (endC V W (stQ V W j) (ndV V j)).part ≤ W
    lia
  nn := fun j _ => wsum_nn _
  wn := fun k hk => by rw [wl_get hk]; exact wt_nn _
  best := fun j hj => by
    obtain ⟨he, hf⟩ := end_ci g (done_ix g hw j) (turn_ix g j hj) (hw _)
    have hb := he.best _ Best.here
    rw [inner_ix g hj, ← w0_ix g hj, List.map_reverse, List.map_map] at hb
    have hb2 := hb.rev
    rw [List.reverse_reverse] at hb2
    have e : (endC V W (stQ V W j) (ndV V j)).I.map szI = _ := kept_ix g hw hj
    rw [e] at hb2
    exact hb2.congr (by rw [List.length_reverse]) (by rw [List.sum_reverse])
  par := fun t ht => by
    obtain ⟨p, h1, h2, _⟩ := par_ix g ht
    rw [h2]; lia
theorem gc_ix (g : Grown V) (hw : ∀ i, w0N V i ≤ W) {j : Nat} (hj : j ≤ V.length) : (endQ V W j).c = (stQ V W j).c + gcK (plV V) V.length (KV V W) j j := by
  obtain ⟨he, _⟩ := end_ci g (done_ix g hw j) (turn_ix g j hj) (hw _)
  have h1 : (endQ V W j).c + ((endQ V W j).I.length : Int) = (stQ V W j).c + (innerOf (stQ V W j).H (ndV V j)).length := he.cnt
  have h2 : (endQ V W j).I.length = (keptZ (plV V) V.length (zV V W) (KV V W) j j).length := by
    have := congrArg List.length (kept_ix g hw hj)
    rwa [List.length_map, List.length_reverse] at this
  have h3 := kept_len (pl := plV V) (m := V.length) (z := zV V W) (K := KV V W) j j
  rw [inner_ix g hj, List.length_reverse, List.length_map] at h1
  lia
theorem c_ix (g : Grown V) (hw : ∀ i, w0N V i ≤ W) : ∀ d q, q + d = V.length → (stQ V W q).c = tailS V.length (fun j => gcK (plV V) V.length (KV V W) j j) q
  | 0, q, h => by
    have : q = V.length := by lia
    subst this
    rw [tailS_end]
    unfold stQ
    rw [List.drop_length]; rfl
  | d + 1, q, h => by
    rw [stQ_step (by lia), tailS_step V.length (by lia), ← c_ix g hw d (q + 1) (by lia)]
    have := gc_ix g hw (j := q + 1) (by lia)
    show (endQ V W (q + 1)).c = _
    lia
end
-- all that the walk asks
theorem law_ok (xs : List Int) : LawOk xs (frontsX xs) := by
  obtain ⟨g, hne, h6⟩ := fronts_grown xs
  generalize frontsX xs = V at g hne h6
  have hw := width_ok (xs := xs) hne
  generalize hW : widthP xs V = W at hw
  have d0 := done_ix g hw 0
  have t0 := turn_root g
  obtain ⟨he, hfit⟩ := end_ci g d0 t0 (hw _)
  have hem : endM V W = stepM V W (stQ V W 0) [] := endM_ix
  have hpart : (endC V W (stQ V W 0) []).part = hangU V (endC V W (stQ V W 0) []).G := by
    rw [he.part]; unfold hangN; rw [under_root]
  refine ⟨g.nd, g.nodup, h6, hne, fun x hx h1 => g.par hx h1, fun j i hi => ?_, ?_, ?_, ?_, ?_, shared_ok g, ?_⟩
  · obtain ⟨hj, rfl⟩ := folders_ix hi
    rw [hW, stM_ix hj]
    exact okt g h6 (done_ix g hw _) (turn_ix g _ (Nat.sub_le _ _)) (hw _)
  · rw [hW, hem]; exact he.nd
  · rw [hW, hem]; exact he.gv
  · rw [hW, hem]
    refine ⟨(stQ V W 0).H, ?_⟩
    show (stQ V W 0).H ++ [([], (endC V W (stQ V W 0) []).part)] = _
    rw [hpart]; rfl
  · rw [hW, hem]
    show ((stQ V W 0).H ++ [_]).length ≤ 50
    have : ((stQ V W 0).H.map (·.1)).length = (V.drop 0).length := by rw [d0.fsts, List.length_reverse]
    rw [List.length_map, List.drop_zero] at this
    rw [List.length_append, List.length_singleton]; lia
  · rw [hW, hem]
    unfold leastV
    rw [hW]
    have hl := greedy_least (greedy_ok g hw) (by lia) (hangs := 0 :: V.map fun _ => 0) fun j => by
      cases j with
      | zero => rfl
      | succ j =>
        show (V.map fun _ => (0 : Int)).getD j 0 = 0
        rw [List.getD_eq_getElem?_getD, List.getElem?_map]
        cases V[j]? <;> rfl
    have hc := gc_ix g hw (j := 0) (Nat.zero_le _)
    have hs := c_ix g hw V.length 0 (by lia)
    have e1 : (stepM V W (stQ V W 0) []).c = tailS V.length (fun j => gcK (plV V) V.length (KV V W) j j) 0 + gcK (plV V) V.length (KV V W) 0 0 := by rw [← hs]; exact hc
    have e2 : wsum (hangU V (stepM V W (stQ V W 0) []).G) = zV V W 0 := by
      show wsum (hangU V (endC V W (stQ V W 0) []).G) = wsum (endC V W (stQ V W 0) []).part
      rw [hpart]
    rw [e1, e2]
    exact hl.symm
end Mine
end

section
open PySem PySem.W PySem.Calls PyProof.Rows
set_option Elab.async false
set_option tactic.hygienic false
set_option linter.unusedVariables false
set_option maxRecDepth 100000
namespace Mine
set_option tactic.hygienic true in
theorem final_walk {q : Program} {loose : List Str} {XP : (Str → Option Value) → Heap → Prop} {YP : World → Heap → Prop} {d : DefRec} {kwd : List (Str × PySem.Expr)} (hY : ∀ w h, YP w h → (Kf w).In h ∧ h.get? tb = some { cls := .none, data := .fields #[] }) (hnm : d.name = "law") :
    WalkO q loose XP YP PySem.Challenge.rw_qw0034_01.row.toRowW d kwd fun f vs => PySem.call f vs := by
  intro w s₀ s₁ mg mb G Y fa o pm cd doc dV kV ho hd hcd hD hmg hg args vals as hpre hlay hrd hwl hlo
  refine hideQE fun Q E hQ hE => ?_
  obtain ⟨hK, hT⟩ := hY w _ Y
  have T := G.T
  have hfa : fa = 238 := by
    have e : nsIn (Kf w) mainGlobals ("law" : Str) = some (some (.ref 238)) := by rfl
    have := mg_of hK T.g e
    rw [hnm, this] at hmg
    cases hmg; rfl
  subst hfa
  have bs : Bs w s₁.heap := by
    refine ⟨hK, ⟨mb, T.b, T.builtins⟩, T.nolimit, hT, ?_⟩
    obtain ⟨bm, ob, h1, h2, h3, h4, h5, h6⟩ := T.bmain
    refine ⟨mg, bm, ob, T.g, h1, h2, fun e => ?_, h3, h4, h5, h6⟩
    (first | exact nSg e hT h3 | cases sEg e hT h3 | (rw [e, hT] at h3; cases h3)); cases h4
  have inv : Inv w s₁.heap s₁ := by
    refine ⟨bs, fun b o _ e => e, ?_, ?_⟩
    · have hc : CodeHd s₁.heap 173 169 := codeHd_of_K hK (by kernel_rfl)
      exact ⟨#[], hc.code hT trivial, hc.tab hT⟩
    · exact AllBare.of_eq hg
  have rm : Rm s₁.heap 13 callerA s₁.heap := by
    refine ⟨rfl, by decide, by decide, [], rfl, fun _ h => (nomatch h)⟩
  have own : Own s₁.heap [] [] s₁.heap := ⟨rfl, List.nodup_nil, fun _ h => (nomatch h), fun k a o h => by simp at h⟩
  have TT := T
  wrow_args hpre hlay hrd hwl hlo
  rename_i xs hs hlay0 hL1 hr1 hl2 as1 as2 a vs as3 hL ra w1 r0 hI hr hcond hcond2
  have hl : xs.length ≤ 63 := by lia
  obtain ⟨ys, hys⟩ : ∃ ys, ofPy (PyData.list (xs.map PyData.int)) = WData.list ys := ⟨_, rfl⟩
  rw [hys] at w1
  have hrdl : Rd s₁.heap [] (.ref a) (dSc xs) := by
    obtain ⟨ob, h1, h2, k, h3⟩ := hL
    have hdn : ob.dict = none := by
      cases w1 with
      | list g1 g2 => (first | exact nS h1 g1 | exact nS g1 h1 | exact nD h1 g1 | exact nD g1 h1 | cases sE h1 g1 | (rw [h1] at g1; cases g1)); rfl
    refine .lst h1 h2 hdn h3 (by simp) ?_
    clear h3 h1 ra r0 w1 hs hL1 hys hcond hl hQ hE
    induction hI with
    | nil => exact .nil
    | cons n t hI ih => exact .cons (.int n t) ih
  obtain ⟨σ', hfl⟩ := fs_law (w := w) (hb := s₁.heap) (n := 0) hl (law_ok xs)
  refine wpAny_mono (hfl callerA s₁ [] [.ref a] rm inv own (.cons hrdl .nil)) (fun v s' q => ?_) fun _ _ f => f.elim
  obtain ⟨ad', k, _, _, r⟩ := q
  cases r
  have inv' := k.inv inv (fun b hb => by simp at hb)
  refine hQ _ _ ⟨.inl ⟨.bool true, .bool true, [], rfl, fun cls => ?_, .bool true, ?_, fun _ => ⟨List.nodup_nil, fun _ h => (nomatch h)⟩⟩, ⟨fun b o e => ?_, fun b o e => ?_⟩, k.os, inv'.bare⟩
  · rfl
  · refine postW_of (X := true) ?_ ?_ rfl
    · rfl
    · show WTm.value _ _ _ = _
      simp [OpenLaw.row, OpenRow.toRowW, WTm.value]
      first | rfl | decide | simp [same] | (unfold same; rfl)
  · by_cases hb : b = tb
    · subst hb
      have eo : o = { cls := .none, data := .fields #[] } := Option.some.inj (e.symm.trans hT)
      obtain ⟨ps, _, ht'⟩ := inv'.tab
      have hc : CodeHd s₁.heap 173 169 := codeHd_of_K hK (by kernel_rfl)
      refine .inr (.inl ⟨(hc.tab hT).isCodeTable, by rw [eo], #[], ps, by rw [eo], ?_⟩)
      rw [eo, ht'.2]
      simp
    · exact .inl (inv'.keep b o hb e)
  · by_cases hb : b = tb
    · subst hb
      obtain ⟨o', _, e', _⟩ := inv'.tab.fields
      exact ⟨o', e'⟩
    · exact ⟨o, inv'.keep b o hb e⟩
end Mine
end

section
open PySem PySem.W PyProof.Rows
set_option Elab.async false
set_option tactic.hygienic false
set_option maxRecDepth 100000
set_option maxHeartbeats 0

namespace Mine
noncomputable def vw : Program := view PySem.Challenge.pw_qw0034_01 [0, 2, 4, 6, 7, 9, 11, 13, 14, 15, 16, 18, 19, 21, 23, 24, 25, 26]
noncomputable def loo : List Str := [Str.ofString "_Accumulator"]
noncomputable def addrs : List Addr := [2, 3, 15, 17, 18, 20, 21, 22, 24, 25, 27, 28, 29, 36, 38, 39, 41, 42, 43, 44, 45, 48, 55, 57, 58, 60, 61, 62, 64, 65, 67, 68, 69, 71, 72, 74, 75, 76, 77, 78, 81, 83, 84, 86, 87, 88, 90, 91, 93, 94, 95, 97, 98, 100, 101, 102, 104, 105, 107, 108, 109, 111, 112, 114, 115, 116, 118, 119, 121, 122, 123, 126, 127, 128, 131, 136, 137, 138, 140, 141, 143, 144, 145, 147, 148, 150, 151, 152, 153, 155, 156, 158, 159, 160, 161, 163, 164, 166, 167, 168, 170, 171, 173, 174, 175, 177, 178, 180, 181, 182, 183, 185, 186, 188, 189, 190, 192, 193, 195, 196, 197, 198, 200, 201, 203, 204, 205, 206, 207, 208, 209, 212, 214, 215, 217, 218, 219, 222, 223, 224, 227, 228, 229, 232, 233, 234, 237, 238]
noncomputable def hk : Hook := kmHook Mine.hd.heap_1 addrs (fun _ => by kernel_rfl) [169]
noncomputable def xt (s : Shared) : Bool := xlAt vw [] s && recOk (RowW.records PySem.Challenge.rw_qw0034_01.row.toRowW) s
-- the run of the top, one check of the kernel's, by the library's own twins
theorem left : LeftO PySem.Challenge.pw_qw0034_01 vw loo xt hk.obs hk.val 3170 := by
  intro w
  delta openEnds topFrom
  rw [PySem.W.Fast.te14082659384304107361, PySem.W.Fast.te14364793385576792824, PySem.W.Fast.te4187177175401517315]
  kernel_rfl
theorem said : PySem.Challenge.rw_qw0034_01.wellSaid = true := by
  rw [PySem.W.Fast.te9446332074065402090]
  unfold PySem.W.Fast.tw9446332074065402090
  unfold PySem.W.Fast.tw17960256430627541270 PySem.W.Fast.tw2436336058641802641 PySem.W.Fast.tw12908688711261696721
  simp only [Bool.and_eq_true]
  repeat' apply And.intro
  all_goals decide +kernel
theorem chains : (chainsOk vw && opensWell PySem.Challenge.rw_qw0034_01.row.prog && (frees PySem.Challenge.rw_qw0034_01.row.toRowW && PySem.Challenge.rw_qw0034_01.row.within.isEmpty)) = true := by kernel_rfl
theorem isBare : PySem.Challenge.rw_qw0034_01.row.prog.bare := ⟨rfl, rfl, rfl, rfl, rfl, by decide +kernel⟩
theorem prom : PySem.Challenge.rw_qw0034_01.row.toRowW.promised := by w_witness2
theorem head {d : DefRec} {kwd : List (Str × PySem.Expr)} (hdef : defOf vw PySem.Challenge.rw_qw0034_01.row.name = some (d, kwd)) (hp : PySem.Challenge.rw_qw0034_01.row.prog.theDef PySem.Challenge.rw_qw0034_01.row.name = some (d.params, d.body, d.scope)) (hk' : kwWritten? d.params.kwonlyargs d.params.kw_defaults = some kwd)
    (call : WalkO vw loo (XL vw []) hk.says PySem.Challenge.rw_qw0034_01.row.toRowW d kwd fun f vs => PySem.call f vs) : PySem.Challenge.rw_qw0034_01.Holds := by
  refine holds_law said fun sd => ?_
  exact holds_open (q := vw) (loose := loo) (Xt := xt) (XP := XL vw []) (Yf := hk.obs) (Ya := hk.val) (YP := hk.says) (N := 3170) left hk.of hk.keeps
    (fun s e => xl_of s (Bool.and_eq_true_iff.mp e).1) XL.keeps hdef hp hk' (fun s e => recFacts_of (Bool.and_eq_true_iff.mp e).2) (by rfl) sd chains isBare prom call
end Mine
end

section
open PySem PySem.W PyProof.Rows
set_option Elab.async false
set_option tactic.hygienic false
set_option maxRecDepth 100000 in
set_option maxHeartbeats 0 in
theorem PySem.Challenge.cw_qw0034_01_holds : PySem.Challenge.rw_qw0034_01.Holds := by
  refine Mine.head (by rfl) (by rfl) (by rfl) ?_
  exact Mine.final_walk (fun w h Y => ⟨km_in_of Y, km_tabs_of Y 169 (by simp)⟩) rfl
end
