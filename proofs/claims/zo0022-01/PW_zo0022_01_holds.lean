import PyProof.Rows.All
import Wide.All
import OpenK.AllK
import Wide.FinOn
import PySem.Challenge.RW_zo0022_01
set_option Elab.async false
set_option linter.unusedSectionVars false
set_option linter.unusedVariables false
set_option maxRecDepth 10000
namespace Mine
open PySem

theorem cps {P : Prop} (h : ∀ C : Prop, (P → C) → C) : P := h P id

/-- not one of the two tables that grow when a def inside a def is run -/
def NT (b : Addr) (o : Obj) : Prop := (b ≠ 44 ∧ b ≠ 51) ∨ o.cls ≠ .none ∨ ∀ vs, o.data ≠ .fields vs
theorem NT.cls {b : Addr} {o : Obj} {t : String} (h : o.cls = .type t) : NT b o := .inr (.inl (by rw [h]; exact fun e => nomatch e))
theorem NT.dict {b : Addr} {o : Obj} {es ep} (h : o.data = .dict es ep) : NT b o := .inr (.inr fun vs => by rw [h]; exact fun e => nomatch e)
theorem NT.cell {b : Addr} {o : Obj} {v} (h : o.data = .cell v) : NT b o := .inr (.inr fun vs => by rw [h]; exact fun e => nomatch e)
theorem NT.func {b : Addr} {o : Obj} {v} (h : o.data = .func v) : NT b o := .inr (.inr fun vs => by rw [h]; exact fun e => nomatch e)
/-- neither a table nor a code object, wherever it stands -/
structure XO (o : Obj) : Prop where
  nt : ∀ {b : Addr}, NT b o
  nc : o.cls ≠ .type "code" ∨ ∀ vs, o.data ≠ .fields vs
theorem XO.cls {o : Obj} {t : String} (h : o.cls = .type t) (ht : (t == "code") = false := by decide) : XO o := ⟨.cls h, .inl (by rw [h]; intro e; cases e; simp at ht)⟩
theorem XO.dict {o : Obj} {es ep} (h : o.data = .dict es ep) : XO o := ⟨.dict h, .inr fun vs => by rw [h]; exact fun e => nomatch e⟩
theorem XO.cell {o : Obj} {v} (h : o.data = .cell v) : XO o := ⟨.cell h, .inr fun vs => by rw [h]; exact fun e => nomatch e⟩
def CodeO (oc : Obj) (q : Str) : Prop := oc.cls = .type "code" ∧ ∃ vs t, oc.data = .fields vs ∧ vs[1]? = some (.str q t)
/-- the record of a def's code -/
def CodeN (h : Heap) (cd : Value) (q : Str) : Prop := ∃ c o vs t, cd = .ref c ∧ h.get? c = some o ∧ o.cls = .type "code" ∧ o.data = .fields vs ∧ vs[1]? = some (.str q t)
abbrev tab (ps : Array Value) : Obj := { cls := .none, data := .fields ps }
/-- the tables that grow: place, line and column of the def within, its long name -/
def tlG : List (Addr × Nat × Nat × Str) := [(44, 51, 4, "_int2digits.<locals>.inner"), (51, 66, 4, "_digits2int.<locals>.inner")]
def TabOk (h : Heap) (e : Addr × Nat × Nat × Str) : Prop := h.get? e.1 = some (tab #[]) ∨ ∃ c, h.get? e.1 = some (tab #[rawInt e.2.1, rawInt e.2.2.1, .ref c]) ∧ CodeN h (.ref c) e.2.2.2
def TI (h : Heap) : Prop := ∀ e ∈ tlG, TabOk h e
theorem CodeN.keep {h h' : Heap} {cd : Value} {q : Str} (x : CodeN h cd q) (hk : ∀ b o, NT b o → h.get? b = some o → h'.get? b = some o) : CodeN h' cd q :=
  let ⟨c, o, vs, t, a, b, k, d, e⟩ := x; ⟨c, o, vs, t, a, hk c o (.cls k) b, k, d, e⟩
theorem CodeN.rec {g h : Heap} {cd : Value} {q : Str} (x : CodeN g cd q) (hk : ∀ b o, NT b o → g.get? b = some o → h.get? b = some o) : h.CodeRec cd q := let ⟨c, o, vs, t, a, b, n, d, e⟩ := x; ⟨c, o, vs, t, a, hk c o (.cls n) b, d, e⟩
theorem not_nt_tab {ps : Array Value} : ¬ NT 44 (tab ps) := fun h => by
  rcases h with h | h | h
  · exact h.1 rfl
  · exact h rfl
  · exact h ps rfl
theorem not_nt_tab' {b : Addr} {ps : Array Value} (hb : b = 44 ∨ b = 51) : ¬ NT b (tab ps) := fun h => by
  rcases h with h | h | h
  · rcases hb with e | e
    · exact h.1 e
    · exact h.2 e
  · exact h rfl
  · exact h ps rfl
theorem TI.keep {h h' : Heap} (x : TI h) (hk : ∀ b o, h.get? b = some o → h'.get? b = some o) : TI h' := fun e he => by
  rcases x e he with h1 | ⟨c, h1, h2⟩
  · exact .inl (hk _ _ h1)
  · exact .inr ⟨c, hk _ _ h1, h2.keep fun b o _ e => hk b o e⟩
/-- writes off the tables and the code -/
theorem TI.off {h h' : Heap} {S : Addr → Prop} (x : TI h) (hk : ∀ b o, ¬ S b → h.get? b = some o → h'.get? b = some o) (hS : ∀ b, S b → ∃ o, h.get? b = some o ∧ XO o) : TI h' := by
  have key : ∀ b o, h.get? b = some o → ¬ XO o → h'.get? b = some o := fun b o e n => hk b o (fun hs => by
    obtain ⟨o', e', x'⟩ := hS b hs
    rw [e] at e'; cases e'; exact n x') e
  intro e he
  rcases x e he with h1 | ⟨c, h1, c0, o, vs, t, a1, b1, k1, d1, e1⟩
  · exact .inl (key _ _ h1 fun n => not_nt_tab n.1)
  · refine .inr ⟨c, key _ _ h1 fun n => not_nt_tab n.1, c0, o, vs, t, a1, key _ _ b1 fun n => ?_, k1, d1, e1⟩
    rcases n.2 with n | n
    · exact n k1
    · exact n vs d1
theorem TI.same {h h' : Heap} {b : Addr} (x : TI h) (hs : Heap.SameBut b h h') (hb : ∃ o, h.get? b = some o ∧ XO o) : TI h' := x.off (S := (· = b)) (fun a o ha e => (hs.2 a ha).trans e) fun a ha => ha ▸ hb
theorem NsN {h h' : Heap} {a : Addr} {m : Str → Option Value} (hn : h.Ns a m) (hk : ∀ o, NT a o → h.get? a = some o → h'.get? a = some o) : h'.Ns a m := let ⟨o, es, ep, e, d, r⟩ := hn; ⟨o, es, ep, hk _ (.dict d) e, d, r⟩
theorem PlainN {h h' : Heap} {a : Addr} {vs : Array Value} (hn : h.PlainList a vs) (hk : ∀ o, NT a o → h.get? a = some o → h'.get? a = some o) : h'.PlainList a vs := let ⟨n, e⟩ := hn; ⟨n, hk _ (.cls rfl) e⟩
theorem DictN {prog : Program} {w : World} {h h' : Heap} {a : Addr} {kvs : List (Int × Value)} (hd : h.DictOf (intKind prog w) a kvs) (hk : ∀ o, NT a o → h.get? a = some o → h'.get? a = some o) : h'.DictOf (intKind prog w) a kvs := let ⟨o, es, ep, e, r⟩ := hd; ⟨o, es, ep, hk _ (.cls r.1.1) e, r⟩
theorem CellN {h h' : Heap} {a : Addr} {v : Option Value} (hc : h.IsCell a v) (hk : ∀ o, NT a o → h.get? a = some o → h'.get? a = some o) : h'.IsCell a v := let ⟨o, e, d⟩ := hc; ⟨o, hk _ (.cell d) e, d⟩

/-- values as trees -/
inductive T where
  | none
  | bool (b : Bool)
  | int (i : Int)
  | str (s : Str)
  | bytes (b : Array UInt8)
  | barr (b : Array UInt8)
  | list (xs : List T)
  | tuple (xs : List T)
  | dict (es : List (Int × T))
  | obj (o : Obj)

section
variable (prog : Program) (w : World)

abbrev Tup (h : Heap) (a : Addr) (items : Array Value) : Prop := ∃ n, h.get? a = some { cls := .type "tuple", data := .seq items n }
abbrev Barr (h : Heap) (a : Addr) (b : Array UInt8) : Prop := h.get? a = some { cls := .type "bytearray", data := .bytearray b 0 }

mutual
inductive R (h : Heap) (X : List Addr) : Value → T → Prop
  | none : R h X .none .none
  | bool (b : Bool) : R h X (.bool b) (.bool b)
  | int (i : Int) (t : Tok) : R h X (.int i t) (.int i)
  | str (s : Str) (t : Tok) : R h X (.str s t) (.str s)
  | bytes (b : Array UInt8) (t : Tok) : R h X (.bytes b t) (.bytes b)
  | barr {a : Addr} {b : Array UInt8} : a ∉ X → Barr h a b → R h X (.ref a) (.barr b)
  | list {a : Addr} {vs : List Value} {ds : List T} : a ∉ X → h.PlainList a vs.toArray → Rs h X vs ds → R h X (.ref a) (.list ds)
  | tuple {a : Addr} {vs : List Value} {ds : List T} : a ∉ X → Tup h a vs.toArray → Rs h X vs ds → R h X (.ref a) (.tuple ds)
  | dict {a : Addr} {kvs : List (Int × Value)} {es : List (Int × T)} : a ∉ X → (a == sysModules) = false → h.DictOf (intKind prog w) a kvs → Rk h X kvs es → R h X (.ref a) (.dict es)
  | obj {a c : Addr} {o oc : Obj} {fd : FuncData} : a ∉ X → h.get? a = some o → o.data = .func fd → c ∉ X → fd.code = .ref c → h.get? c = some oc → CodeO oc fd.qualname → R h X (.ref a) (.obj o)
inductive Rs (h : Heap) (X : List Addr) : List Value → List T → Prop
  | nil : Rs h X [] []
  | cons {v : Value} {d : T} {vs : List Value} {ds : List T} : R h X v d → Rs h X vs ds → Rs h X (v :: vs) (d :: ds)
inductive Rk (h : Heap) (X : List Addr) : List (Int × Value) → List (Int × T) → Prop
  | nil : Rk h X [] []
  | cons {k : Int} {v : Value} {d : T} {vs : List (Int × Value)} {ds : List (Int × T)} : R h X v d → Rk h X vs ds → Rk h X ((k, v) :: vs) ((k, d) :: ds)
end
end

variable {prog : Program} {w : World}

/-- what a value of a tree's form is -/
def RP (prog : Program) (w : World) (h : Heap) (X : List Addr) (v : Value) : T → Prop
  | .none => v = .none
  | .bool b => v = .bool b
  | .int i => ∃ t, v = .int i t
  | .str s => ∃ t, v = .str s t
  | .bytes b => ∃ t, v = .bytes b t
  | .barr b => ∃ a, v = .ref a ∧ a ∉ X ∧ Barr h a b
  | .list ds => ∃ a vs, v = .ref a ∧ a ∉ X ∧ h.PlainList a (List.toArray vs) ∧ Rs prog w h X vs ds
  | .tuple ds => ∃ a vs, v = .ref a ∧ a ∉ X ∧ Tup h a (List.toArray vs) ∧ Rs prog w h X vs ds
  | .dict es => ∃ a kvs, v = .ref a ∧ a ∉ X ∧ (a == sysModules) = false ∧ h.DictOf (intKind prog w) a kvs ∧ Rk prog w h X kvs es
  | .obj o => ∃ a c oc fd, v = .ref a ∧ a ∉ X ∧ h.get? a = some o ∧ o.data = .func fd ∧ c ∉ X ∧ fd.code = .ref c ∧ h.get? c = some oc ∧ CodeO oc fd.qualname
theorem R.p {h : Heap} {X : List Addr} {v : Value} {d : T} (r : R prog w h X v d) : RP prog w h X v d := by
  cases r with
  | none => rfl
  | bool b => rfl
  | int i t => exact ⟨t, rfl⟩
  | str s t => exact ⟨t, rfl⟩
  | bytes b t => exact ⟨t, rfl⟩
  | barr ha hb => exact ⟨_, rfl, ha, hb⟩
  | list ha hl hs => exact ⟨_, _, rfl, ha, hl, hs⟩
  | tuple ha hl hs => exact ⟨_, _, rfl, ha, hl, hs⟩
  | dict ha hm hd hs => exact ⟨_, _, rfl, ha, hm, hd, hs⟩
  | obj ha ho hd hc hcd hoc hq => exact ⟨_, _, _, _, rfl, ha, ho, hd, hc, hcd, hoc, hq⟩
def RsP (prog : Program) (w : World) (h : Heap) (X : List Addr) (vs : List Value) : List T → Prop
  | [] => vs = []
  | d :: ds => ∃ v vs', vs = v :: vs' ∧ R prog w h X v d ∧ Rs prog w h X vs' ds
theorem Rs.p {h : Heap} {X : List Addr} {vs : List Value} {ds : List T} (r : Rs prog w h X vs ds) : RsP prog w h X vs ds := by
  cases r with
  | nil => rfl
  | cons a b => exact ⟨_, _, rfl, a, b⟩
def RkP (prog : Program) (w : World) (h : Heap) (X : List Addr) (vs : List (Int × Value)) : List (Int × T) → Prop
  | [] => vs = []
  | d :: ds => ∃ v vs', vs = (d.1, v) :: vs' ∧ R prog w h X v d.2 ∧ Rk prog w h X vs' ds
theorem Rk.p {h : Heap} {X : List Addr} {vs : List (Int × Value)} {ds : List (Int × T)} (r : Rk prog w h X vs ds) : RkP prog w h X vs ds := by
  cases r with
  | nil => rfl
  | cons a b => exact ⟨_, _, rfl, a, b⟩

section
variable {h h' : Heap} {X X' : List Addr} (hk : ∀ a o, a ∉ X → NT a o → h.get? a = some o → h'.get? a = some o) (hx : ∀ a o, a ∉ X → NT a o → h.get? a = some o → a ∉ X')
include hk hx
theorem R.monoN {v : Value} {d : T} (r : R prog w h X v d) : R prog w h' X' v d :=
  R.rec (motive_1 := fun v d _ => R prog w h' X' v d) (motive_2 := fun v d _ => Rs prog w h' X' v d) (motive_3 := fun v d _ => Rk prog w h' X' v d)
    .none .bool .int .str .bytes (fun ha hb => .barr (hx _ _ ha (.cls rfl) hb) (hk _ _ ha (.cls rfl) hb))
    (fun ha hl _ ih => hl.elim fun _ e => .list (hx _ _ ha (.cls rfl) e) ⟨_, hk _ _ ha (.cls rfl) e⟩ ih)
    (fun ha hl _ ih => hl.elim fun _ e => .tuple (hx _ _ ha (.cls rfl) e) ⟨_, hk _ _ ha (.cls rfl) e⟩ ih)
    (fun ha hm hd _ ih => let ⟨o, es, ep, e, r⟩ := hd; .dict (hx _ _ ha (.cls r.1.1) e) hm ⟨o, es, ep, hk _ _ ha (.cls r.1.1) e, r⟩ ih)
    (fun ha ho hd hc hcd hoc hq => .obj (hx _ _ ha (.func hd) ho) (hk _ _ ha (.func hd) ho) hd (hx _ _ hc (.cls hq.1) hoc) hcd (hk _ _ hc (.cls hq.1) hoc) hq)
    .nil (fun _ _ a b => .cons a b) .nil (fun _ _ a b => .cons a b) r
theorem Rs.monoN {v : List Value} {d : List T} (r : Rs prog w h X v d) : Rs prog w h' X' v d := by
  induction d generalizing v with
  | nil => obtain rfl := r.p; exact .nil
  | cons d ds ih => obtain ⟨_, _, rfl, a, b⟩ := r.p; exact .cons (R.monoN hk hx a) (ih b)
theorem Rk.monoN {v : List (Int × Value)} {d : List (Int × T)} (r : Rk prog w h X v d) : Rk prog w h' X' v d := by
  induction d generalizing v with
  | nil => obtain rfl := r.p; exact .nil
  | cons d ds ih => obtain ⟨_, _, rfl, a, b⟩ := r.p; exact .cons (R.monoN hk hx a) (ih b)
end

section
variable {h h' : Heap} {X X' : List Addr} (hk : ∀ a o, a ∉ X → h.get? a = some o → h'.get? a = some o) (hx : ∀ a, a ∉ X → a < h.objs.size → a ∉ X')
include hk hx
theorem R.mono {v : Value} {d : T} (r : R prog w h X v d) : R prog w h' X' v d := R.monoN (fun a o ha _ e => hk a o ha e) (fun a o ha _ e => hx a ha (Heap.lt_size e)) r
theorem Rs.mono {v : List Value} {d : List T} (r : Rs prog w h X v d) : Rs prog w h' X' v d := Rs.monoN (fun a o ha _ e => hk a o ha e) (fun a o ha _ e => hx a ha (Heap.lt_size e)) r
theorem Rk.mono {v : List (Int × Value)} {d : List (Int × T)} (r : Rk prog w h X v d) : Rk prog w h' X' v d := Rk.monoN (fun a o ha _ e => hk a o ha e) (fun a o ha _ e => hx a ha (Heap.lt_size e)) r
end

theorem R.keep {h h' : Heap} {X : List Addr} {v : Value} {d : T} (hk : ∀ a o, NT a o → h.get? a = some o → h'.get? a = some o) (r : R prog w h X v d) : R prog w h' X v d :=
  r.monoN (fun a o _ n e => hk a o n e) fun _ _ h _ _ => h
theorem Rs.keep {h h' : Heap} {X : List Addr} {v : List Value} {d : List T} (hk : ∀ a o, NT a o → h.get? a = some o → h'.get? a = some o) (r : Rs prog w h X v d) : Rs prog w h' X v d :=
  r.monoN (fun a o _ n e => hk a o n e) fun _ _ h _ _ => h
theorem R.sub {h : Heap} {X X' : List Addr} {v : Value} {d : T} (hx : ∀ a, a ∉ X → a < h.objs.size → a ∉ X') (r : R prog w h X v d) : R prog w h X' v d :=
  r.mono (fun _ _ _ e => e) hx
theorem Rs.sub {h : Heap} {X X' : List Addr} {v : List Value} {d : List T} (hx : ∀ a, a ∉ X → a < h.objs.size → a ∉ X') (r : Rs prog w h X v d) : Rs prog w h X' v d :=
  r.mono (fun _ _ _ e => e) hx

theorem Rs.length {h : Heap} {X : List Addr} {v : List Value} {d : List T} (r : Rs prog w h X v d) : v.length = d.length := by
  induction d generalizing v with
  | nil => obtain rfl := r.p; rfl
  | cons d ds ih => obtain ⟨_, _, rfl, a, b⟩ := r.p; exact congrArg Nat.succ (ih b)
theorem Rs.get {h : Heap} {X : List Addr} {v : List Value} {d : List T} (r : Rs prog w h X v d) : ∀ (i : Nat) (x : T), d[i]? = some x → ∃ y, v[i]? = some y ∧ R prog w h X y x := by
  induction d generalizing v with
  | nil => intro i x e; cases e
  | cons d ds ih =>
    intro i x e
    obtain ⟨y, vs, rfl, a, b⟩ := r.p
    cases i with
    | zero => cases e; exact ⟨y, rfl, a⟩
    | succ i => rw [List.getElem?_cons_succ] at e ⊢; exact ih b i x e
theorem Rs.get' {h : Heap} {X : List Addr} {v : List Value} {d : List T} (r : Rs prog w h X v d) : ∀ (i : Nat) (y : Value), v[i]? = some y → ∃ x, d[i]? = some x ∧ R prog w h X y x := by
  induction d generalizing v with
  | nil => intro i x e; obtain rfl := r.p; cases e
  | cons d ds ih =>
    intro i x e
    obtain ⟨y, vs, rfl, a, b⟩ := r.p
    cases i with
    | zero => cases e; exact ⟨d, rfl, a⟩
    | succ i => rw [List.getElem?_cons_succ] at e ⊢; exact ih b i x e
theorem Rs.append {h : Heap} {X : List Addr} {v' : List Value} {d' : List T} (c : Rs prog w h X v' d') {v : List Value} {d : List T} (r : Rs prog w h X v d) : Rs prog w h X (v ++ v') (d ++ d') := by
  induction d generalizing v with
  | nil => obtain rfl := r.p; exact c
  | cons d ds ih => obtain ⟨_, _, rfl, a, b⟩ := r.p; exact .cons a (ih b)
theorem Rk.keys {h : Heap} {X : List Addr} {v : List (Int × Value)} {d : List (Int × T)} (r : Rk prog w h X v d) : v.map (·.1) = d.map (·.1) := by
  induction d generalizing v with
  | nil => obtain rfl := r.p; rfl
  | cons d ds ih => obtain ⟨_, _, rfl, a, b⟩ := r.p; exact congrArg (d.1 :: ·) (ih b)
theorem Rk.length {h : Heap} {X : List Addr} {v : List (Int × Value)} {d : List (Int × T)} (r : Rk prog w h X v d) : v.length = d.length := by
  have e := congrArg List.length r.keys
  rwa [List.length_map, List.length_map] at e

/-- find in an association list -/
def vat (es : List (Int × T)) (k : Int) : Option T := (es.find? fun e => decide (e.1 = k)).map (·.2)
def vput (es : List (Int × T)) (k : Int) (v : T) : List (Int × T) :=
  if es.any (fun e => decide (e.1 = k)) then es.map (fun e => if e.1 = k then (e.1, v) else e) else es ++ [(k, v)]

theorem vat_cons (k k' : Int) (y : Value) (vs : List (Int × Value)) : valueAt ((k', y) :: vs) k = if k' = k then some y else valueAt vs k := by
  by_cases hk : k' = k
  · simp [valueAt, hk]
  · simp [valueAt, List.find?_cons, hk]
theorem vat_consT (k : Int) (d : Int × T) (ds : List (Int × T)) : Mine.vat (d :: ds) k = if d.1 = k then some d.2 else Mine.vat ds k := by
  by_cases hk : d.1 = k
  · simp [Mine.vat, hk]
  · simp [Mine.vat, List.find?_cons, hk]
theorem Rk.vat {h : Heap} {X : List Addr} (k : Int) {v : List (Int × Value)} {d : List (Int × T)} (r : Rk prog w h X v d) :
    (∃ x y, valueAt v k = some y ∧ vat d k = some x ∧ R prog w h X y x) ∨ (valueAt v k = none ∧ vat d k = none) := by
  induction d generalizing v with
  | nil => obtain rfl := r.p; exact .inr ⟨rfl, rfl⟩
  | cons d ds ih =>
    obtain ⟨y, vs, rfl, a, b⟩ := r.p
    rw [vat_cons, vat_consT]
    by_cases hk : d.1 = k
    · rw [if_pos hk, if_pos hk]; exact .inl ⟨_, _, rfl, rfl, a⟩
    · rw [if_neg hk, if_neg hk]; exact ih b
theorem Rk.any {h : Heap} {X : List Addr} (k : Int) {v : List (Int × Value)} {d : List (Int × T)} (r : Rk prog w h X v d) :
    v.any (fun e => decide (e.1 = k)) = d.any (fun e => decide (e.1 = k)) := by
  have e := r.keys
  have h1 : v.any (fun e => decide (e.1 = k)) = (v.map (·.1)).any (fun e => decide (e = k)) := by simp [List.any_map, Function.comp_def]
  have h2 : d.any (fun e => decide (e.1 = k)) = (d.map (·.1)).any (fun e => decide (e = k)) := by simp [List.any_map, Function.comp_def]
  rw [h1, h2, e]
theorem Rk.mapPut {h : Heap} {X : List Addr} (k : Int) {y : Value} {x : T} (hx : R prog w h X y x) {v : List (Int × Value)} {d : List (Int × T)} (r : Rk prog w h X v d) :
    Rk prog w h X (v.map fun e => if e.1 = k then (e.1, y) else e) (d.map fun e => if e.1 = k then (e.1, x) else e) := by
  induction d generalizing v with
  | nil => obtain rfl := r.p; exact .nil
  | cons d ds ih =>
    obtain ⟨y, vs, rfl, a, b⟩ := r.p
    rw [List.map_cons, List.map_cons]
    by_cases hk : d.1 = k
    · rw [if_pos hk, if_pos hk]; exact .cons hx (ih b)
    · rw [if_neg hk, if_neg hk]; exact .cons a (ih b)
theorem Rk.append {h : Heap} {X : List Addr} {v' : List (Int × Value)} {d' : List (Int × T)} (c : Rk prog w h X v' d') {v : List (Int × Value)} {d : List (Int × T)} (r : Rk prog w h X v d) : Rk prog w h X (v ++ v') (d ++ d') := by
  induction d generalizing v with
  | nil => obtain rfl := r.p; exact c
  | cons d ds ih => obtain ⟨_, _, rfl, a, b⟩ := r.p; exact .cons a (ih b)
theorem Rk.put {h : Heap} {X : List Addr} (k : Int) {y : Value} {x : T} (hx : R prog w h X y x) {v : List (Int × Value)} {d : List (Int × T)} (r : Rk prog w h X v d) :
    Rk prog w h X (stored v k y) (vput d k x) := by
  unfold stored vput
  rw [← r.any k]
  split
  · exact r.mapPut k hx
  · exact Rk.append (.cons hx .nil) r

end Mine
set_option maxRecDepth 10000
namespace Mine
open PySem

inductive B where
  | v (d : T)
  | o (d : T)

structure Cx where
  g : Heap
  P : Addr → Obj → Prop
  env : Env
  ow : List (Str × Addr)
  V : List Addr
  os : List (Str × Addr)
  m : Str → Option Value
  cm : Str → Option Value

def Cx.W (c : Cx) : List Addr := c.env.locals :: (c.ow.map (·.2) ++ c.os.map (·.2))
def Cx.X (c : Cx) : List Addr := c.W ++ c.V
def Cx.Bd (c : Cx) (x : Str) (v : Value) : Prop :=
  (c.env.kindOf x = some .local ∧ c.m x = some v) ∨ ((c.env.kindOf x = some .cell ∨ c.env.kindOf x = some .free) ∧ (∃ a, c.env.cells.lookup x = some a) ∧ c.cm x = some v)

section
variable (prog : Program) (w : World)
def RO (h : Heap) (X : List Addr) (a : Addr) : T → Prop
  | .list ds => ∃ vs : List Value, h.PlainList a vs.toArray ∧ Rs prog w h X vs ds
  | .dict es => ∃ kvs, (a == sysModules) = false ∧ h.DictOf (intKind prog w) a kvs ∧ Rk prog w h X kvs es
  | .barr b => Barr h a b
  | _ => False

structure InF (c : Cx) (ρ : Str → Option B) (s : Shared) : Prop where
  tk : 1 ≤ s.toks
  ek : c.env.scope.kind = .function
  eg : c.env.globals = mainGlobals
  eb : c.env.builtins = builtinsNs
  gP : ∀ b o, NT b o → c.g.get? b = some o → c.P b o
  Pn : ∀ b o, c.P b o → NT b o
  Ph : ∀ b o, c.P b o → s.heap.get? b = some o
  PW : ∀ b o, c.P b o → b ∉ c.W
  nd : c.X.Nodup
  ex : ∀ b ∈ c.X, ∃ o, s.heap.get? b = some o ∧ XO o
  ns : s.heap.Ns c.env.locals c.m
  cl : ∀ n a, c.env.cells.lookup n = some a → s.heap.IsCell a (c.cm n)
  ce : ∀ n a, c.env.cells.lookup n = some a → a ≠ c.env.locals ∧ a ∉ c.os.map (·.2)
  cd : (c.env.cells.map (·.2)).Nodup
  ti : TI s.heap
  nm : ∀ x b, ρ x = some b → ∃ v, c.Bd x v ∧ match b with
    | .v d => R prog w s.heap c.X v d
    | .o d => ∃ a, v = .ref a ∧ c.os.lookup x = some a ∧ RO prog w s.heap c.X a d
end

variable {prog : Program} {w : World}

theorem RO.monoN {h h' : Heap} {X X' : List Addr} (hk : ∀ a o, a ∉ X → NT a o → h.get? a = some o → h'.get? a = some o) (hx : ∀ a o, a ∉ X → NT a o → h.get? a = some o → a ∉ X')
    {a : Addr} (ha : ∀ o, NT a o → h.get? a = some o → h'.get? a = some o) {d : T} (r : RO prog w h X a d) : RO prog w h' X' a d := by
  cases d with
  | list ds =>
    obtain ⟨vs, ⟨n, e⟩, h2⟩ := r
    exact ⟨vs, ⟨n, ha _ (.cls rfl) e⟩, Rs.monoN hk hx h2⟩
  | dict es =>
    obtain ⟨kvs, h0, ⟨o, es, ep, e, q⟩, h2⟩ := r
    exact ⟨kvs, h0, ⟨o, es, ep, ha _ (.cls q.1.1) e, q⟩, Rk.monoN hk hx h2⟩
  | barr b => exact ha _ (.cls rfl) r
  | none => exact r.elim
  | bool _ => exact r.elim
  | int _ => exact r.elim
  | str _ => exact r.elim
  | bytes _ => exact r.elim
  | tuple _ => exact r.elim
  | obj _ => exact r.elim
theorem RO.mono {h h' : Heap} {X X' : List Addr} (hk : ∀ a o, a ∉ X → h.get? a = some o → h'.get? a = some o) (hx : ∀ a, a ∉ X → a < h.objs.size → a ∉ X')
    {a : Addr} (ha : ∀ o, h.get? a = some o → h'.get? a = some o) {d : T} (r : RO prog w h X a d) : RO prog w h' X' a d :=
  RO.monoN (fun a o ha _ e => hk a o ha e) (fun a o ha _ e => hx a ha (Heap.lt_size e)) (fun o _ e => ha o e) r

theorem InF.ground {c : Cx} {ρ : Str → Option B} {s : Shared} (F : InF prog w c ρ s) (b : Addr) (o : Obj) (n : NT b o) (e : c.g.get? b = some o) : s.heap.get? b = some o := F.Ph b o (F.gP b o n e)

def Kp0 (s s' : Shared) : Prop := ∃ h' tk, s' = { s with heap := h', toks := tk } ∧ (∀ b o, NT b o → s.heap.get? b = some o → h'.get? b = some o) ∧ (TI s.heap → TI h')
theorem Kp0.of' {s : Shared} {h : Heap} {t : Nat} (k : ∀ b o, s.heap.get? b = some o → h.get? b = some o) : Kp0 s { s with heap := h, toks := t } := ⟨_, _, rfl, fun b o _ e => k b o e, fun x => x.keep k⟩
theorem Kp0.refl (s : Shared) : Kp0 s s := Kp0.of' (h := s.heap) (t := s.toks) fun _ _ e => e
theorem Kp0.trans {s s' s'' : Shared} (a : Kp0 s s') (b : Kp0 s' s'') : Kp0 s s'' := by
  obtain ⟨h1, t1, rfl, k1, x1⟩ := a
  obtain ⟨h2, t2, rfl, k2, x2⟩ := b
  exact ⟨h2, t2, rfl, fun b o n e => k2 b o n (k1 b o n e), fun x => x2 (x1 x)⟩
theorem Kp0.heap {s s' : Shared} (a : Kp0 s s') : ∀ b o, NT b o → s.heap.get? b = some o → s'.heap.get? b = some o := by
  obtain ⟨h1, t1, rfl, k1, _⟩ := a; exact k1
theorem Kp0.ti {s s' : Shared} (a : Kp0 s s') : TI s.heap → TI s'.heap := by
  obtain ⟨h1, t1, rfl, _, k1⟩ := a; exact k1
theorem Kp0.toks {s : Shared} {t : Nat} : Kp0 s { s with toks := t } := .of' fun _ _ e => e
theorem Kp0.push {s : Shared} {o : Obj} : Kp0 s { s with heap := s.heap.push o } := .of' (t := s.toks) fun _ _ e => Heap.get?_push_of_some _ e
theorem Kp0.of {s : Shared} {h : Heap} {t : Nat} (k : ∀ b o, s.heap.get? b = some o → h.get? b = some o) : Kp0 s { s with heap := h, toks := t } := .of' k
def Kp (s s' : Shared) : Prop := Kp0 s s' ∧ (1 ≤ s.toks → 1 ≤ s'.toks)
theorem Kp.refl (s : Shared) : Kp s s := ⟨.refl s, id⟩
theorem Kp.trans {s s' s'' : Shared} (a : Kp s s') (b : Kp s' s'') : Kp s s'' := ⟨a.1.trans b.1, fun h => b.2 (a.2 h)⟩
theorem Kp.heap {s s' : Shared} (a : Kp s s') : ∀ b o, NT b o → s.heap.get? b = some o → s'.heap.get? b = some o := a.1.heap
theorem Kp.tok {s : Shared} : Kp s { s with toks := s.toks + 1 } := ⟨.toks, fun _ => Nat.le_add_left 1 s.toks⟩
theorem Kp.push {s : Shared} {o : Obj} : Kp s { s with heap := s.heap.push o } := ⟨.push, id⟩
theorem Kp0.up {s s' : Shared} (a : Kp0 s s') (h : 1 ≤ s'.toks) : Kp s s' := ⟨a, fun _ => h⟩

theorem withTok {α : Type} {M : Model} {A : Around} {t : Sem α} {s : Shared} {Q : α → Shared → Prop} {E : Value → Shared → Prop} (h1 : 1 ≤ s.toks)
    (h : wpAny M A t (fun a s' => 1 ≤ s'.toks → Q a s') E s) : wpAny M A t Q E s :=
  wpAny_mono (wpAny_toks_of h1 h) (fun _ _ x => x.2 x.1) fun _ _ x => x.2

theorem InF.keep {c : Cx} {ρ : Str → Option B} {s s' : Shared} (F : InF prog w c ρ s) (k : Kp s s') : InF prog w c ρ s' where
  tk := k.2 F.tk
  ek := F.ek
  eg := F.eg
  eb := F.eb
  gP := F.gP
  Pn := F.Pn
  Ph := fun b o e => k.heap _ _ (F.Pn b o e) (F.Ph b o e)
  PW := F.PW
  nd := F.nd
  ex := fun b hb => let ⟨o, e, n⟩ := F.ex b hb; ⟨o, k.heap _ _ n.1 e, n⟩
  ns := NsN F.ns (k.heap _)
  cl := fun n a e => CellN (F.cl n a e) (k.heap _)
  ce := F.ce
  cd := F.cd
  ti := k.1.ti F.ti
  nm := fun x b e => by
    obtain ⟨v, h1, h2⟩ := F.nm x b e
    refine ⟨v, h1, ?_⟩
    cases b with
    | v d => exact R.keep k.heap h2
    | o d => obtain ⟨a, e1, e2, r⟩ := h2; exact ⟨a, e1, e2, RO.monoN (fun a o _ n e => k.heap a o n e) (fun _ _ h _ _ => h) (fun o n e => k.heap _ o n e) r⟩

/-- judgements -/
def Ev (prog : Program) (w : World) (A : Around) (c : Cx) (ρ : Str → Option B) (e : Expr) (d : T) : Prop :=
  ∀ (s : Shared) (Q : Value → Shared → Prop) (E : Value → Shared → Prop), InF prog w c ρ s →
    (∀ v s', Kp s s' → R prog w s'.heap c.X v d → Q v s') → wpAny (model prog w) A (eval e c.env) Q E s

def EvT (prog : Program) (w : World) (A : Around) (c : Cx) (ρ : Str → Option B) (e : Expr) (b : Bool) : Prop :=
  ∀ (s : Shared) (Q : Bool → Shared → Prop) (E : Value → Shared → Prop), InF prog w c ρ s →
    (∀ s', Kp s s' → Q b s') → wpAny (model prog w) A (isTrue e c.env (eval e c.env)) Q E s

/-- a pure operation on values -/
def Op (prog : Program) (w : World) (A : Around) (t : List Value → Sem Value) (ds : List T) (d : T) : Prop :=
  ∀ (s : Shared) (X : List Addr) (vs : List Value) (Q : Value → Shared → Prop) (E : Value → Shared → Prop), Rs prog w s.heap X vs ds → (∀ b ∈ X, ∃ o, s.heap.get? b = some o ∧ XO o) →
    (∀ v s', Kp0 s s' → R prog w s'.heap X v d → Q v s') → wpAny (model prog w) A (t vs) Q E s

section
variable {A : Around} {c : Cx} {ρ : Str → Option B}

theorem Ev.int {i : Int} {k : Nat} {p : Pos} : Ev prog w A c ρ (.Constant (.int i) k p) (.int i) := fun s Q E F h =>
  wpAny_Constant_int (h _ _ .tok (.int _ _))
theorem Ev.str {x : Str} {k : Nat} {p : Pos} : Ev prog w A c ρ (.Constant (.str x) k p) (.str x) := fun s Q E F h =>
  wpAny_Constant_str (h _ _ .tok (.str _ _))
theorem Ev.bool {b : Bool} {k : Nat} {p : Pos} : Ev prog w A c ρ (.Constant (.bool b) k p) (.bool b) := fun s Q E F h =>
  wpAny_Constant_bool (h _ _ (.refl _) (.bool _))
theorem Ev.noneC {k : Nat} {p : Pos} : Ev prog w A c ρ (.Constant .none k p) .none := fun s Q E F h =>
  wpAny_Constant_none (h _ _ (.refl _) .none)

theorem load_bd {x : Str} {v : Value} {s : Shared} {Q : Value → Shared → Prop} {E : Value → Shared → Prop} (F : InF prog w c ρ s) (hb : c.Bd x v) (hn : (x == ("__classdict__" : Str)) = false)
    (h : Q v s) : wpAny (model prog w) A (loadName c.env x) Q E s := by
  rcases hb with ⟨h1, h2⟩ | ⟨h1, ⟨a, h2⟩, h3⟩
  · exact wpAny_loadName_local F.ek h1 F.ns h2 h
  · have hc := F.cl x a h2
    rw [h3] at hc
    rcases h1 with h1 | h1
    · exact wpAny_loadName_cell F.ek h1 h2 hc h
    · exact wpAny_loadName_free F.ek h1 h2 hc h hn

def plainName (x : Str) : Bool := !(x == ("__debug__" : Str)) && !(x == ("__classdict__" : Str))
theorem plainName_1 {x : Str} (h : plainName x = true) : (x == ("__debug__" : Str)) = false := by
  unfold plainName at h; simp only [Bool.and_eq_true, Bool.not_eq_true'] at h; exact h.1
theorem plainName_2 {x : Str} (h : plainName x = true) : (x == ("__classdict__" : Str)) = false := by
  unfold plainName at h; simp only [Bool.and_eq_true, Bool.not_eq_true'] at h; exact h.2

theorem Ev.name {x : Str} {p : Pos} {d : T} (hx : ρ x = some (.v d)) (hn : plainName x = true) : Ev prog w A c ρ (.Name x p) d := fun s Q E F h => by
  obtain ⟨v, hb, r⟩ := F.nm x _ hx
  exact wpAny_Name (load_bd F hb (plainName_2 hn) (h v s (.refl s) r)) (plainName_1 hn)

theorem InF.exX {s : Shared} (F : InF prog w c ρ s) : ∀ b ∈ c.X, ∃ o, s.heap.get? b = some o ∧ XO o := F.ex

theorem Ev.bin {l r : Expr} {op : Operator} {p : Pos} {a b d : T} (hl : Ev prog w A c ρ l a) (hr : Ev prog w A c ρ r b)
    (ho : Op prog w A (fun vs => binaryOp op (vs.getD 0 .none) (vs.getD 1 .none)) [a, b] d) : Ev prog w A c ρ (.BinOp l op r p) d := fun s Q E F h =>
  wpAny_BinOp (hl s _ _ F fun v1 s1 k1 r1 => hr s1 _ _ (F.keep k1) fun v2 s2 k2 r2 =>
    withTok (F.keep (k1.trans k2)).tk (ho s2 c.X [v1, v2] _ _ (.cons (r1.keep k2.heap) (.cons r2 .nil)) (F.keep (k1.trans k2)).ex fun v s3 k3 r3 t3 => h v s3 (k1.trans (k2.trans (k3.up t3))) r3))

theorem Ev.un {x : Expr} {op : UnaryOp} {p : Pos} {a d : T} (hx : Ev prog w A c ρ x a)
    (ho : Op prog w A (fun vs => unaryOp op (vs.getD 0 .none)) [a] d) : Ev prog w A c ρ (.UnaryOp op x p) d := fun s Q E F h =>
  wpAny_UnaryOp (hx s _ _ F fun v1 s1 k1 r1 => withTok (F.keep k1).tk (ho s1 c.X [v1] _ _ (.cons r1 .nil) (F.keep k1).ex fun v s3 k3 r3 t3 => h v s3 (k1.trans (k3.up t3)) r3))

theorem Ev.cmp {l r : Expr} {op : CmpOp} {p : Pos} {a b d : T} (hm : behindInMarks op r = false) (hl : Ev prog w A c ρ l a) (hr : Ev prog w A c ρ r b)
    (ho : Op prog w A (fun vs => compareOp op (vs.getD 0 .none) (vs.getD 1 .none)) [a, b] d) : Ev prog w A c ρ (.Compare l [op] [r] p) d := fun s Q E F h =>
  wpAny_Compare1 (hm := hm) (hl s _ _ F fun v1 s1 k1 r1 => hr s1 _ _ (F.keep k1) fun v2 s2 k2 r2 =>
    withTok (F.keep (k1.trans k2)).tk (ho s2 c.X [v1, v2] _ _ (.cons (r1.keep k2.heap) (.cons r2 .nil)) (F.keep (k1.trans k2)).ex fun v s3 k3 r3 t3 => h v s3 (k1.trans (k2.trans (k3.up t3))) r3))

theorem Ev.ifexp {t x y : Expr} {p : Pos} {b : Bool} {d : T} (ht : EvT prog w A c ρ t b) (hx : b = true → Ev prog w A c ρ x d) (hy : b = false → Ev prog w A c ρ y d) :
    Ev prog w A c ρ (.IfExp t x y p) d := fun s Q E F h =>
  wpAny_IfExp (ht s _ _ F fun s1 k1 => by
    cases b with
    | true => exact hx rfl s1 _ _ (F.keep k1) fun v s2 k2 r => h v s2 (k1.trans k2) r
    | false => exact hy rfl s1 _ _ (F.keep k1) fun v s2 k2 r => h v s2 (k1.trans k2) r)

/-- tests -/
theorem EvT.cmp {l r : Expr} {op : CmpOp} {p : Pos} {a b : T} {t : Bool} (hm : behindInMarks op r = false) (hl : Ev prog w A c ρ l a) (hr : Ev prog w A c ρ r b)
    (ho : Op prog w A (fun vs => compareOp op (vs.getD 0 .none) (vs.getD 1 .none)) [a, b] (.bool t)) : EvT prog w A c ρ (.Compare l [op] [r] p) t := fun s Q E F h =>
  wpAny_isTrue_Compare1 (hm := hm) (hl s _ _ F fun v1 s1 k1 r1 => hr s1 _ _ (F.keep k1) fun v2 s2 k2 r2 =>
    withTok (F.keep (k1.trans k2)).tk (ho s2 c.X [v1, v2] _ _ (.cons (r1.keep k2.heap) (.cons r2 .nil)) (F.keep (k1.trans k2)).ex fun v s3 k3 r3 t3 => by
      obtain rfl := r3.p
      exact wpAny_truthy_bool (h s3 (k1.trans (k2.trans (k3.up t3))))))
theorem EvT.not {x : Expr} {p : Pos} {b : Bool} (h : EvT prog w A c ρ x b) : EvT prog w A c ρ (.UnaryOp .Not x p) (!b) := fun s Q E F hq =>
  wpAny_isTrue_Not (h s _ _ F fun s1 k1 => hq s1 k1)

def EvAll (prog : Program) (w : World) (A : Around) (c : Cx) (ρ : Str → Option B) (op : BoolOp) (es : List Expr) (b : Bool) : Prop :=
  ∀ (s : Shared) (Q : Bool → Shared → Prop) (E : Value → Shared → Prop), InF prog w c ρ s →
    (∀ s', Kp s s' → Q b s') → wpAny (model prog w) A (allTrue op es c.env) Q E s
theorem EvT.boolop {op : BoolOp} {es : List Expr} {p : Pos} {b : Bool} (h : EvAll prog w A c ρ op es b) : EvT prog w A c ρ (.BoolOp op es p) b := fun s Q E F hq =>
  wpAny_isTrue_BoolOp (h s _ _ F hq)
theorem EvAll.and_nil : EvAll prog w A c ρ .And [] true := fun s Q E F hq => wpAny_allTrue_And_nil (hq s (.refl s))
theorem EvAll.or_nil : EvAll prog w A c ρ .Or [] false := fun s Q E F hq => wpAny_allTrue_Or_nil (hq s (.refl s))
theorem EvAll.and_cons {x : Expr} {r : List Expr} {b b' : Bool} (hx : EvT prog w A c ρ x b) (hr : b = true → EvAll prog w A c ρ .And r b') :
    EvAll prog w A c ρ .And (x :: r) (if b then b' else false) := fun s Q E F hq =>
  wpAny_allTrue_And_cons (hx s _ _ F fun s1 k1 => by
    cases b with
    | true => exact hr rfl s1 _ _ (F.keep k1) fun s2 k2 => hq s2 (k1.trans k2)
    | false => exact hq s1 k1)
theorem EvAll.or_cons {x : Expr} {r : List Expr} {b b' : Bool} (hx : EvT prog w A c ρ x b) (hr : b = false → EvAll prog w A c ρ .Or r b') :
    EvAll prog w A c ρ .Or (x :: r) (if b then true else b') := fun s Q E F hq =>
  wpAny_allTrue_Or_cons (hx s _ _ F fun s1 k1 => by
    cases b with
    | true => exact hq s1 k1
    | false => exact hr rfl s1 _ _ (F.keep k1) fun s2 k2 => hq s2 (k1.trans k2))

/-- truth of a value -/
def OpT (prog : Program) (w : World) (A : Around) (d : T) (b : Bool) : Prop :=
  ∀ (s : Shared) (X : List Addr) (v : Value) (Q : Bool → Shared → Prop) (E : Value → Shared → Prop), R prog w s.heap X v d → (∀ s', Kp0 s s' → Q b s') → wpAny (model prog w) A (truthy v) Q E s
theorem EvT.value {e : Expr} {d : T} {b : Bool} (he : ∀ (whole : Sem Value), isTrue e c.env whole = (do let v ← whole; standAt e.pos; holding [v] (truthy v)))
    (h : Ev prog w A c ρ e d) (ht : OpT prog w A d b) : EvT prog w A c ρ e b := fun s Q E F hq =>
  wpAny_isTrue_value (h s _ _ F fun v s1 k1 r1 => withTok (F.keep k1).tk (ht s1 c.X v _ _ r1 fun s2 k2 t2 => hq s2 (k1.trans (k2.up t2)))) (he _)

/-- displays and arguments -/
def EvL (prog : Program) (w : World) (A : Around) (c : Cx) (ρ : Str → Option B) (p : Pos) (es : List Expr) (ds : List T) : Prop :=
  ∀ (s : Shared) (Q : List Value → Shared → Prop) (E : Value → Shared → Prop), InF prog w c ρ s →
    (∀ vs s', Kp s s' → Rs prog w s'.heap c.X vs ds → Q vs s') → wpAny (model prog w) A (spliced (backTo p (starEach es c.env))) Q E s
def unstarred : Expr → Bool
  | .Starred .. => false
  | _ => true
theorem starEach_cons {e : Expr} {rest : List Expr} {env : Env} (h : unstarred e = true) : starEach (e :: rest) env = (false, eval e env) :: starEach rest env := by
  cases e <;> first | rfl | (simp [unstarred] at h)
theorem EvL.nil {p : Pos} : EvL prog w A c ρ p [] [] := fun s Q E F h => wpAny_items_nil (h [] s (.refl s) .nil)
theorem EvL.cons {p : Pos} {e : Expr} {es : List Expr} {d : T} {ds : List T} (hu : unstarred e = true) (he : Ev prog w A c ρ e d) (hes : EvL prog w A c ρ p es ds) :
    EvL prog w A c ρ p (e :: es) (d :: ds) := fun s Q E F h =>
  wpAny_items_cons (he s _ _ F fun v s1 k1 r1 => hes s1 _ _ (F.keep k1) fun vs s2 k2 r2 => h (v :: vs) s2 (k1.trans k2) (.cons (r1.keep k2.heap) r2)) (starEach_cons hu)

theorem fresh_notin {s : Shared} {X : List Addr} (h : ∀ b ∈ X, ∃ o, s.heap.get? b = some o ∧ XO o) : s.heap.objs.size ∉ X := fun hm => by
  obtain ⟨o, e, _⟩ := h _ hm
  exact Nat.lt_irrefl _ (Heap.lt_size e)

theorem Ev.list {es : List Expr} {p : Pos} {ds : List T} (h : EvL prog w A c ρ p es ds) (hn : ds.length ≤ sizeLine) : Ev prog w A c ρ (.List es p) (.list ds) := fun s Q E F hq =>
  wpAny_List (h s _ _ F fun vs s1 k1 r1 => ⟨by rw [r1.length]; exact hn, hq _ _ (k1.trans .push) (.list (fresh_notin (F.keep k1).ex) ⟨0, Heap.get?_push_size _ rfl⟩
    (r1.keep fun _ _ _ e => Heap.get?_push_of_some _ e))⟩)
theorem Ev.tuple {es : List Expr} {k : Nat} {p : Pos} {ds : List T} (h : EvL prog w A c ρ p es ds) (hn : ds.length ≤ sizeLine) : Ev prog w A c ρ (.Tuple es k p) (.tuple ds) := fun s Q E F hq =>
  wpAny_Tuple (h s _ _ F fun vs s1 k1 r1 => ⟨by rw [r1.length]; exact hn, hq _ _ (k1.trans .push) (.tuple (fresh_notin (F.keep k1).ex) ⟨0, Heap.get?_push_size _ rfl⟩
    (r1.keep fun _ _ _ e => Heap.get?_push_of_some _ e))⟩)
end

end Mine
set_option maxRecDepth 10000
namespace Mine
open PySem

variable {prog : Program} {w : World} {A : Around}

abbrev bits (i : Int) : Nat := Builtin.Int.intBits i
theorem bits_le {i : Int} {k : Nat} (h : i.natAbs < 2 ^ k) : bits i ≤ k := by
  unfold bits Builtin.Int.intBits
  split
  · exact Nat.zero_le _
  · rename_i h0
    have : i.natAbs ≠ 0 := by simpa using h0
    have := (Nat.log2_lt this).mpr h
    omega

def intOp : Operator → Int → Int → Option T
  | .Add, x, y => some (.int (x + y))
  | .Sub, x, y => some (.int (x - y))
  | .Mult, x, y => if bits x ≤ 100000 ∧ bits y ≤ 100000 then some (.int (x * y)) else none
  | .FloorDiv, x, y => if y ≠ 0 ∧ bits y ≤ 5000 then some (.int (x.fdiv y)) else none
  | .Mod, x, y => if y ≠ 0 then some (.int (x.fmod y)) else none
  | .Pow, x, y => if 0 ≤ y ∧ y ≤ 1000 ∧ bits x ≤ 1000 then some (.int (x ^ y.toNat)) else none
  | .LShift, x, y => if 0 ≤ y ∧ y ≤ 100000 ∧ bits x ≤ 100000 then some (.int (x * 2 ^ y.toNat)) else none
  | .RShift, x, y => if 0 ≤ y then some (.int (x.fdiv (2 ^ y.toNat))) else none
  | .BitXor, x, y => some (.int (Builtin.bitXor x y))
  | _, _, _ => none
def strOp : Operator → Str → Str → Option T
  | .Add, x, y => if x.length + y.length ≤ 100000 then some (.str (x ++ y)) else none
  | _, _, _ => none
def binop (op : Operator) : T → T → Option T
  | .int x, .int y => intOp op x y
  | .str x, .str y => strOp op x y
  | _, _ => none

theorem if_some {c : Prop} [Decidable c] {a b : T} (h : (if c then some a else none) = some b) : c ∧ a = b := by
  by_cases hc : c
  · rw [if_pos hc] at h; exact ⟨hc, Option.some.inj h⟩
  · rw [if_neg hc] at h; cases h

theorem Op.int1 {t : List Value → Sem Value} {x : Int} {d : T} (h : ∀ (s : Shared) (tk : Tok) (Q : Value → Shared → Prop) (E : Value → Shared → Prop), (∀ v s', Kp0 s s' → (∀ X, R prog w s'.heap X v d) → Q v s') → wpAny (model prog w) A (t [.int x tk]) Q E s) :
    Op prog w A t [.int x] d := fun s X vs Q E r hx hq => by
  obtain ⟨_, _, rfl, a, b⟩ := r.p
  obtain ⟨_, rfl⟩ := a.p
  obtain rfl := b.p
  exact h s _ Q E fun v s' k r => hq v s' k (r _)
theorem Op.int2 {t : List Value → Sem Value} {x y : Int} {d : T} (h : ∀ (s : Shared) (tk uk : Tok) (Q : Value → Shared → Prop) (E : Value → Shared → Prop), (∀ v s', Kp0 s s' → (∀ X, R prog w s'.heap X v d) → Q v s') → wpAny (model prog w) A (t [.int x tk, .int y uk]) Q E s) :
    Op prog w A t [.int x, .int y] d := fun s X vs Q E r hx hq => by
  obtain ⟨_, _, rfl, a, b⟩ := r.p
  obtain ⟨_, _, rfl, b, c⟩ := b.p
  obtain ⟨_, rfl⟩ := a.p
  obtain ⟨_, rfl⟩ := b.p
  obtain rfl := c.p
  exact h s _ _ Q E fun v s' k r => hq v s' k (r _)
theorem Op.str2 {t : List Value → Sem Value} {x y : Str} {d : T} (h : ∀ (s : Shared) (tk uk : Tok) (Q : Value → Shared → Prop) (E : Value → Shared → Prop), (∀ v s', Kp0 s s' → (∀ X, R prog w s'.heap X v d) → Q v s') → wpAny (model prog w) A (t [.str x tk, .str y uk]) Q E s) :
    Op prog w A t [.str x, .str y] d := fun s X vs Q E r hx hq => by
  obtain ⟨_, _, rfl, a, b⟩ := r.p
  obtain ⟨_, _, rfl, b, c⟩ := b.p
  obtain ⟨_, rfl⟩ := a.p
  obtain ⟨_, rfl⟩ := b.p
  obtain rfl := c.p
  exact h s _ _ Q E fun v s' k r => hq v s' k (r _)

theorem kp_int {Q : Value → Shared → Prop} {s : Shared} {i : Int} (h : ∀ v s', Kp0 s s' → (∀ X, R prog w s'.heap X v (.int i)) → Q v s') : Q (.int i s.toks) { s with toks := s.toks + 1 } :=
  h _ _ .toks fun _ => .int _ _
theorem kp_bool {Q : Value → Shared → Prop} {s : Shared} {b : Bool} (h : ∀ v s', Kp0 s s' → (∀ X, R prog w s'.heap X v (.bool b)) → Q v s') : Q (.bool b) s :=
  h _ _ (.refl s) fun _ => .bool _

theorem intOp_ok {op : Operator} {x y : Int} {d : T} (h : intOp op x y = some d) : Op prog w A (fun vs => binaryOp op (vs.getD 0 .none) (vs.getD 1 .none)) [.int x, .int y] d := by
  cases op with
  | Add => cases h; exact .int2 fun s tk uk Q E hq => PyProof.Rows.add_int (kp_int hq)
  | Sub => cases h; exact .int2 fun s tk uk Q E hq => PyProof.Rows.sub_int (kp_int hq)
  | Mult =>
    obtain ⟨hc, rfl⟩ := if_some h
    exact .int2 fun s tk uk Q E hq => PyProof.Rows.mul_int (kp_int hq) (IntMulOk.of_bits (Nat.le_trans hc.1 (by decide)) (Nat.le_trans hc.2 (by decide)))
  | FloorDiv =>
    obtain ⟨hc, rfl⟩ := if_some h
    refine .int2 fun s tk uk Q E hq => PyProof.Rows.floordiv_int hc.1 (kp_int hq) (.inl (PyProof.noPylong_of_log2 ?_))
    have := hc.2
    unfold bits Builtin.Int.intBits at this
    rw [if_neg (fun h0 => hc.1 (beq_iff_eq.mp h0))] at this
    exact Nat.lt_of_lt_of_le (Nat.lt_succ_self _) (Nat.le_trans this (by decide))
  | Mod =>
    obtain ⟨hc, rfl⟩ := if_some h
    exact .int2 fun s tk uk Q E hq => PyProof.Rows.mod_int' hc (kp_int hq)
  | Pow =>
    obtain ⟨hc, rfl⟩ := if_some h
    refine .int2 fun s tk uk Q E hq => PyProof.Rows.pow_int hc.1 ?_ (kp_int hq)
    have h1 : (Builtin.Int.intBits x : Int) ≤ 1000 := Int.ofNat_le.mpr hc.2.2
    calc (Builtin.Int.intBits x : Int) * y ≤ 1000 * y := Int.mul_le_mul_of_nonneg_right h1 hc.1
      _ ≤ 2 ^ 27 := by have := hc.2.1; omega
  | LShift =>
    obtain ⟨hc, rfl⟩ := if_some h
    refine .int2 fun s tk uk Q E hq => PyProof.Rows.lshift_int hc.1 ?_ (kp_int hq)
    have h1 : (Builtin.Int.intBits x : Int) ≤ 100000 := Int.ofNat_le.mpr hc.2.2
    have := hc.2.1
    omega
  | RShift =>
    obtain ⟨hc, rfl⟩ := if_some h
    exact .int2 fun s tk uk Q E hq => PyProof.Rows.rshift_int hc (kp_int hq)
  | BitXor => cases h; exact .int2 fun s tk uk Q E hq => PyProof.Rows.xor_int (kp_int hq)
  | _ => cases h
theorem strOp_ok {op : Operator} {x y : Str} {d : T} (h : strOp op x y = some d) : Op prog w A (fun vs => binaryOp op (vs.getD 0 .none) (vs.getD 1 .none)) [.str x, .str y] d := by
  cases op with
  | Add =>
    obtain ⟨hc, rfl⟩ := if_some h
    exact .str2 fun s tk uk Q E hq => PyProof.Rows.add_str (fun t' tk' => hq _ _ (.toks) fun _ => .str _ _) (Nat.le_trans hc (by decide))
  | _ => cases h
theorem binop_ok {op : Operator} {a b d : T} (h : binop op a b = some d) : Op prog w A (fun vs => binaryOp op (vs.getD 0 .none) (vs.getD 1 .none)) [a, b] d := by
  cases a with
  | int x => cases b with
    | int y => exact intOp_ok h
    | _ => cases h
  | str x => cases b with
    | str y => exact strOp_ok h
    | _ => cases h
  | _ => cases h

def unop : UnaryOp → T → Option T
  | .USub, .int x => some (.int (-x))
  | .Invert, .int x => some (.int (Builtin.bitNot x))
  | _, _ => none
theorem unop_ok {op : UnaryOp} {a d : T} (h : unop op a = some d) : Op prog w A (fun vs => unaryOp op (vs.getD 0 .none)) [a] d := by
  unfold unop at h
  split at h
  · cases h; exact .int1 fun s tk Q E hq => PyProof.Rows.neg_int (kp_int hq)
  · cases h; exact .int1 fun s tk Q E hq => PyProof.Rows.invert_int (kp_int hq)
  · cases h

def intsOf : List T → Option (List Int)
  | [] => some []
  | .int i :: r => (intsOf r).map (i :: ·)
  | _ :: _ => none
theorem intsOf_cons {d : T} {ds : List T} {is : List Int} (e : intsOf (d :: ds) = some is) : ∃ i l, d = .int i ∧ intsOf ds = some l ∧ is = i :: l := by
  cases d <;> first | (cases e; done) | skip
  simp only [intsOf, Option.map_eq_some_iff] at e
  obtain ⟨l, e1, rfl⟩ := e
  exact ⟨_, l, rfl, e1, rfl⟩
theorem intsOf_are {h : Heap} {X : List Addr} {ds : List T} : ∀ {is : List Int} {vs : List Value}, intsOf ds = some is → Rs prog w h X vs ds → PyProof.Rows.IntsAre vs is := by
  induction ds with
  | nil =>
    intro is vs e r
    obtain rfl := r.p
    cases e; exact .nil
  | cons d ds ih =>
    intro is vs e r
    obtain ⟨i, l, rfl, e1, rfl⟩ := intsOf_cons e
    obtain ⟨_, _, rfl, a, b⟩ := r.p
    obtain ⟨_, rfl⟩ := a.p
    exact .cons _ _ (ih e1 b)

def intCmp : CmpOp → Int → Int → Option Bool
  | .Eq, x, y => some (x == y)
  | .NotEq, x, y => some (x != y)
  | .Lt, x, y => some (decide (x < y))
  | .LtE, x, y => some (decide (x ≤ y))
  | _, _, _ => none
theorem intCmp_ok {op : CmpOp} {x y : Int} {b : Bool} (h : intCmp op x y = some b) : Op prog w A (fun vs => compareOp op (vs.getD 0 .none) (vs.getD 1 .none)) [.int x, .int y] (.bool b) := by
  unfold intCmp at h
  split at h
  · cases h; exact .int2 fun s tk uk Q E hq => PyProof.Rows.eq_int (kp_bool hq)
  · cases h; exact .int2 fun s tk uk Q E hq => PyProof.Rows.ne_int (kp_bool hq)
  · cases h; exact .int2 fun s tk uk Q E hq => PyProof.Rows.lt_int (kp_bool hq)
  · cases h; exact .int2 fun s tk uk Q E hq => PyProof.Rows.le_int (kp_bool hq)
  · cases h

end Mine
set_option maxRecDepth 10000
namespace Mine
open PySem

variable {prog : Program} {w : World} {A : Around} {c : Cx} {ρ : Str → Option B}

structure Gnd (g : Heap) (mg mb : Str → Option Value) : Prop where
  G : g.Ns mainGlobals mg
  Bs : g.Ns builtinsNs mb
  nl : g.NoLimit

/-- calls -/
theorem callWith_machine {M : Model} {E : Value → Shared → Prop} {s : Shared} {pos : Pos} {f : Value} {first : List Value} {args : List (Bool × Sem Value)} {Q : Value → Shared → Prop} (hk : keeperOf f = pure .machine) (hplain : args.any (·.1) = false)
    (h : wpAny M A (evalArgs f true args []) (fun a s₁ => wpAny M A (call f (first ++ a.pos) a.kw) Q E s₁) E s) :
    wpAny M A (callWith pos f first args []) Q E s := by
  unfold callWith
  refine wpAny_bind (wpAny_holding (wpAny_mono h (fun a s₁ h₁ => wpAny_bind (wpAny_standAt ?_)) fun _ _ x => x))
  simp only [hplain, List.any_nil, Bool.or_false]
  rw [hk]
  refine wpAny_bind (wpAny_pure ?_)
  exact wpAny_bind (wpAny_mono h₁ (fun r s₂ hr => wpAny_bind (wpAny_holding (wpAny_point (wpAny_pure hr)))) fun _ _ x => x)

theorem backTo_plain {p : Pos} {env : Env} : ∀ {es : List Expr}, es.all unstarred = true → (backTo p (starEach es env)).any (·.1) = false ∧ (backTo p (starEach es env)).all (fun x => !x.1) = true
  | [], _ => ⟨rfl, rfl⟩
  | e :: es, h => by
    simp only [List.all_cons, Bool.and_eq_true] at h
    obtain ⟨h1, h2⟩ := backTo_plain (p := p) (env := env) h.2
    rw [starEach_cons h.1]
    unfold backTo at h1 h2 ⊢
    simp only [List.map_cons, List.any_cons, List.all_cons, h1, h2]
    exact ⟨rfl, rfl⟩

theorem evalArgs_L {f : Value} {p : Pos} {es : List Expr} {ds : List T} {s : Shared} {Q : Args → Shared → Prop} {E : Value → Shared → Prop} (hu : es.all unstarred = true) (hL : EvL prog w A c ρ p es ds)
    (F : InF prog w c ρ s) (h : ∀ vs s', Kp s s' → Rs prog w s'.heap c.X vs ds → Q ⟨vs, []⟩ s') : wpAny (model prog w) A (evalArgs f true (backTo p (starEach es c.env)) []) Q E s := by
  cases es with
  | nil =>
    have h0 := hL s (fun vs s' => Q ⟨vs, []⟩ s') E F h
    unfold evalArgs
    show wpAny (model prog w) A (spliced (backTo p (starEach [] c.env)) >>= _) Q E s
    refine wpAny_bind (wpAny_mono h0 (fun vs s' h' => ?_) fun _ _ x => x)
    refine wpAny_bind (wpAny_pure ?_)
    refine wpAny_holding ?_
    exact wpAny_bind (wpAny_pure (wpAny_bind (wpAny_pure (wpAny_pure h'))))
  | cons e es =>
    have hue : unstarred e = true := by simp only [List.all_cons, Bool.and_eq_true] at hu; exact hu.1
    have h0 := hL s (fun vs s' => Q ⟨vs, []⟩ s') E F h
    rw [starEach_cons hue] at h0 ⊢
    exact Calls.evalArgs_plain h0


theorem load_global {x : Str} {p : Pos} {v : Value} {mg mb : Str → Option Value} (hg : Gnd c.g mg mb) {s : Shared} {Q : Value → Shared → Prop} {E : Value → Shared → Prop} (F : InF prog w c ρ s)
    (hk : c.env.kindOf x = some .globalImplicit) (hn : plainName x = true) (hv : mg x = some v ∨ (mg x = none ∧ mb x = some v)) (h : Q v s) : wpAny (model prog w) A (eval (.Name x p) c.env) Q E s := by
  refine Calls.Name_function_global F.ek hk ?_ (plainName_1 hn)
  have e1 : s.heap.Ns c.env.globals mg := by rw [F.eg]; exact NsN hg.G (F.ground _)
  have e2 : s.heap.Ns c.env.builtins mb := by rw [F.eb]; exact NsN hg.Bs (F.ground _)
  rcases hv with hv | ⟨hv, hb⟩
  · exact Calls.loadGlobal_global e1 hv h
  · exact Calls.loadGlobal_builtin e1 hv e2 hb h

theorem keeperOf_type (n : String) : keeperOf (.type n) = pure .machine := rfl
theorem keeperOf_builtin (n : String) : keeperOf (.builtin n) = pure .machine := rfl

def notAttr : Expr → Bool
  | .Attribute .. => false
  | _ => true
theorem eval_Call_plain {f : Expr} {args : List Expr} {pos : Pos} {env : Env} (hf : notAttr f = true) : eval (.Call f args [] pos) env = (do callWith pos (← eval f env) [] (backTo pos (starEach args env)) []) := by
  cases f <;> first | rfl | (simp [notAttr] at hf)

theorem Ev.callB {f : Str} {p pos : Pos} {fv : Value} {args : List Expr} {ds : List T} {d : T} {mg mb : Str → Option Value} (hg : Gnd c.g mg mb)
    (hk : c.env.kindOf f = some .globalImplicit) (hn : plainName f = true) (hv : mg f = Option.none) (hb : mb f = some fv) (hkp : keeperOf fv = pure .machine) (hu : args.all unstarred = true)
    (hL : EvL prog w A c ρ pos args ds) (ho : Op prog w A (fun vs => call fv vs) ds d) : Ev prog w A c ρ (.Call (.Name f p) args [] pos) d := fun s Q E F hq => by
  rw [eval_Call_plain rfl]
  refine wpAny_bind (load_global hg F hk hn (.inr ⟨hv, hb⟩) ?_)
  refine callWith_machine hkp (backTo_plain hu).1 (evalArgs_L hu hL F fun vs s1 k1 r1 => ?_)
  exact withTok (F.keep k1).tk (ho s1 c.X vs _ E r1 (F.keep k1).ex fun v s2 k2 r2 t2 => hq v s2 (k1.trans (k2.up t2)) r2)

/-- what a def of the text does: a pure function of trees -/
def Fn (prog : Program) (w : World) (g : Heap) (mg : Str → Option Value) (A : Around) (f : Str) (args : List T) (d : T) : Prop :=
  ∃ fa o fd, mg f = some (.ref fa) ∧ g.get? fa = some o ∧ o.data = .func fd ∧
    ∀ (s : Shared) (X : List Addr) (vs : List Value) (Q : Value → Shared → Prop) (E : Value → Shared → Prop), (∀ b o, NT b o → g.get? b = some o → s.heap.get? b = some o) → Rs prog w s.heap X vs args → X.Nodup →
      (∀ b ∈ X, ∃ o, s.heap.get? b = some o ∧ XO o) → 1 ≤ s.toks → TI s.heap → (∀ v s', Kp0 s s' → R prog w s'.heap X v d → Q v s') → wpAny (model prog w) A (call (.ref fa) vs) Q E s

theorem Ev.callF {f : Str} {p pos : Pos} {args : List Expr} {ds : List T} {d : T} {mg mb : Str → Option Value} (hg : Gnd c.g mg mb)
    (hk : c.env.kindOf f = some .globalImplicit) (hn : plainName f = true) (hu : args.all unstarred = true)
    (hL : EvL prog w A c ρ pos args ds) (ho : Fn prog w c.g mg A f ds d) : Ev prog w A c ρ (.Call (.Name f p) args [] pos) d := fun s Q E F hq => by
  obtain ⟨fa, o, fd, hv, hob, hod, hc⟩ := ho
  rw [eval_Call_plain rfl]
  refine wpAny_bind (load_global hg F hk hn (.inl hv) ?_)
  refine Calls.callWith_function (o := o) (fd := fd) (evalArgs_L hu hL F fun vs s1 k1 r1 => ⟨⟨(F.keep k1).ground _ _ (.func hod) hob, hod⟩, ?_⟩)
  exact withTok (F.keep k1).tk (hc s1 c.X vs _ E (F.keep k1).ground r1 F.nd (F.keep k1).ex (F.keep k1).tk (F.keep k1).ti fun v s2 k2 r2 t2 => hq v s2 (k1.trans (k2.up t2)) r2)

/-- methods of built-in values -/
def notCall : Expr → Bool
  | .Call .. => false
  | _ => true
theorem attributeBase_plain {o : Expr} {name : Str} {env : Env} {m : Sem Value} (h : notCall o = true) : attributeBase o name env m = m := by
  cases o <;> first | rfl | (simp [notCall] at h)

/-- the type of a tree's value; no dict -/
def tyOf : T → Option String
  | .int _ => some "int"
  | .str _ => some "str"
  | .bytes _ => some "bytes"
  | .barr _ => some "bytearray"
  | .list _ => some "list"
  | .tuple _ => some "tuple"
  | .dict _ => some "dict"
  | _ => none
theorem R.typeIs {s : Shared} {X : List Addr} {v : Value} {d : T} {t : String} (r : R prog w s.heap X v d) (h : tyOf d = some t) :
    s.TypeIs v t ∧ ∀ a, v = .ref a → ∃ ob, s.heap.get? a = some ob ∧ ob.dict = Option.none := by
  have p := r.p
  cases d with
  | int i => cases h; obtain ⟨_, rfl⟩ := p; exact ⟨rfl, fun a e => nomatch e⟩
  | str i => cases h; obtain ⟨_, rfl⟩ := p; exact ⟨rfl, fun a e => nomatch e⟩
  | bytes i => cases h; obtain ⟨_, rfl⟩ := p; exact ⟨rfl, fun a e => nomatch e⟩
  | barr _ => cases h; obtain ⟨_, rfl, _, hb⟩ := p; exact ⟨⟨_, hb, rfl⟩, fun a e => Value.ref.inj e ▸ ⟨_, hb, rfl⟩⟩
  | list _ => cases h; obtain ⟨_, _, rfl, _, ⟨n, hb⟩, _⟩ := p; exact ⟨⟨_, hb, rfl⟩, fun a e => Value.ref.inj e ▸ ⟨_, hb, rfl⟩⟩
  | tuple _ => cases h; obtain ⟨_, _, rfl, _, ⟨n, hb⟩, _⟩ := p; exact ⟨⟨_, hb, rfl⟩, fun a e => Value.ref.inj e ▸ ⟨_, hb, rfl⟩⟩
  | dict _ => cases h; obtain ⟨_, _, rfl, _, _, ⟨o, es, ep, hb, hx, _⟩, _⟩ := p; exact ⟨⟨_, hb, hx.1⟩, fun a e => Value.ref.inj e ▸ ⟨_, hb, hx.2.1⟩⟩
  | _ => cases h

theorem Ev.meth {o : Expr} {name : Str} {apos pos : Pos} {args : List Expr} {d0 d : T} {ds : List T} {t id : String} (hnc : notCall o = true) (hline : (apos.endLine == pos.line) = true) (hu : args.all unstarred = true)
    (hlen : args.length < 30) (pa : PlainAttrs t) (slot : Slot t name id) (hty : typeOf (.builtin id) = pure (.type "method_descriptor")) (ht : tyOf d0 = some t)
    (h0 : Ev prog w A c ρ o d0) (hL : EvL prog w A c ρ pos args ds) (ho : Op prog w A (fun vs => call (.builtin id) vs) (d0 :: ds) d) : Ev prog w A c ρ (.Call (.Attribute o name apos) args [] pos) d := fun s Q E F hq => by
  have hfew : ((backTo pos (starEach args c.env)).all (fun x => !x.1) && (backToKw pos (keywordEach [] c.env)).all (fun x => x.1.isSome)
      && decide (args.length + ([] : List Keyword).length + (if ([] : List Keyword).isEmpty then 0 else 1) < 30)) = true := by
    rw [(backTo_plain hu).2]
    show (true && true && decide (args.length + 0 + 0 < 30)) = true
    rw [decide_eq_true (by omega)]; rfl
  refine wpAny_Call_method_late (attributeBase_plain hnc) hfew hline rfl (h0 s _ _ F fun v s1 k1 r1 => ?_)
  obtain ⟨hT, hd⟩ := r1.typeIs ht
  refine ⟨t, id, pa, slot, hty, hT, hd, callWith_machine rfl (backTo_plain hu).1 (evalArgs_L hu hL (F.keep k1) fun vs s2 k2 r2 => ?_)⟩
  exact withTok (F.keep (k1.trans k2)).tk (ho s2 c.X (v :: vs) _ E (.cons (r1.keep k2.heap) r2) (F.keep (k1.trans k2)).ex fun v s3 k3 r3 t3 => hq v s3 (k1.trans (k2.trans (k3.up t3))) r3)

/-- subscripts -/
theorem subscripted_ops (slice : Expr) (o i : Value) : ∃ ops, subscripted slice false o i = operate ops (getItem o i) := by
  unfold subscripted
  split
  · exact ⟨_, rfl⟩
  · rename_i h; cases h
  · exact ⟨_, rfl⟩
theorem sub_tail {value slice : Expr} {o i : Value} {t id : String} {s : Shared} {Q : Value → Shared → Prop} {E : Value → Shared → Prop} (hT : s.TypeIs o t) (hl : typeLookup (.type t) "__getitem__" = pure (some (.builtin id)))
    (h : wpAny (model prog w) A (getItem o i) Q E s) : wpAny (model prog w) A (do
      let r ← subscripted slice (← getitemInPython o) o i
      letTemporaryGo value o r
      pure r) Q E s := by
  refine wpAny_bind ?_
  rw [getitemInPython_of_ne hT.not_modules]
  refine wpAny_bind (wpAny_specialOf hT hl ?_)
  have fin : wpAny (model prog w) A (subscripted slice false o i) (fun r s₃ => wpAny (model prog w) A (letTemporaryGo value o r >>= fun _ => pure r) Q E s₃) E s := by
    obtain ⟨ops, e⟩ := subscripted_ops slice o i
    rw [e]
    exact wpAny_operating (wpAny_mono h (fun r s₃ h₃ => wpAny_bind (wpAny_letTemporaryGo (wpAny_pure h₃))) fun _ _ x => x)
  first
    | exact wpAny_pure (wpAny_bind fin)
    | exact wpAny_bind (wpAny_pure (wpAny_bind fin))
    | exact wpAny_bind fin
theorem getitem_lookup {t : String} (h : t = "str" ∨ t = "list" ∨ t = "tuple" ∨ t = "dict" ∨ t = "bytes") : ∃ id, typeLookup (.type t) "__getitem__" = pure (some (.builtin id)) := by
  rcases h with rfl | rfl | rfl | rfl | rfl
  · exact ⟨_, F.slot_str_getitem.lookup⟩
  · exact ⟨_, list_getitem_lookup⟩
  · exact ⟨_, PyProof.Rows.slot_tuple_getitem.lookup⟩
  · exact ⟨_, slot_dict_getitem.lookup⟩
  · exact ⟨_, PySem.W.FB.slot_bytes_getitem.lookup⟩
def subT (d : T) : Bool := match d with
  | .str _ | .list _ | .tuple _ | .dict _ | .bytes _ => true
  | _ => false
theorem R.subTail {value slice : Expr} {o i : Value} {d : T} {X : List Addr} {s : Shared} {Q : Value → Shared → Prop} {E : Value → Shared → Prop} (r : R prog w s.heap X o d) (hd : subT d = true)
    (h : wpAny (model prog w) A (getItem o i) Q E s) : wpAny (model prog w) A (do
      let r ← subscripted slice (← getitemInPython o) o i
      letTemporaryGo value o r
      pure r) Q E s := by
  have ht : ∃ t, tyOf d = some t ∧ (t = "str" ∨ t = "list" ∨ t = "tuple" ∨ t = "dict" ∨ t = "bytes") := by
    cases d <;> first | (simp [subT] at hd; done) | exact ⟨_, rfl, by simp⟩
  obtain ⟨t, e1, e2⟩ := ht
  obtain ⟨id, hl⟩ := getitem_lookup e2
  exact sub_tail (r.typeIs e1).1 hl h

theorem Ev.sub {value slice : Expr} {pos : Pos} {a b d : T} (hd : subT a = true) (hv : Ev prog w A c ρ value a) (hs : Ev prog w A c ρ slice b)
    (ho : Op prog w A (fun vs => getItem (vs.getD 0 .none) (vs.getD 1 .none)) [a, b] d) : Ev prog w A c ρ (.Subscript value slice pos) d := fun s Q E F hq => by
  rw [eval_Subscript]
  refine wpAny_bind (hv s _ _ F fun v1 s1 k1 r1 => wpAny_bind (wpAny_holding (hs s1 _ _ (F.keep k1) fun v2 s2 k2 r2 => wpAny_bind (wpAny_standAt ?_))))
  refine (r1.keep k2.heap).subTail hd (withTok (F.keep (k1.trans k2)).tk (ho s2 c.X [v1, v2] _ _ (.cons (r1.keep k2.heap) (.cons r2 .nil)) (F.keep (k1.trans k2)).ex fun v s3 k3 r3 t3 => hq v s3 (k1.trans (k2.trans (k3.up t3))) r3))

end Mine
set_option maxRecDepth 10000
namespace Mine
open PySem

variable {prog : Program} {w : World} {A : Around} {c : Cx} {ρ : Str → Option B}

def itemI : T → Int → Option T
  | .list xs, i => if 0 ≤ i ∧ i < 1000000 then xs[i.toNat]? else none
  | .tuple xs, i => if 0 ≤ i ∧ i < 1000000 then xs[i.toNat]? else none
  | .dict es, k => vat es k
  | .str x, i => if 0 ≤ i ∧ i < 1000000 then (x.cps[i.toNat]?).map fun c => .str ⟨#[c]⟩ else none
  | .bytes b, i => if 0 ≤ i ∧ b.size ≤ 1000000 then (b[i.toNat]?).map fun u => .int u.toNat else none
  | _, _ => none
def item (a : T) : T → Option T
  | .int i => itemI a i
  | _ => none
theorem if_some' {c : Prop} [Decidable c] {a : Option T} {b : T} (h : (if c then a else none) = some b) : c ∧ a = some b := by
  by_cases hc : c
  · rw [if_pos hc] at h; exact ⟨hc, h⟩
  · rw [if_neg hc] at h; cases h
theorem small_idx {i : Int} {n : Nat} (h : 0 ≤ i ∧ i < 1000000) (hn : i.toNat < n) : i < (n : Int) := by omega

theorem Op.two {t : List Value → Sem Value} {a b d : T} (h : ∀ (s : Shared) (X : List Addr) (u v : Value) (Q : Value → Shared → Prop) (E : Value → Shared → Prop), R prog w s.heap X u a → R prog w s.heap X v b → (∀ b ∈ X, ∃ o, s.heap.get? b = some o ∧ XO o) →
    (∀ v s', Kp0 s s' → R prog w s'.heap X v d → Q v s') → wpAny (model prog w) A (t [u, v]) Q E s) : Op prog w A t [a, b] d := fun s X vs Q E r hx hq => by
  obtain ⟨_, _, rfl, a, b⟩ := r.p
  obtain ⟨_, _, rfl, b1, c1⟩ := b.p
  obtain rfl := c1.p
  exact h s X _ _ Q E a b1 hx hq
theorem Op.one {t : List Value → Sem Value} {a d : T} (h : ∀ (s : Shared) (X : List Addr) (u : Value) (Q : Value → Shared → Prop) (E : Value → Shared → Prop), R prog w s.heap X u a → (∀ b ∈ X, ∃ o, s.heap.get? b = some o ∧ XO o) →
    (∀ v s', Kp0 s s' → R prog w s'.heap X v d → Q v s') → wpAny (model prog w) A (t [u]) Q E s) : Op prog w A t [a] d := fun s X vs Q E r hx hq => by
  obtain ⟨_, _, rfl, a, b⟩ := r.p
  obtain rfl := b.p
  exact h s X _ Q E a hx hq
theorem Op.three {t : List Value → Sem Value} {a b c d : T} (h : ∀ (s : Shared) (X : List Addr) (u v z : Value) (Q : Value → Shared → Prop) (E : Value → Shared → Prop), R prog w s.heap X u a → R prog w s.heap X v b → R prog w s.heap X z c → (∀ b ∈ X, ∃ o, s.heap.get? b = some o ∧ XO o) →
    (∀ v s', Kp0 s s' → R prog w s'.heap X v d → Q v s') → wpAny (model prog w) A (t [u, v, z]) Q E s) : Op prog w A t [a, b, c] d := fun s X vs Q E r hx hq => by
  obtain ⟨_, _, rfl, a, b⟩ := r.p
  obtain ⟨_, _, rfl, b1, c1⟩ := b.p
  obtain ⟨_, _, rfl, c2, e⟩ := c1.p
  obtain rfl := e.p
  exact h s X _ _ _ Q E a b1 c2 hx hq

theorem DictOf.mapOf' {K : Type} [DecidableEq K] {knd : KeyKind prog w K} {h : Heap} {a : Addr} {kvs : List (K × Value)} (x : h.DictOf knd a kvs) : h.MapOf knd a (valueAt kvs) := x.mapOf

theorem seqIndex_pos {i : Int} {n : Nat} (h0 : 0 ≤ i) (h1 : i < n) : seqIndex? i n = some i.toNat := by
  unfold seqIndex?
  simp only []
  rw [if_neg (by omega : ¬ i < 0), if_pos (by simp [h0, h1])]

theorem itemI_ok {a d : T} {i : Int} (h : itemI a i = some d) : Op prog w A (fun vs => getItem (vs.getD 0 .none) (vs.getD 1 .none)) [a, .int i] d := by
  refine .two fun s X u v Q E ra rb hx hq => ?_
  show wpAny (model prog w) A (getItem u v) Q E s
  obtain ⟨_, rfl⟩ := rb.p
  have p := ra.p
  cases a with
  | list xs =>
    obtain ⟨hc, h⟩ := if_some' h
    obtain ⟨_, _, rfl, ha, hl, hs⟩ := p
    obtain ⟨y, e1, r1⟩ := hs.get _ _ h
    exact wpAny_getItem_list hl.isList hc.1 (by omega) (by simpa using e1) (hq _ _ (.refl s) r1)
  | tuple xs =>
    obtain ⟨hc, h⟩ := if_some' h
    obtain ⟨_, _, rfl, ha, ⟨n, e⟩, hs⟩ := p
    obtain ⟨y, e1, r1⟩ := hs.get _ _ h
    exact PySem.P.getItem_tuple (n := n) e (by omega) (by omega) (seqIndex_pos hc.1 (small_idx hc (by rw [List.size_toArray]; exact (List.getElem?_eq_some_iff.mp e1).1))) (by simpa using e1) (hq _ _ (.refl s) r1)
  | dict es =>
    obtain ⟨_, _, rfl, ha, hm, hd, hs⟩ := p
    rcases hs.vat i with ⟨x, y, e1, e2, r⟩ | ⟨_, e2⟩
    · cases e2.symm.trans h
      exact wpAny_getItem_of (knd := intKind prog w) (intKind_is prog w i _) hd.mapOf e1 (hq _ _ .toks r)
    · cases e2.symm.trans h
  | str x =>
    obtain ⟨hc, h⟩ := if_some' h
    obtain ⟨_, rfl⟩ := p
    obtain ⟨cc, e1, rfl⟩ := Option.map_eq_some_iff.mp h
    refine PyProof.Rows.getItem_str (c := cc) (by simp; omega) ?_ (hq _ _ .toks (.str _ _))
    rw [show seqIndex? i x.length = _ from seqIndex_pos hc.1 (small_idx hc (Array.getElem?_eq_some_iff.mp e1).1)]
    exact e1
  | bytes b =>
    obtain ⟨hc, h⟩ := if_some' h
    obtain ⟨_, rfl⟩ := p
    obtain ⟨cc, e1, rfl⟩ := Option.map_eq_some_iff.mp h
    have hlt := (Array.getElem?_eq_some_iff.mp e1).1
    have e2 : b = b.toList.toArray := by simp
    have e3 : b.toList.getD i.toNat 0 = cc := by
      rw [List.getD_eq_getElem?_getD, Array.getElem?_toList, e1]; rfl
    have key : ∀ (b' : Array UInt8) (t u : Tok), b' = b.toList.toArray → wpAny (model prog w) A (getItem (.bytes b' t) (.int i u)) Q E s := by
      rintro _ t u rfl
      refine PySem.W.getItem_bytes (by simp; omega) hc.1 (by simp; omega) ?_
      rw [e3]
      exact hq _ _ .toks (.int _ _)
    exact key b _ _ e2
  | _ => cases h
theorem item_ok {a b d : T} (h : item a b = some d) : Op prog w A (fun vs => getItem (vs.getD 0 .none) (vs.getD 1 .none)) [a, b] d := by
  cases b with
  | int i => exact itemI_ok h
  | _ => cases h

end Mine
set_option maxRecDepth 10000
namespace Mine
open PySem

variable {prog : Program} {w : World} {A : Around} {c : Cx} {ρ : Str → Option B}

def cutL {α : Type} (xs : List α) (lo hi st : Option Int) : List α :=
  (sliceRange (sliceBounds lo hi st xs.length).1 (sliceBounds lo hi st xs.length).2.1 (sliceBounds lo hi st xs.length).2.2).filterMap (xs[·]?)
def cut : T → Option Int → Option Int → Option Int → Option T
  | .list xs, lo, hi, st => if st ≠ some 0 ∧ xs.length ≤ 1000000 then some (.list (cutL xs lo hi st)) else none
  | .str x, lo, hi, none => if x.length ≤ 1000000 then some (.str (Txt.slice x lo hi)) else none
  | .bytes b, lo, hi, none => if b.size ≤ 1000000 then some (.bytes (PySem.W.KBy.picked b lo hi)) else none
  | _, _, _, _ => none

theorem Rs.filterMap {h : Heap} {X : List Addr} {vs : List Value} {ds : List T} (r : Rs prog w h X vs ds) : ∀ (l : List Nat), Rs prog w h X (l.filterMap (vs[·]?)) (l.filterMap (ds[·]?))
  | [] => .nil
  | i :: l => by
    have ih := Rs.filterMap r l
    cases e : ds[i]? with
    | none =>
      have e' : vs[i]? = none := by
        rw [List.getElem?_eq_none_iff] at e ⊢
        rw [r.length]; exact e
      simp only [List.filterMap_cons, e, e']; exact ih
    | some d =>
      obtain ⟨y, e1, r1⟩ := r.get i d e
      simp only [List.filterMap_cons, e, e1]; exact .cons r1 ih

def EvP (prog : Program) (w : World) (A : Around) (c : Cx) (ρ : Str → Option B) (e : Option Expr) (k : Option Int) : Prop :=
  ∀ (s : Shared) (Q : Value → Shared → Prop) (E : Value → Shared → Prop), InF prog w c ρ s →
    (∀ v s', Kp s s' → IsPart v k → Q v s') → wpAny (model prog w) A (evalPart e c.env) Q E s
theorem EvP.none : EvP prog w A c ρ none none := fun s Q E F h => by rw [evalPart_none]; exact wpAny_pure (h _ s (.refl s) .none)
theorem EvP.some {e : Expr} {i : Int} (h : Ev prog w A c ρ e (.int i)) : EvP prog w A c ρ (some e) (some i) := fun s Q E F hq => by
  rw [evalPart_some]
  exact h s _ _ F fun v s1 k1 r1 => by obtain ⟨_, rfl⟩ := r1.p; exact hq _ s1 k1 (.int _ _)

theorem part_pair {v : Value} {k : Option Int} (h : IsPart v k) : ∃ p : Option (Int × Tok), v = partValue p ∧ k = p.map (·.1) := by
  cases h with
  | none => exact ⟨Option.none, rfl, rfl⟩
  | int i t => exact ⟨Option.some (i, t), rfl, rfl⟩

theorem part_none {v : Value} (h : IsPart v none) : v = .none := by cases h; rfl

theorem Ev.cut {value : Expr} {lower upper step : Option Expr} {p pos : Pos} {a d : T} {lo hi st : Option Int} (hv : Ev prog w A c ρ value a) (hl : EvP prog w A c ρ lower lo) (hu : EvP prog w A c ρ upper hi)
    (hs : EvP prog w A c ρ step st) (ho : Mine.cut a lo hi st = some d) : Ev prog w A c ρ (.Subscript value (.Slice lower upper step p) pos) d := fun s Q E F hq => by
  rw [eval_Subscript]
  refine wpAny_bind (hv s _ _ F fun v1 s1 k1 r1 => wpAny_bind (wpAny_holding (wpAny_Slice (hl s1 _ _ (F.keep k1) fun v2 s2 k2 p2 => hu s2 _ _ (F.keep (k1.trans k2)) fun v3 s3 k3 p3 =>
    hs s3 _ _ (F.keep (k1.trans (k2.trans k3))) fun v4 s4 k4 p4 => wpAny_bind (wpAny_standAt ?_)))))
  have kk := k1.trans (k2.trans (k3.trans k4))
  have k5 : Kp s4 { s4 with heap := s4.heap.push { cls := .type "slice", data := .fields #[v2, v3, v4] } } := .push
  have FF := (F.keep kk).keep k5
  have rr := r1.keep (k2.trans (k3.trans (k4.trans k5))).heap
  have sl : (s4.heap.push { cls := .type "slice", data := .fields #[v2, v3, v4] }).IsSliceOf s4.heap.objs.size v2 v3 v4 := .new ..
  unfold Mine.cut at ho
  split at ho
  · split at ho
    · rename_i xs hc
      cases ho
      refine rr.subTail rfl ?_
      · obtain ⟨addr, vs, rfl, ha, hl, hrs⟩ := rr.p
        refine wpAny_getItem_list_slice hl.isList sl p2 p3 p4 hc.1 ?_ (by simp only [List.size_toArray]; rw [hrs.length]; exact Nat.le_trans hc.2 (by decide))
        have e1 : slicePick vs.toArray lo hi st = (cutL vs lo hi st).toArray := by
          unfold slicePick cutL; simp
        have e2 : cutL vs lo hi st = (sliceRange (sliceBounds lo hi st xs.length).1 (sliceBounds lo hi st xs.length).2.1 (sliceBounds lo hi st xs.length).2.2).filterMap (vs[·]?) := by
          unfold cutL; rw [hrs.length]
        refine hq _ _ (kk.trans (k5.trans .push)) (.list (vs := cutL vs lo hi st) (fresh_notin FF.ex) ⟨0, ?_⟩ ?_)
        · rw [e1]; exact Heap.get?_push_size _ rfl
        · rw [e2]; exact (hrs.filterMap _).keep fun _ _ _ e => Heap.get?_push_of_some _ e
    · cases ho
  · split at ho
    · rename_i x hc
      cases ho
      refine rr.subTail rfl ?_
      · obtain ⟨t, rfl⟩ := rr.p
        obtain rfl := part_none p4
        obtain ⟨q2, rfl, rfl⟩ := part_pair p2
        obtain ⟨q3, rfl, rfl⟩ := part_pair p3
        refine withTok FF.tk ?_
        refine wpAny_getItem_str_slice (l := q2) (u := q3) (st := Option.none) ⟨_, Heap.get?_push_size _ rfl, rfl, rfl⟩ rfl
          (PySem.post_val_or_str ⟨Nat.le_trans (Txt.slice_le x _ _) (Nat.le_trans hc (by decide)), fun t' k t1 => hq _ _ (kk.trans (k5.trans (Kp0.up .toks t1))) (.str _ _)⟩)
    · cases ho
  · split at ho
    · rename_i x hc
      cases ho
      refine rr.subTail rfl ?_
      · obtain ⟨t, rfl⟩ := rr.p
        obtain rfl := part_none p4
        refine withTok FF.tk ?_
        refine getItem_meets (PySem.W.typeIs_bytes _ _ _) (by decide) PySem.W.FB.slot_bytes_getitem PySem.W.FB.entry_bytes_getitem (PySem.W.FB.args_bytes_getitem_2 _ _) (PySem.W.KBc.meets_slice2 x t _ p2 p3)
          ⟨sl, Nat.le_trans (PySem.W.KBc.size_picked_le x _ _) (Nat.le_trans hc (by decide)), fun t' k t1 => hq _ _ (kk.trans (k5.trans (Kp0.up .toks t1))) (.bytes _ _)⟩
    · cases ho
  · cases ho

end Mine
set_option maxRecDepth 10000
namespace Mine
open PySem

variable {prog : Program} {w : World} {A : Around} {c : Cx} {ρ : Str → Option B}

structure Room (A : Around) (n : Nat) : Prop where
  h : A.handled = none
  d : A.depth + n < 600
  u : A.units + 20 * n < 9000
theorem Room.mono {A : Around} {n m : Nat} (r : Room A n) (h : m ≤ n) : Room A m := ⟨r.h, by have := r.d; omega, by have := r.u; omega⟩

def strsOf : List T → Option (List Str)
  | [] => some []
  | .str i :: r => (strsOf r).map (i :: ·)
  | _ :: _ => none
theorem strsOf_cons {d : T} {ds : List T} {is : List Str} (e : strsOf (d :: ds) = some is) : ∃ i l, d = .str i ∧ strsOf ds = some l ∧ is = i :: l := by
  cases d <;> first | (cases e; done) | skip
  simp only [strsOf, Option.map_eq_some_iff] at e
  obtain ⟨l, e1, rfl⟩ := e
  exact ⟨_, l, rfl, e1, rfl⟩
theorem strsOf_are {h : Heap} {X : List Addr} {ds : List T} : ∀ {is : List Str} {vs : List Value}, strsOf ds = some is → Rs prog w h X vs ds → PyProof.Rows.StrsAre vs is := by
  induction ds with
  | nil =>
    intro is vs e r
    obtain rfl := r.p
    cases e; exact .nil
  | cons d ds ih =>
    intro is vs e r
    obtain ⟨i, l, rfl, e1, rfl⟩ := strsOf_cons e
    obtain ⟨_, _, rfl, a, b⟩ := r.p
    obtain ⟨_, rfl⟩ := a.p
    exact .cons _ _ (ih e1 b)
def pairT (p : Int × Int) : T := .tuple [.int p.1, .int p.2]

theorem isTuple_of {h : Heap} {a : Addr} {vs : Array Value} (x : Tup h a vs) : h.IsTuple a vs := let ⟨n, e⟩ := x; ⟨_, e, rfl, n, rfl⟩
theorem reads_tup {h : Heap} {a : Addr} {vs : List Value} {ns : List Int} (hl : h.IsTuple a vs.toArray) (hi : PyProof.Rows.IntsAre vs ns) : Reads h (.ref a) (.tuple (ns.map PyData.int)) [] := by
  obtain ⟨o, ho, hc, n, hd⟩ := hl
  exact Reads.tuple ho hc hd (by simpa using PySem.W.readsAll_of_ints hi)
theorem reads_pairs {h : Heap} {X : List Addr} (ps : List (Int × Int)) : ∀ {vs : List Value}, Rs prog w h X vs (ps.map pairT) →
    ReadsAll h vs (ps.map fun p => PyData.tuple [.int p.1, .int p.2]) [] := by
  induction ps with
  | nil =>
    intro vs r
    obtain rfl := r.p
    exact .nil
  | cons p ps ih =>
    intro vs r
    obtain ⟨_, _, rfl, a, b⟩ := r.p
    obtain ⟨_, _, rfl, ha, ht, hs⟩ := a.p
    obtain ⟨_, _, rfl, a1, b1⟩ := hs.p
    obtain ⟨_, _, rfl, a2, b2⟩ := b1.p
    obtain rfl := b2.p
    obtain ⟨_, rfl⟩ := a1.p
    obtain ⟨_, rfl⟩ := a2.p
    have h1 := reads_tup (isTuple_of ht) (.cons _ _ (.cons _ _ .nil))
    exact ReadsAll.cons h1 (ih b)

open PySem.SeqAt PySem.Spec in
theorem shaped_tup (ns : List Int) : shaped (.tuple (ns.map PyData.int)) = true := by
  have h1 := PySem.W.depthAll_ints ns
  have h2 : PyData.depth (.tuple (ns.map PyData.int)) ≤ 64 := by simp only [PyData.depth]; omega
  show (PyData.canLay0 (.tuple (ns.map PyData.int)) && decide (PyData.depth (.tuple (ns.map PyData.int)) ≤ 64)) = true
  rw [Bool.and_eq_true]
  exact ⟨by simp only [PyData.canLay0]; exact PySem.W.canLayAll0_ints ns, decide_eq_true h2⟩
def pairD (p : Int × Int) : PyData := .tuple [.int p.1, .int p.2]
theorem canLay_pairs : ∀ ps : List (Int × Int), PyData.canLayAll0 (ps.map pairD) = true
  | [] => by simp [PyData.canLayAll0]
  | n :: r => by simp [PyData.canLayAll0, PyData.canLay0, canLay_pairs r, pairD]
theorem depth_pairs : ∀ ps : List (Int × Int), PyData.depthAll (ps.map pairD) ≤ 2
  | [] => by simp [PyData.depthAll]
  | n :: r => by
    have := depth_pairs r
    simp only [List.map_cons, PyData.depthAll, PyData.depth, pairD] at this ⊢
    omega
open PySem.SeqAt in
theorem shaped_pairs (ps : List (Int × Int)) : shaped (.list (ps.map pairD)) = true := by
  have h1 := depth_pairs ps
  have h2 : PyData.depth (.list (ps.map pairD)) ≤ 64 := by simp only [PyData.depth]; omega
  show (PyData.canLay0 (.list (ps.map pairD)) && decide (PyData.depth (.list (ps.map pairD)) ≤ 64)) = true
  rw [Bool.and_eq_true]
  exact ⟨by simp only [PyData.canLay0]; exact canLay_pairs ps, decide_eq_true h2⟩
open PySem.SeqAt in
theorem noMix_tup (ns ms : List Int) : noMix (.tuple (ns.map PyData.int)) (.tuple (ms.map PyData.int)) = true := by
  simp only [noMix]; exact PySem.W.noMix_ints ns ms
theorem same_tup (ns ms : List Int) : PySem.Spec.same (.tuple (ns.map PyData.int)) (.tuple (ms.map PyData.int)) = decide (ns = ms) := by
  simp only [PySem.Spec.same]; exact PySem.W.same_ints ns ms
open PySem.SeqAt in
theorem noMix_pairs_nil (ps : List (Int × Int)) : noMix (.list (ps.map pairD)) (.list []) = true := by
  cases ps <;> simp [noMix, noMixAll]
theorem same_pairs_nil (ps : List (Int × Int)) : PySem.Spec.same (.list (ps.map pairD)) (.list []) = decide (ps = []) := by
  cases ps <;> simp [PySem.Spec.same, PySem.Spec.sameAll]

theorem Op.b {t : List Value → Sem Value} {ds : List T} {b b' : Bool} (e : b = b') (h : Op prog w A t ds (.bool b)) : Op prog w A t ds (.bool b') := e ▸ h
theorem Room.cl {n : Nat} (hr : Room A n) : A.units + 64 < cLine := by have := hr.u; show A.units + 64 < 9900; omega
theorem eq_str_ok {x y : Str} : Op prog w A (fun vs => compareOp .Eq (vs.getD 0 .none) (vs.getD 1 .none)) [.str x, .str y] (.bool (x == y)) := .two fun s X u v Q E ra rb hx hq => by
  obtain ⟨_, rfl⟩ := ra.p
  obtain ⟨_, rfl⟩ := rb.p
  exact PyProof.Rows.eq_str (hq _ _ (.refl s) (.bool _))
theorem ne_str_ok {x y : Str} : Op prog w A (fun vs => compareOp .NotEq (vs.getD 0 .none) (vs.getD 1 .none)) [.str x, .str y] (.bool (x != y)) := .two fun s X u v Q E ra rb hx hq => by
  obtain ⟨_, rfl⟩ := ra.p
  obtain ⟨_, rfl⟩ := rb.p
  exact PyProof.Rows.ne_str (hq _ _ (.refl s) (.bool _))
theorem eq_pairs_nil_ok {n : Nat} {ps : List (Int × Int)} (hr : Room A n) : Op prog w A (fun vs => compareOp .Eq (vs.getD 0 .none) (vs.getD 1 .none)) [.list (ps.map pairT), .list []] (.bool (decide (ps = []))) := .two fun s X u v Q E ra rb hx hq => by
  obtain ⟨_, _, rfl, ha, hl, hs⟩ := ra.p
  obtain ⟨_, _, rfl, hb, hl', hs'⟩ := rb.p
  obtain rfl := hs'.p
  obtain ⟨o, ho, hc, n, hd⟩ := hl.isList
  obtain ⟨o', ho', hc', n', hd'⟩ := hl'.isList
  refine PyProof.Rows.eq_dataH_same (Reads.list ho hc hd (reads_pairs ps hs)) (Reads.list ho' hc' hd' .nil) (shaped_pairs _) rfl hr.cl (noMix_pairs_nil _) ?_
  rw [show (fun p : Int × Int => PyData.tuple [.int p.1, .int p.2]) = pairD from rfl, same_pairs_nil]
  exact hq _ _ (.refl s) (.bool _)
theorem eq_tuple_ok {n : Nat} {xs ys : List T} {a b : List Int} (hr : Room A n) (e1 : intsOf xs = some a) (e2 : intsOf ys = some b) : Op prog w A (fun vs => compareOp .Eq (vs.getD 0 .none) (vs.getD 1 .none)) [.tuple xs, .tuple ys] (.bool (decide (a = b))) := .two fun s X u v Q E ra rb hx hq => by
  obtain ⟨_, _, rfl, ha, hl, hs⟩ := ra.p
  obtain ⟨_, _, rfl, hb, hl', hs'⟩ := rb.p
  refine PyProof.Rows.eq_dataH_same (reads_tup (isTuple_of hl) (intsOf_are e1 hs)) (reads_tup (isTuple_of hl') (intsOf_are e2 hs')) (shaped_tup _) (shaped_tup _) hr.cl (noMix_tup _ _) ?_
  rw [same_tup]
  exact hq _ _ (.refl s) (.bool _)
theorem ne_ints_ok {n : Nat} {xs ys : List T} {a b : List Int} (hr : Room A n) (e1 : intsOf xs = some a) (e2 : intsOf ys = some b) : Op prog w A (fun vs => compareOp .NotEq (vs.getD 0 .none) (vs.getD 1 .none)) [.list xs, .list ys] (.bool (!decide (a = b))) := .two fun s X u v Q E ra rb hx hq => by
  obtain ⟨_, _, rfl, ha, hl, hs⟩ := ra.p
  obtain ⟨_, _, rfl, hb, hl', hs'⟩ := rb.p
  exact PySem.W.ne_intsK hl.isList (intsOf_are e1 hs) hl'.isList (intsOf_are e2 hs') hr.cl (hq _ _ (.refl s) (.bool _))
theorem in_str_ok {x y : Str} : Op prog w A (fun vs => compareOp .In (vs.getD 0 .none) (vs.getD 1 .none)) [.str x, .str y] (.bool (!(Builtin.Str.occurrences y x 0 y.length 1).isEmpty)) := .two fun s X u v Q E ra rb hx hq => by
  obtain ⟨_, rfl⟩ := ra.p
  obtain ⟨_, rfl⟩ := rb.p
  exact PyProof.Rows.in_str (hq _ _ (.refl s) (.bool _))
theorem in_strs_ok {x : Str} {ys : List T} {l : List Str} (e : strsOf ys = some l) : Op prog w A (fun vs => compareOp .In (vs.getD 0 .none) (vs.getD 1 .none)) [.str x, .list ys] (.bool (l.any (· == x))) := .two fun s X u v Q E ra rb hx hq => by
  obtain ⟨_, rfl⟩ := ra.p
  obtain ⟨_, _, rfl, ha, hl, hs⟩ := rb.p
  exact PyProof.Rows.in_list_strs hl.isList (strsOf_are e hs) (hq _ _ (.refl s) (.bool _))
theorem in_dict_ok {k : Int} {es : List (Int × T)} : Op prog w A (fun vs => compareOp .In (vs.getD 0 .none) (vs.getD 1 .none)) [.int k, .dict es] (.bool (vat es k).isSome) := .two fun s X u v Q E ra rb hx hq => by
  obtain ⟨_, rfl⟩ := ra.p
  obtain ⟨_, _, rfl, ha, hm, hd, hs⟩ := rb.p
  refine wpAny_in_of (knd := intKind prog w) (intKind_is prog w k _) hm hd.mapOf (hq _ _ .toks ?_)
  rcases hs.vat k with ⟨x, y, e1, e2, r⟩ | ⟨e1, e2⟩
  · rw [e1, e2]; exact .bool _
  · rw [e1, e2]; exact .bool _
theorem is_none_ok {x : Int} : Op prog w A (fun vs => compareOp .Is (vs.getD 0 .none) (vs.getD 1 .none)) [.int x, .none] (.bool false) := .two fun s X u v Q E ra rb hx hq => by
  obtain ⟨_, rfl⟩ := ra.p
  obtain rfl := rb.p
  exact is_none (hq _ _ (.refl s) (.bool _))

/-- truth -/
def truthT : T → Option Bool
  | .int x => some (x != 0)
  | .bool b => some b
  | .list xs => some (!xs.isEmpty)
  | _ => none
theorem truthT_ok {d : T} {b : Bool} (h : truthT d = some b) (hl : ∀ xs, d = .list xs → xs.length ≤ 1000000) : OpT prog w A d b := fun s X v Q E r hq => by
  unfold truthT at h
  split at h
  · cases h; obtain ⟨_, rfl⟩ := r.p; exact PyProof.Rows.truthy_int (hq s (.refl s))
  · cases h; obtain rfl := r.p; exact wpAny_truthy_bool (hq s (.refl s))
  · rename_i xs
    cases h
    obtain ⟨a, vs, rfl, ha, hp, hs⟩ := r.p
    · have hlen := hs.length
      have := hl xs rfl
      refine wpAny_truthy_list hp.isList (by simp only [List.size_toArray]; omega) ?_
      have e : (!vs.toArray.isEmpty) = !xs.isEmpty := by
        cases xs with
        | nil => obtain rfl := hs.p; rfl
        | cons _ _ => obtain ⟨_, _, rfl, _, _⟩ := hs.p; simp
      rw [e]
      exact hq _ .toks
  · cases h

end Mine
set_option maxRecDepth 10000
namespace Mine
open PySem

variable {prog : Program} {w : World} {A : Around} {c : Cx} {ρ : Str → Option B}

theorem units_in (u n : Nat) (h : u + 20 * (n + 1) < 9000) : u + 1 + 20 * n < 9000 := Nat.lt_of_le_of_lt (by rw [Nat.mul_succ, Nat.add_assoc]; exact Nat.add_le_add_left (by rw [Nat.add_comm]; exact Nat.add_le_add_left (show 1 ≤ 20 by decide) _) u) h
theorem Room.in1 {A : Around} {n : Nat} (r : Room A (n + 1)) : Room A.in1 n := ⟨r.h, Nat.lt_of_succ_lt r.d, units_in _ _ r.u⟩

theorem small_of {n : Nat} (h : n ≤ 1000000) : (n : Int) < 2 ^ 63 := by omega
theorem len_list_ok {xs : List T} (h : xs.length ≤ 1000000) : Op prog w A (fun vs => call (.builtin "len") vs) [.list xs] (.int xs.length) :=
  .one fun s X u Q E ra hx hq => by
    · obtain ⟨a, vs, rfl, ha, hl, hs⟩ := ra.p
      refine PySem.Calls.call_len_list hl.isList (by simp only [List.size_toArray]; rw [hs.length]; exact small_of h) ?_
      have e : (vs.toArray.size : Int) = (xs.length : Int) := by simp only [List.size_toArray]; rw [hs.length]
      rw [e]
      exact hq _ _ .toks (.int _ _)
theorem len_bytes_ok {b : Array UInt8} (h : b.size ≤ 1000000) : Op prog w A (fun vs => call (.builtin "len") vs) [.bytes b] (.int b.size) :=
  .one fun s X u Q E ra hx hq => by
    cases ra with
    | bytes _ t => exact PySem.W.len_bytes (Nat.le_trans h (by decide)) (hq _ _ .toks (.int _ _))
theorem ints_at : ∀ {vs : List Value} {ns : List Int}, PyProof.Rows.IntsAre vs ns → ∀ (i : Nat) (v : Value), vs[i]? = some v → ∃ t, v = .int (ns.getD i 0) t
  | _, _, .nil, i, v, e => by simp at e
  | _, _, .cons n t h, 0, v, e => by simp at e; subst e; exact ⟨t, rfl⟩
  | _, _, .cons n t h, i + 1, v, e => by
    obtain ⟨u, hu⟩ := ints_at h i v (by simpa using e)
    exact ⟨u, by simpa using hu⟩
theorem sum_ok {xs : List T} {ns : List Int} (hh : A.handled = none) (h : intsOf xs = some ns) : Op prog w A (fun vs => call (.builtin "sum") vs) [.list xs] (.int ns.sum) :=
  .one fun s X u Q E ra hx hq => by
    · obtain ⟨a, vs, rfl, ha, hl, hs⟩ := ra.p
      have hi := intsOf_are h hs
      refine call_sum_walkG ?_
      obtain ⟨nn, hle⟩ := id hl
      have hlt := Heap.lt_size hle
      refine wpAny_pyIter_list hl.isList ?_
      have hne : a ≠ s.heap.objs.size := Nat.ne_of_lt hlt
      refine ⟨_, _, _, _, _, _, (fun j => ns.getD j 0), rfl, Walks.list (A := A.in1) hh s.heap.objs.size a hne vs.toArray, ⟨⟨_, Heap.get?_push_size _ rfl, rfl, rfl⟩, hl.isList.push _⟩, ?_, ?_, ?_⟩
      · intro b hb
        simp only [List.mem_cons, List.mem_nil_iff, or_false] at hb
        show b < (s.heap.push _).objs.size
        rw [Heap.size_push]
        rcases hb with rfl | rfl
        · exact Nat.lt_succ_self _
        · exact Nat.lt_succ_of_lt hlt
      · intro i v hv
        have hv' : vs[i]? = some v := by simpa using hv
        obtain ⟨t, e2⟩ := ints_at hi i v hv'
        exact ⟨t, e2⟩
      · intro h' tk t' hk
        have e : preSum (fun j => ns.getD j 0) vs.toArray.size = ns.sum := by
          rw [PyProof.Rows.preSum_getD, List.size_toArray, hi.length, List.take_length]
        rw [e]
        refine hq _ _ (.of fun b o e => ?_) (.int _ _)
        refine hk b o ?_ (Heap.get?_push_of_some _ e)
        simp only [List.mem_singleton]
        exact Nat.ne_of_lt (Heap.lt_size e)
theorem abs_ok {x : Int} : Op prog w A (fun vs => call (.builtin "abs") vs) [.int x] (.int x.natAbs) :=
  .int1 fun s tk Q E hq => PyProof.Rows.call_abs_int fun u tk' => by
    have e : (if x < 0 then -x else x) = (x.natAbs : Int) := by split <;> omega
    rw [e]
    exact hq _ _ .toks fun X => .int _ _
theorem max_ok {x y : Int} (hh : A.handled = none) : Op prog w A (fun vs => call (.builtin "max") vs) [.int x, .int y] (.int (max x y)) :=
  .int2 fun s tk uk Q E hq => max_two_ints hh fun h' tk' hk => by
    by_cases hc : y > x
    · rw [if_pos hc]
      have e : max x y = y := by omega
      rw [e] at hq
      exact hq _ _ (.of hk) fun X => .int _ _
    · rw [if_neg hc]
      have e : max x y = x := by omega
      rw [e] at hq
      exact hq _ _ (.of hk) fun X => .int _ _
theorem divmod_ok {x y : Int} (h : y ≠ 0 ∧ bits y ≤ 5000) : Op prog w A (fun vs => call (.builtin "divmod") vs) [.int x, .int y] (.tuple [.int (x.fdiv y), .int (x.fmod y)]) :=
  .two fun s X u v Q E ra rb hx hq => by
    obtain ⟨_, rfl⟩ := ra.p
    obtain ⟨_, rfl⟩ := rb.p
    refine PyProof.Rows.divmod_int h.1 (hq _ _ (.of fun _ _ e => Heap.get?_push_of_some _ e) (.tuple (vs := [_, _]) (fresh_notin hx) ⟨0, Heap.get?_push_size _ rfl⟩ (.cons (.int _ _) (.cons (.int _ _) .nil)))) (.inl (PyProof.noPylong_of_log2 ?_))
    have := h.2
    unfold bits Builtin.Int.intBits at this
    rw [if_neg (fun h0 => h.1 (beq_iff_eq.mp h0))] at this
    exact Nat.lt_of_lt_of_le (Nat.lt_succ_self _) (Nat.le_trans this (by decide))
theorem bytes_ok {xs : List T} {ns : List Int} (hh : A.handled = none) (h : intsOf xs = some ns) (hr : ∀ n ∈ ns, 0 ≤ n ∧ n < 256) (hz : xs.length ≤ 1000000) :
    Op prog w A (fun vs => call (.type "bytes") vs) [.list xs] (.bytes (PySem.byteArr ns)) :=
  .one fun s X u Q E ra hx hq => by
    · obtain ⟨_, _, rfl, ha, hl, hs⟩ := ra.p
      exact PySem.call_bytes_ints hl.isList (intsOf_are h hs) hr (by rw [hs.length]; exact Nat.le_trans hz (by decide)) hh fun h' t k hk => hq _ _ (.of hk) (.bytes _ _)

/-- methods -/
theorem bit_length_ok {x : Int} : Op prog w A (fun vs => call (.builtin "int.bit_length") vs) [.int x] (.int (bits x)) :=
  .int1 fun s tk Q E hq => PyProof.Rows.call_int_bit_length (kp_int hq)
theorem get_ok {es : List (Int × T)} {k : Int} {d : T} : Op prog w A (fun vs => call (.builtin "dict.get") vs) [.dict es, .int k, d] ((vat es k).getD d) :=
  .three fun s X u v z Q E ra rb rc hx hq => by
    · obtain ⟨_, rfl⟩ := rb.p
      obtain ⟨_, _, rfl, ha, hm, hd, hs⟩ := ra.p
      refine call_meetsIn PySem.F.slot_dict_get hd.mapOf.typeIs PySem.F.entry_dict_get (PySem.F.args_dict_get_3 _ _ _) (meets_dict_get_default (intKind prog w) _ (intKind_is prog w k _) hm z) ⟨_, hd.mapOf, ?_⟩
      refine hq _ _ .toks ?_
      rcases hs.vat k with ⟨x, y, e1, e2, r⟩ | ⟨e1, e2⟩
      · rw [e1, e2]; exact r
      · rw [e1, e2]; exact rc
def findS (x y : Str) : Int := match Builtin.Str.occurrences x y 0 x.length 1 with
  | i :: _ => (i : Int)
  | [] => -1
theorem find_ok {x y : Str} : Op prog w A (fun vs => call (.builtin "str.find") vs) [.str x, .str y] (.int (findS x y)) :=
  .str2 fun s tk uk Q E hq => call_gives F.slot_str_find (typeIs_str s x tk) F.entry_str_find (F.args_str_find_2 _ _) (gives_str_find x y tk uk) (kp_int hq)
theorem join_ok {x : Str} {xs : List T} {l : List Str} (h : strsOf xs = some l) (hz : (l.map (·.length)).sum + l.length * x.length ≤ 1000000) :
    Op prog w A (fun vs => call (.builtin "str.join") vs) [.str x, .list xs] (.str (Txt.join x l)) :=
  .two fun s X u v Q E ra rb hx hq => by
    obtain ⟨_, rfl⟩ := ra.p
    · obtain ⟨_, _, rfl, ha, hl, hs⟩ := rb.p
      exact PyProof.Rows.join_list hl.isList (by simpa using strsOf_are h hs) (Nat.le_trans hz (by decide)) fun t' k => hq _ _ .toks (.str _ _)
theorem index_ok {x : Str} {xs : List T} {l : List Str} {j : Nat} (h : strsOf xs = some l) (hj : l.findIdx? (· == x) = some j) (hz : xs.length ≤ 1000000) :
    Op prog w A (fun vs => call (.builtin "list.index") vs) [.list xs, .str x] (.int j) :=
  .two fun s X u v Q E ra rb hx hq => by
    · obtain ⟨t, rfl⟩ := rb.p
      obtain ⟨_, vs, rfl, ha, hl, hs⟩ := ra.p
      have hi := strsOf_are h hs
      obtain ⟨n, e⟩ := hl
      obtain ⟨hlt, hp, hno⟩ := List.findIdx?_eq_some_iff_getElem.mp hj
      have hlen : vs.length = l.length := hi.length
      have hjv : j < vs.toArray.size := by simp only [List.size_toArray]; exact hlen ▸ hlt
      have hget : ∀ m (hm : m < vs.toArray.size) (hm' : m < l.length), PyProof.Rows.isStrOf x vs.toArray[m] = (l[m] == x) := fun m hm hm' => by
        obtain ⟨t', e'⟩ := hi.get m l[m] (by simp)
        have e2 : vs.toArray[m] = .str l[m] t' := by
          have := (List.getElem?_eq_some_iff.mp e').2
          simpa using this
        rw [e2]; rfl
      refine call_meets F.slot_list_index ⟨_, e, rfl⟩ F.entry_list_index (F.args_list_index_2 _ _)
        (MeetsSeq.list_index _ vs.toArray n _ (PyProof.Rows.isStrOf x) (fun y hy => PyProof.Rows.eq_isStrOf x t hi y (by simpa using hy)) j hjv (by have := hs.length; omega) ?_ ?_) ⟨e, ?_⟩
      · rw [hget j hjv hlt]; exact hp
      · intro m hm hmj
        rw [hget m hm (Nat.lt_trans hmj hlt)]
        simpa using hno m hmj
      · exact hq _ _ .toks (.int _ _)

end Mine
set_option maxRecDepth 10000
namespace Mine
open PySem

variable {prog : Program} {w : World} {A : Around}

def upd (ρ : Str → Option B) (x : Str) (b : B) : Str → Option B := fun y => if y = x then some b else ρ y
def Tr (s s' : Shared) : Prop := ∃ h' tk, s' = { s with heap := h', toks := tk }
theorem Tr.refl (s : Shared) : Tr s s := ⟨_, _, rfl⟩
theorem Tr.trans {s s' s'' : Shared} (a : Tr s s') (b : Tr s' s'') : Tr s s'' := by
  obtain ⟨h1, t1, rfl⟩ := a
  obtain ⟨h2, t2, rfl⟩ := b
  exact ⟨h2, t2, rfl⟩
theorem Kp.tr {s s' : Shared} (a : Kp s s') : Tr s s' := by
  obtain ⟨⟨h1, t1, rfl, _⟩, _⟩ := a; exact ⟨_, _, rfl⟩

/-- what an assignment may store into -/
def canStore (ow : List (Str × Addr)) (env : Env) (x : Str) : Prop := env.kindOf x = some .local ∨ (env.kindOf x = some .cell ∧ ∃ a, env.cells.lookup x = some a ∧ ow.lookup x = some a)

theorem mem_cells {cells : List (Str × Addr)} {n : Str} {a : Addr} (h : cells.lookup n = some a) : a ∈ cells.map (·.2) := List.mem_map.mpr ⟨_, mem_of_lookup h, rfl⟩
theorem lookup_inj {cells : List (Str × Addr)} (hn : (cells.map (·.2)).Nodup) {n n' : Str} {a : Addr} (h : cells.lookup n = some a) (h' : cells.lookup n' = some a) : n = n' := by
  refine name_of_addr ?_ (mem_of_lookup h) (mem_of_lookup h')
  rw [List.Nodup, List.pairwise_map] at hn
  exact hn

section
variable {c : Cx} {ρ : Str → Option B} {s : Shared}

theorem InF.locals_in (F : InF prog w c ρ s) : c.env.locals ∈ c.X := by unfold Cx.X Cx.W; simp
theorem InF.ndW (F : InF prog w c ρ s) : c.W.Nodup := (List.nodup_append.mp F.nd).1
theorem InF.cells_in {n : Str} {a : Addr} (h : c.ow.lookup n = some a) : a ∈ c.W := by
  unfold Cx.W
  exact List.mem_cons_of_mem _ (List.mem_append_left _ (mem_cells h))
theorem InF.os_in {n : Str} {a : Addr} (h : c.os.lookup n = some a) : a ∈ c.W := by
  unfold Cx.W
  exact List.mem_cons_of_mem _ (List.mem_append_right _ (mem_cells h))
theorem InF.os_ne (F : InF prog w c ρ s) {n : Str} {a : Addr} (h : c.os.lookup n = some a) : a ≠ c.env.locals := by
  have := F.ndW
  unfold Cx.W at this
  intro e
  exact (List.nodup_cons.mp this).1 (e ▸ List.mem_append_right _ (mem_cells h))
theorem InF.os_ne_cells (F : InF prog w c ρ s) {n k : Str} {a b : Addr} (h : c.os.lookup n = some a) (h' : c.env.cells.lookup k = some b) : a ≠ b := fun e => (F.ce k b h').2 (e ▸ mem_cells h)
theorem InF.os_nd (F : InF prog w c ρ s) : (c.os.map (·.2)).Nodup := by
  have := F.ndW
  unfold Cx.W at this
  exact (List.nodup_append.mp (List.nodup_cons.mp this).2).2.1

/-- one object of the writable ones is turned -/
theorem InF.turned (F : InF prog w c ρ s) {b : Addr} {h' : Heap} {tk : Nat} (hb : b ∈ c.W) (hs : Heap.SameBut b s.heap h') (hg : ∃ o, h'.get? b = some o ∧ XO o) (ht : 1 ≤ tk)
    {m cm : Str → Option Value} {ρ' : Str → Option B} (hns : h'.Ns c.env.locals m) (hcl : ∀ n a, c.env.cells.lookup n = some a → h'.IsCell a (cm n))
    (hnm : ∀ x b, ρ' x = some b → ∃ v, Cx.Bd { c with m := m, cm := cm } x v ∧ match b with
      | .v d => R prog w h' c.X v d
      | .o d => ∃ a, v = .ref a ∧ c.os.lookup x = some a ∧ RO prog w h' c.X a d) :
    InF prog w { c with m := m, cm := cm } ρ' { s with heap := h', toks := tk } where
  tk := ht
  ek := F.ek
  eg := F.eg
  eb := F.eb
  gP := F.gP
  Pn := F.Pn
  Ph := fun a o e => by
    have hne : a ≠ b := fun e' => F.PW a o e (e' ▸ hb)
    exact (hs.2 a hne).trans (F.Ph a o e)
  PW := F.PW
  nd := F.nd
  ex := fun a ha => by
    by_cases e : a = b
    · rw [e]; exact hg
    · obtain ⟨o, ho, n⟩ := F.ex a ha
      exact ⟨o, (hs.2 a e).trans ho, n⟩
  ns := hns
  cl := hcl
  ce := F.ce
  cd := F.cd
  ti := F.ti.same hs (F.ex b (List.mem_append_left _ hb))
  nm := hnm

theorem notin_X {a b : Addr} (hb : b ∈ c.W) (ha : a ∉ c.X) : a ≠ b := fun e => ha (e ▸ List.mem_append_left _ hb)
theorem R.turned {b : Addr} {h' : Heap} {v : Value} {d : T} (hb : b ∈ c.W) (hs : Heap.SameBut b s.heap h') (r : R prog w s.heap c.X v d) : R prog w h' c.X v d :=
  r.mono (fun a o ha e => (hs.2 a (notin_X hb ha)).trans e) fun _ h _ => h
theorem RO.turned {a b : Addr} {h' : Heap} {d : T} (hb : b ∈ c.W) (hab : a ≠ b) (hs : Heap.SameBut b s.heap h') (r : RO prog w s.heap c.X a d) : RO prog w h' c.X a d :=
  r.mono (fun a o ha e => (hs.2 a (notin_X hb ha)).trans e) (fun _ h _ => h) fun o e => (hs.2 a hab).trans e

theorem InF.storeB {M : Model} {A : Around} {x : Str} {v : Value} {b₀ : B} {Q : Unit → Shared → Prop} {E : Value → Shared → Prop} (F : InF prog w c ρ s) (hk : canStore c.ow c.env x) (r : match b₀ with
      | .v d => R prog w s.heap c.X v d
      | .o d => ∃ a, v = .ref a ∧ c.os.lookup x = some a ∧ RO prog w s.heap c.X a d)
    (hq : ∀ m cm s', Tr s s' → (∀ a o, a ∉ c.X → s.heap.get? a = some o → s'.heap.get? a = some o) → InF prog w { c with m := m, cm := cm } (upd ρ x b₀) s' → Q () s') : wpAny M A (storeName c.env x v) Q E s := by
  have hp : (c.env.scope.kind == .class || (c.env.scope.kind == .module && c.env.locals != c.env.globals)) = false := by rw [F.ek]; rfl
  have hL : c.env.locals ∈ c.W := by unfold Cx.W; simp
  rcases hk with hk | ⟨hk, a, ha, hw⟩
  · refine wpAny_storeName_local hk F.ns (fun h' hn hs => ?_) hp
    refine hq _ c.cm _ ⟨_, _, rfl⟩ (fun a o ha e => (hs.2 a (notin_X hL ha)).trans e) (F.turned hL hs (let ⟨o, _, _, e, d, _⟩ := hn; ⟨o, e, .dict d⟩) (Nat.le_succ_of_le F.tk) hn (fun n a e => (F.cl n a e).sameBut hs (F.ce n a e).1) fun y b hy => ?_)
    unfold upd at hy
    by_cases hyx : y = x
    · subst hyx
      rw [if_pos rfl] at hy
      cases hy
      refine ⟨v, .inl ⟨hk, by simp⟩, ?_⟩
      cases b₀ with
      | v d => exact R.turned hL hs r
      | o d => obtain ⟨a', e1, e2, r'⟩ := r; exact ⟨a', e1, e2, r'.turned hL (F.os_ne e2) hs⟩
    · rw [if_neg hyx] at hy
      obtain ⟨v', hb, hd⟩ := F.nm y b hy
      refine ⟨v', ?_, ?_⟩
      · rcases hb with ⟨h1, h2⟩ | h1
        · exact .inl ⟨h1, by simp only [hyx, if_false]; exact h2⟩
        · exact .inr h1
      · cases b with
        | v d' => exact hd.turned hL hs
        | o d' => obtain ⟨a', e1, e2, r'⟩ := hd; exact ⟨a', e1, e2, r'.turned hL (F.os_ne e2) hs⟩
  · have haW := InF.cells_in hw
    refine wpAny_storeName_cell F.ek hk ha (F.cl x a ha) fun h' hc hs => ?_
    refine hq c.m (fun y => if y = x then some v else c.cm y) _ ⟨_, _, rfl⟩ (fun a o ha e => (hs.2 a (notin_X haW ha)).trans e) (F.turned haW hs (let ⟨o, e, d⟩ := hc; ⟨o, e, .cell d⟩) F.tk (F.ns.sameBut hs (Ne.symm (F.ce _ _ ha).1)) (fun n a' e => ?_) fun y b hy => ?_)
    · by_cases hn : n = x
      · subst hn
        rw [ha] at e; cases e
        simpa using hc
      · rw [if_neg hn]
        exact (F.cl n a' e).sameBut hs fun e' => hn (lookup_inj (F.cd) e (e' ▸ ha))
    · unfold upd at hy
      by_cases hyx : y = x
      · subst hyx
        rw [if_pos rfl] at hy
        cases hy
        refine ⟨v, .inr ⟨.inl hk, ⟨a, ha⟩, by simp⟩, ?_⟩
        cases b₀ with
        | v d => exact R.turned haW hs r
        | o d => obtain ⟨a', e1, e2, r'⟩ := r; exact ⟨a', e1, e2, r'.turned haW (F.os_ne_cells e2 ha) hs⟩
      · rw [if_neg hyx] at hy
        obtain ⟨v', hb, hd⟩ := F.nm y b hy
        refine ⟨v', ?_, ?_⟩
        · rcases hb with h1 | ⟨h1, h2, h3⟩
          · exact .inl h1
          · exact .inr ⟨h1, h2, by simp only [hyx, if_false]; exact h3⟩
        · cases b with
          | v d' => exact hd.turned haW hs
          | o d' => obtain ⟨a', e1, e2, r'⟩ := hd; exact ⟨a', e1, e2, r'.turned haW (F.os_ne_cells e2 ha) hs⟩

theorem InF.store {M : Model} {A : Around} {x : Str} {v : Value} {d : T} {Q : Unit → Shared → Prop} {E : Value → Shared → Prop} (F : InF prog w c ρ s) (hk : canStore c.ow c.env x) (r : R prog w s.heap c.X v d)
    (hq : ∀ m cm s', Tr s s' → InF prog w { c with m := m, cm := cm } (upd ρ x (.v d)) s' → Q () s') : wpAny M A (storeName c.env x v) Q E s := F.storeB (b₀ := .v d) hk r fun m cm s' t _ F' => hq m cm s' t F'

def del (ρ : Str → Option B) (x : Str) : Str → Option B := fun y => if y = x then none else ρ y
theorem upd_del (ρ : Str → Option B) (x : Str) (b : B) : upd (del ρ x) x b = upd ρ x b := by
  funext y; unfold upd del; by_cases h : y = x <;> simp [h]

/-- a new object becomes a name's own -/
theorem mem_own {x : Str} {a b : Addr} : b ∈ Cx.X { c with os := (x, a) :: c.os } ↔ b = a ∨ b ∈ c.X := by
  unfold Cx.X Cx.W
  simp only [List.map_cons, List.mem_append, List.mem_cons]
  constructor <;> intro h <;> (repeat' (first | rcases h with h | h)) <;> simp_all
theorem InF.own {s₁ : Shared} (F : InF prog w c ρ s) (k : Kp s s₁) (x : Str) {a : Addr} (ha : s.heap.objs.size ≤ a) (hg : ∃ o, s₁.heap.get? a = some o ∧ XO o) :
    InF prog w { c with os := (x, a) :: c.os } (del ρ x) s₁ := by
  have hax : a ∉ c.X := fun hm => by
    obtain ⟨o, e, _⟩ := F.ex a hm
    exact Nat.lt_irrefl _ (Nat.lt_of_lt_of_le (Heap.lt_size e) ha)
  have F₁ := F.keep k
  have up : ∀ b o, b ∉ c.X → NT b o → s.heap.get? b = some o → b ∉ Cx.X { c with os := (x, a) :: c.os } := fun b o hb _ he hm => by
    have hlt := Heap.lt_size he
    rcases mem_own.mp hm with e | e
    · subst e; exact Nat.lt_irrefl _ (Nat.lt_of_lt_of_le hlt ha)
    · exact hb e
  refine { tk := F₁.tk, ek := F₁.ek, eg := F₁.eg, eb := F₁.eb, gP := F₁.gP, Pn := F₁.Pn, Ph := F₁.Ph, PW := fun b o e hm => ?_, nd := ?_, ex := fun b hb => ?_, ns := F₁.ns, cl := F₁.cl, cd := F₁.cd, ti := F₁.ti, ce := fun n b e => ⟨(F₁.ce n b e).1, fun hm => (by
    rcases List.mem_cons.mp hm with h | h
    · have this := (F.cl n b e).lt; exact absurd (Nat.lt_of_lt_of_le this ha) (by rw [show b = a from h]; exact Nat.lt_irrefl _)
    · exact (F₁.ce n b e).2 h)⟩, nm := fun y b hy => ?_ }
  · have hlt := Heap.lt_size (F.Ph b o e)
    have := mem_own.mp (List.mem_append_left _ hm)
    rcases this with e' | e'
    · subst e'; exact Nat.lt_irrefl _ (Nat.lt_of_lt_of_le hlt ha)
    · have hW := F.PW b o e
      unfold Cx.W at hm hW
      simp only [List.map_cons, List.mem_append, List.mem_cons, not_or] at hm hW
      rcases hm with h1 | h1 | h1 | h1
      · exact hW.1 h1
      · exact hW.2.1 h1
      · exact (Nat.lt_irrefl _ (Nat.lt_of_lt_of_le (h1 ▸ hlt) ha))
      · exact hW.2.2 h1
  · have hn := F.nd
    have e : Cx.X { c with os := (x, a) :: c.os } = (c.env.locals :: c.ow.map (·.2)) ++ a :: (c.os.map (·.2) ++ c.V) := by
      unfold Cx.X Cx.W; simp
    have e' : c.X = (c.env.locals :: c.ow.map (·.2)) ++ (c.os.map (·.2) ++ c.V) := by
      unfold Cx.X Cx.W; simp
    rw [e]
    rw [e'] at hn hax
    rw [List.nodup_append] at hn ⊢
    refine ⟨hn.1, List.nodup_cons.mpr ⟨fun h => hax (List.mem_append_right _ h), hn.2.1⟩, fun b hb b' hb' e => ?_⟩
    rcases List.mem_cons.mp hb' with h | h
    · exact hax (List.mem_append_left _ (h ▸ e ▸ hb))
    · exact hn.2.2 b hb b' h e
  · rcases mem_own.mp hb with e | e
    · exact e ▸ hg
    · exact F₁.ex b e
  · unfold del at hy
    by_cases hyx : y = x
    · rw [if_pos hyx] at hy; cases hy
    · rw [if_neg hyx] at hy
      obtain ⟨v, hb, hd⟩ := F.nm y b hy
      refine ⟨v, hb, ?_⟩
      cases b with
      | v d => exact R.monoN (fun b o _ n e => k.heap b o n e) up hd
      | o d =>
        obtain ⟨a', e1, e2, r⟩ := hd
        refine ⟨a', e1, ?_, RO.monoN (fun b o _ n e => k.heap b o n e) up (fun o n e => k.heap _ o n e) r⟩
        have : (y == x) = false := by simpa using hyx
        show List.lookup y ((x, a) :: c.os) = some a'
        rw [List.lookup_cons, this]; exact e2

/-- nothing is owned any more -/
def dis (ρ : Str → Option B) : Str → Option B := fun y => match ρ y with
  | some (.o d) => some (.v d)
  | r => r
theorem RO.toR {h : Heap} {X X' : List Addr} {a : Addr} {d : T} (ha : a ∉ X') (hx : ∀ b, b ∉ X → b ∉ X') (r : RO prog w h X a d) : R prog w h X' (.ref a) d := by
  cases d with
  | list ds => obtain ⟨vs, h1, h2⟩ := r; exact .list ha h1 (h2.mono (fun _ _ _ e => e) fun b hb _ => hx b hb)
  | dict es => obtain ⟨kvs, h0, h1, h2⟩ := r; exact .dict ha h0 h1 (h2.mono (fun _ _ _ e => e) fun b hb _ => hx b hb)
  | barr b => exact .barr ha r
  | none => exact r.elim
  | bool _ => exact r.elim
  | int _ => exact r.elim
  | str _ => exact r.elim
  | bytes _ => exact r.elim
  | tuple _ => exact r.elim
  | obj _ => exact r.elim
theorem mem_dis {b : Addr} (h : b ∈ Cx.X { c with os := [] }) : b ∈ c.X := by
  unfold Cx.X Cx.W at h ⊢
  simp only [List.map_nil, List.append_nil, List.mem_append, List.mem_cons] at h ⊢
  rcases h with (h | h) | h
  · exact .inl (.inl h)
  · exact .inl (.inr (.inl h))
  · exact .inr h
theorem InF.dis (F : InF prog w c ρ s) : InF prog w { c with os := [] } (Mine.dis ρ) s := by
  have hsub : ∀ b, b ∉ c.X → b ∉ Cx.X { c with os := [] } := fun b hb hm => hb (mem_dis hm)
  refine { tk := F.tk, ek := F.ek, eg := F.eg, eb := F.eb, gP := F.gP, Pn := F.Pn, Ph := F.Ph, PW := fun b o e hm => ?_, nd := ?_, ex := fun b hb => F.ex b (mem_dis hb), ns := F.ns, cl := F.cl, cd := F.cd, ti := F.ti, ce := fun n b e => ⟨(F.ce n b e).1, List.not_mem_nil⟩, nm := fun y b hy => ?_ }
  · have hW := F.PW b o e
    unfold Cx.W at hm hW
    simp only [List.map_nil, List.append_nil, List.mem_append, List.mem_cons, not_or] at hm hW
    rcases hm with h | h
    · exact hW.1 h
    · exact hW.2.1 h
  · have hn := F.nd
    unfold Cx.X Cx.W at hn ⊢
    simp only [List.map_nil, List.append_nil]
    refine hn.sublist ?_
    refine List.Sublist.append ?_ (List.Sublist.refl _)
    exact List.Sublist.cons_cons _ (List.sublist_append_left _ _)
  · unfold Mine.dis at hy
    cases e : ρ y with
    | none => rw [e] at hy; cases hy
    | some b' =>
      obtain ⟨v, hb, hd⟩ := F.nm y b' e
      rw [e] at hy
      cases b' with
      | v d => cases hy; exact ⟨v, hb, R.mono (fun _ _ _ e => e) (fun b hb _ => hsub b hb) hd⟩
      | o d =>
        cases hy
        obtain ⟨a, rfl, e2, r⟩ := hd
        refine ⟨_, hb, r.toR (fun hm => ?_) hsub⟩
        have hn := F.nd
        unfold Cx.X Cx.W at hn hm
        simp only [List.map_nil, List.append_nil, List.mem_append, List.mem_cons] at hm
        have ho : a ∈ c.os.map (·.2) := mem_cells e2
        rw [show (c.env.locals :: (c.ow.map (·.2) ++ c.os.map (·.2))) ++ c.V = (c.env.locals :: c.ow.map (·.2)) ++ (c.os.map (·.2) ++ c.V) from by simp] at hn
        rw [List.nodup_append] at hn
        rcases hm with h | h
        · exact hn.2.2 a (List.mem_cons.mpr h) a (List.mem_append_left _ ho) rfl
        · exact (List.nodup_append.mp hn.2.1).2.2 a ho a h rfl
end

end Mine
set_option maxRecDepth 10000
namespace Mine
open PySem

variable {prog : Program} {w : World} {A : Around}

inductive Out where
  | next (ρ : Str → Option B)
  | ret (d : T)

def Post (prog : Program) (w : World) (g : Heap) (P : Addr → Obj → Prop) (env : Env) (ow : List (Str × Addr)) (V : List Addr) (s : Shared) (o : Out) (Q : Flow → Shared → Prop) : Prop := match o with
  | .next ρ' => ∀ os m cm s', Tr s s' → InF prog w ⟨g, P, env, ow, V, os, m, cm⟩ ρ' s' → Q .next s'
  | .ret d => ∀ v s', Tr s s' → (∀ b o, P b o → s'.heap.get? b = some o) → (∀ b ∈ V, ∃ o, s'.heap.get? b = some o ∧ XO o) → TI s'.heap → R prog w s'.heap V v d → Q (.ret v) s'

def Ex1 (prog : Program) (w : World) (A : Around) (g : Heap) (env : Env) (ow : List (Str × Addr)) (V : List Addr) (ρ : Str → Option B) (st : Stmt) (o : Out) : Prop :=
  ∀ P os m cm s (Q : Flow → Shared → Prop) (E : Value → Shared → Prop), InF prog w ⟨g, P, env, ow, V, os, m, cm⟩ ρ s → Post prog w g P env ow V s o Q → wpAny (model prog w) A (exec st env) Q E s
def Ex (prog : Program) (w : World) (A : Around) (g : Heap) (env : Env) (ow : List (Str × Addr)) (V : List Addr) (ρ : Str → Option B) (ss : List Stmt) (o : Out) : Prop :=
  ∀ P os m cm s (Q : Flow → Shared → Prop) (E : Value → Shared → Prop), InF prog w ⟨g, P, env, ow, V, os, m, cm⟩ ρ s → Post prog w g P env ow V s o Q → wpAny (model prog w) A (execs ss env) Q E s

abbrev EvE (prog : Program) (w : World) (A : Around) (g : Heap) (env : Env) (ρ : Str → Option B) (e : Expr) (d : T) : Prop := ∀ c : Cx, c.env = env → c.g = g → Ev prog w A c ρ e d
abbrev EvTE (prog : Program) (w : World) (A : Around) (g : Heap) (env : Env) (ρ : Str → Option B) (e : Expr) (b : Bool) : Prop := ∀ c : Cx, c.env = env → c.g = g → EvT prog w A c ρ e b

variable {g : Heap} {env : Env} {ow : List (Str × Addr)} {V : List Addr} {ρ : Str → Option B}

theorem Post.mono {P : Addr → Obj → Prop} {s s' : Shared} {o : Out} {Q : Flow → Shared → Prop} (k : Tr s s') (h : Post prog w g P env ow V s o Q) : Post prog w g P env ow V s' o Q := by
  cases o with
  | next ρ' => exact fun os m cm s'' t F => h os m cm s'' (k.trans t) F
  | ret d => exact fun v s'' t hp hv ti r => h v s'' (k.trans t) hp hv ti r

theorem Ex.nil : Ex prog w A g env ow V ρ [] (.next ρ) := fun P os m cm s Q E F h => wpAny_execs_nil (h os m cm s (.refl s) F)
theorem Ex.cons_next {st : Stmt} {rest : List Stmt} {ρ' : Str → Option B} {o : Out} (h1 : Ex1 prog w A g env ow V ρ st (.next ρ')) (h2 : Ex prog w A g env ow V ρ' rest o) : Ex prog w A g env ow V ρ (st :: rest) o :=
  fun P os m cm s Q E F h => wpAny_execs_cons (h1 P os m cm s _ E F fun os' m' cm' s' t F' => h2 P os' m' cm' s' Q E F' (h.mono t))
theorem Ex.cons_ret {st : Stmt} {rest : List Stmt} {d : T} (h1 : Ex1 prog w A g env ow V ρ st (.ret d)) : Ex prog w A g env ow V ρ (st :: rest) (.ret d) :=
  fun P os m cm s Q E F h => wpAny_execs_cons (h1 P os m cm s _ E F fun v s' t hp hv ti r => h v s' t hp hv ti r)

theorem Ex1.pass {p : Pos} : Ex1 prog w A g env ow V ρ (.Pass p) (.next ρ) := fun P os m cm s Q E F h => wpAny_Pass (h os m cm s (.refl s) F)

def notComp : Expr → Bool
  | .ListComp .. | .SetComp .. | .DictComp .. => false
  | _ => true
theorem swapsWith_plain {e : Expr} {t : Option Expr} {n : Nat} {env : Env} (h : notComp e = true) : swapsWith e t n env = pure false := by
  cases e <;> first | rfl | (simp [notComp] at h)

theorem Ex1.assign {x : Str} {px pos : Pos} {e : Expr} {d : T} (hc : swapsWith e (some (.Name x px)) pos.line env = pure false) (hk : canStore ow env x) (he : EvE prog w A g env ρ e d) :
    Ex1 prog w A g env ow V ρ (.Assign [.Name x px] e pos) (.next (upd ρ x (.v d))) := fun P os m cm s Q E F h => by
  refine wpAny_Assign_Name ?_ hc
  refine he _ rfl rfl s _ _ F fun v s1 k1 r1 => (F.keep k1).store hk r1 fun m' cm' s2 t2 F2 => h os m' cm' s2 (k1.tr.trans t2) F2

/-- with everything given up that was owned -/
theorem Ex1.ofDis {st : Stmt} {o : Out} (h : Ex1 prog w A g env ow V (dis ρ) st o) : Ex1 prog w A g env ow V ρ st o := fun P os m cm s Q E F hq =>
  h P [] m cm s Q E F.dis hq

theorem X_dropW {c : Cx} {b : Addr} (h : b ∉ c.X) : b ∉ c.V := fun hm => h (List.mem_append_right _ hm)

theorem Ex1.ret {e : Expr} {pos : Pos} {d : T} (he : EvE prog w A g env (dis ρ) e d) : Ex1 prog w A g env ow V ρ (.Return (some e) pos) (.ret d) := fun P os m cm s Q E F h => by
  refine wpAny_Return_some (he _ rfl rfl s _ _ F.dis fun v s1 k1 r1 => ?_)
  have F1 := F.keep k1
  exact h v s1 k1.tr (fun b o hb => F1.Ph b o hb) (fun b hb => F1.ex b (List.mem_append_right _ hb)) F1.ti (r1.sub fun a ha _ => X_dropW ha)
theorem Ex1.retNone {pos : Pos} : Ex1 prog w A g env ow V ρ (.Return none pos) (.ret .none) := fun P os m cm s Q E F h => by
  exact wpAny_Return_none (h _ s (.refl s) F.Ph (fun b hb => F.ex b (List.mem_append_right _ hb)) F.ti .none)

theorem Ex1.ite {t : Expr} {x y : List Stmt} {pos : Pos} {b : Bool} {o : Out} (ht : EvTE prog w A g env ρ t b) (hx : b = true → Ex prog w A g env ow V ρ x o) (hy : b = false → Ex prog w A g env ow V ρ y o) :
    Ex1 prog w A g env ow V ρ (.If t x y pos) o := fun P os m cm s Q E F h => by
  refine wpAny_If (ht _ rfl rfl s _ _ F fun s1 k1 => ?_)
  cases b with
  | true => exact hx rfl P os m cm s1 Q E (F.keep k1) (h.mono k1.tr)
  | false => exact hy rfl P os m cm s1 Q E (F.keep k1) (h.mono k1.tr)

/-- x op= e, ints -/
def augI : Operator → Int → Int → Option T
  | .Add, x, y => some (.int (x + y))
  | .Sub, x, y => some (.int (x - y))
  | .Mult, x, y => if bits x ≤ 100000 ∧ bits y ≤ 100000 then some (.int (x * y)) else none
  | _, _, _ => none
def augop (op : Operator) : T → T → Option T
  | .int x, .int y => augI op x y
  | _, _ => none
theorem augI_ok {op : Operator} {x y : Int} {d : T} (h : augI op x y = some d) : Op prog w A (fun vs => inplaceOp op (vs.getD 0 .none) (vs.getD 1 .none)) [.int x, .int y] d := by
  cases op with
  | Add => cases h; exact .int2 fun s tk uk Q E hq => wpAny_iadd_int (kp_int hq)
  | Sub => cases h; exact .int2 fun s tk uk Q E hq => PyProof.Rows.isub_int (kp_int hq)
  | Mult =>
    obtain ⟨hc, rfl⟩ := if_some h
    exact .int2 fun s tk uk Q E hq => PyProof.Rows.imul_int (kp_int hq) (IntMulOk.of_bits (Nat.le_trans hc.1 (by decide)) (Nat.le_trans hc.2 (by decide)))
  | _ => cases h
theorem augop_ok {op : Operator} {a b d : T} (h : augop op a b = some d) : Op prog w A (fun vs => inplaceOp op (vs.getD 0 .none) (vs.getD 1 .none)) [a, b] d := by
  cases a with
  | int x => cases b with
    | int y => exact augI_ok h
    | _ => cases h
  | _ => cases h

theorem Ex1.aug {x : Str} {px pos : Pos} {op : Operator} {e : Expr} {a b d : T} (hx : ρ x = some (.v a)) (hn : plainName x = true) (hk : canStore ow env x) (he : EvE prog w A g env ρ e b) (ho : augop op a b = some d) :
    Ex1 prog w A g env ow V ρ (.AugAssign (.Name x px) op e pos) (.next (upd ρ x (.v d))) := fun P os m cm s Q E F h => by
  obtain ⟨v0, hb, r0⟩ := F.nm x _ hx
  refine wpAny_AugAssign_Name (load_bd F hb (plainName_2 hn) ?_)
  refine he _ rfl rfl s _ _ F fun v s1 k1 r1 => ?_
  refine withTok (F.keep k1).tk (augop_ok (prog := prog) (w := w) (A := A) ho s1 _ [v0, v] _ _ (.cons (r0.keep k1.heap) (.cons r1 .nil)) (F.keep k1).ex fun v2 s2 k2 r2 t2 => ?_)
  have k3 := k1.trans (k2.up t2)
  exact (F.keep k3).store hk r2 fun m' cm' s3 t3 F3 => h os m' cm' s3 (k3.tr.trans t3) F3

/-- reading what is owned -/
theorem InF.readO {c : Cx} {ρ : Str → Option B} {s : Shared} {x : Str} {d : T} (F : InF prog w c ρ s) (hx : ρ x = some (.o d)) :
    ∃ a X, c.Bd x (.ref a) ∧ c.os.lookup x = some a ∧ RO prog w s.heap c.X a d ∧ R prog w s.heap X (.ref a) d ∧ ∀ b ∈ X, ∃ o, s.heap.get? b = some o ∧ XO o := by
  obtain ⟨v, hb, a, rfl, e2, r⟩ := F.nm x _ hx
  refine ⟨a, c.X.filter (· ≠ a), hb, e2, r, r.toR (by simp) (fun b hb hm => hb (List.mem_filter.mp hm).1), fun b hb => F.ex b (List.mem_filter.mp hb).1⟩

def flat : T → Bool
  | .none | .bool _ | .int _ | .str _ | .bytes _ => true
  | _ => false
theorem R.flat {h h' : Heap} {X X' : List Addr} {v : Value} {d : T} (hf : Mine.flat d = true) (r : R prog w h X v d) : R prog w h' X' v d := by
  have p := r.p
  cases d with
  | none => obtain rfl := p; exact .none
  | bool b => obtain rfl := p; exact .bool b
  | int i => obtain ⟨t, rfl⟩ := p; exact .int i t
  | str i => obtain ⟨t, rfl⟩ := p; exact .str i t
  | bytes i => obtain ⟨t, rfl⟩ := p; exact .bytes i t
  | _ => cases hf

theorem Ev.subO {c : Cx} {ρ : Str → Option B} {x : Str} {px pos : Pos} {slice : Expr} {a b d : T} (hx : ρ x = some (.o a)) (hn : plainName x = true) (hd : subT a = true) (hs : Ev prog w A c ρ slice b) (hf : flat d = true)
    (ho : item a b = some d) : Ev prog w A c ρ (.Subscript (.Name x px) slice pos) d := fun s Q E F hq => by
  obtain ⟨ad, X, hb, e2, r, rr, hX⟩ := F.readO hx
  rw [eval_Subscript]
  refine wpAny_bind (wpAny_Name (load_bd F hb (plainName_2 hn) (wpAny_bind (wpAny_holding (hs s _ _ F fun v2 s2 k2 r2 => wpAny_bind (wpAny_standAt ?_))))) (plainName_1 hn))
  refine (rr.keep k2.heap).subTail hd (withTok (F.keep k2).tk (item_ok (prog := prog) (w := w) (A := A) ho s2 X [.ref ad, v2] _ _ (.cons (rr.keep k2.heap) (.cons (X := X) ?_ .nil)) (fun b hb => let ⟨o, e, n⟩ := hX b hb; ⟨o, k2.heap _ _ n.1 e, n⟩)
    fun v s3 k3 r3 t3 => hq v s3 (k2.trans (k3.up t3)) (r3.flat hf)))
  · cases b with
    | int i => exact R.flat rfl r2
    | _ => cases ho

theorem EvT.inO {c : Cx} {ρ : Str → Option B} {x : Str} {px pos : Pos} {l : Expr} {k : Int} {es : List (Int × T)} (hx : ρ x = some (.o (.dict es))) (hn : plainName x = true) (hl : Ev prog w A c ρ l (.int k)) :
    EvT prog w A c ρ (.Compare l [.In] [.Name x px] pos) (vat es k).isSome := fun s Q E F hq =>
  wpAny_isTrue_Compare1 (hm := rfl) (hl s _ _ F fun v1 s1 k1 r1 => by
    obtain ⟨ad, X, hb, e2, r, rr, hX⟩ := (F.keep k1).readO hx
    refine wpAny_Name (load_bd (F.keep k1) hb (plainName_2 hn) ?_) (plainName_1 hn)
    refine withTok (F.keep k1).tk (in_dict_ok (prog := prog) (w := w) (A := A) (k := k) (es := es) s1 X [v1, .ref ad] _ _ (.cons (R.flat rfl r1) (.cons rr .nil)) hX fun v s3 k3 r3 t3 => ?_)
    obtain rfl := r3.p
    exact wpAny_truthy_bool (hq s3 (k1.trans (k3.up t3))))

end Mine
set_option maxRecDepth 10000
namespace Mine
open PySem

variable {prog : Program} {w : World} {A : Around} {g : Heap} {env : Env} {ow : List (Str × Addr)} {V : List Addr} {ρ : Str → Option B}

theorem InF.mutate {c : Cx} {s : Shared} {x : Str} {d d' : T} {a : Addr} {h' : Heap} {tk : Nat} (F : InF prog w c ρ s) (hx : ρ x = some (.o d)) (ha : c.os.lookup x = some a) (hb : c.Bd x (.ref a))
    (hs : Heap.SameBut a s.heap h') (ht : 1 ≤ tk) (r : RO prog w h' c.X a d') (hg : ∃ o, h'.get? a = some o ∧ XO o) : InF prog w c (upd ρ x (.o d')) { s with heap := h', toks := tk } := by
  have haW := InF.os_in ha
  refine F.turned (m := c.m) (cm := c.cm) haW hs hg ht (F.ns.sameBut hs (Ne.symm (F.os_ne ha))) (fun n b e => (F.cl n b e).sameBut hs (Ne.symm (F.os_ne_cells ha e))) fun y b hy => ?_
  unfold upd at hy
  by_cases hyx : y = x
  · subst hyx
    rw [if_pos rfl] at hy; cases hy
    exact ⟨_, hb, a, rfl, ha, r⟩
  · rw [if_neg hyx] at hy
    obtain ⟨v, hb', hd⟩ := F.nm y b hy
    refine ⟨v, hb', ?_⟩
    cases b with
    | v d1 => exact R.turned haW hs hd
    | o d1 =>
      obtain ⟨a1, e1, e2, r1⟩ := hd
      refine ⟨a1, e1, e2, r1.turned haW (fun e => hyx ?_) hs⟩
      exact lookup_inj F.os_nd e2 (e ▸ ha)

theorem ro_get {h : Heap} {X : List Addr} {a : Addr} {d : T} (r : RO prog w h X a d) : ∃ o, h.get? a = some o := by
  cases d with
  | list ds => obtain ⟨vs, ⟨n, h1⟩, h2⟩ := r; exact ⟨_, h1⟩
  | dict es => obtain ⟨kvs, h0, ⟨o, _, _, e, _⟩, h2⟩ := r; exact ⟨_, e⟩
  | barr b => exact ⟨_, r⟩
  | none => exact r.elim
  | bool _ => exact r.elim
  | int _ => exact r.elim
  | str _ => exact r.elim
  | bytes _ => exact r.elim
  | tuple _ => exact r.elim
  | obj _ => exact r.elim

theorem interactive_fn {env : Env} (h : env.scope.kind = .function) : interactive env = false := by
  unfold interactive; rw [h]; rfl

theorem Ex1.append {x : Str} {px apos pos p : Pos} {e : Expr} {xs : List T} {d : T} (hx : ρ x = some (.o (.list xs))) (hn : plainName x = true) (hline : (apos.endLine == pos.line) = true) (hu : unstarred e = true)
    (he : EvE prog w A g env ρ e d) (hz : xs.length ≤ 1000000) :
    Ex1 prog w A g env ow V ρ (.Expr (.Call (.Attribute (.Name x px) "append" apos) [e] [] pos) p) (.next (upd ρ x (.o (.list (xs ++ [d]))))) := fun P os m cm s Q E F h => by
  refine wpAny_Expr ?_ (interactive_fn F.ek) rfl
  obtain ⟨a, X, hb, e2, r, rr, hX⟩ := F.readO hx
  refine wpAny_Call_method_late rfl ?_ hline rfl (wpAny_Name (load_bd F hb (plainName_2 hn) ?_) (plainName_1 hn))
  · rw [starEach_cons hu]; rfl
  obtain ⟨vs, hl, hs⟩ := r
  obtain ⟨n, hle⟩ := id hl
  refine ⟨"list", _, PySem.F.plainAttrs_list, PySem.F.slot_list_append, PySem.F.type_list_append, ⟨_, hle, rfl⟩, fun b eb => (by cases eb; exact ⟨_, hle, rfl⟩), ?_⟩
  refine callWith_machine rfl (by rw [starEach_cons hu]; rfl) ?_
  rw [starEach_cons hu]
  refine Calls.evalArgs_plain ?_
  refine Calls.spliced_cons (he _ rfl rfl s _ _ F fun v s1 k1 r1 => Calls.spliced_nil ?_)
  have F1 := F.keep k1
  refine wpAny_list_append_plain (PlainN hl (k1.heap _)) (fun h' hp hsb => ?_) (by simp only [List.size_toArray]; rw [hs.length]; exact Nat.le_trans hz (by decide))
  have k2 : (vs.toArray.push v) = (vs ++ [v]).toArray := by simp
  rw [k2] at hp
  have haW := InF.os_in (c := ⟨g, P, env, ow, V, os, m, cm⟩) e2
  refine h os m cm _ (k1.tr.trans ⟨_, _, rfl⟩) (F1.mutate (h' := h') (tk := s1.toks) hx e2 hb hsb F1.tk ⟨vs ++ [v], hp, ?_⟩ (let ⟨_, e⟩ := hp; ⟨_, e, .cls rfl⟩))
  exact Rs.append (.cons (R.turned haW hsb r1) .nil) ((hs.keep k1.heap).mono (fun b o hbX e => (hsb.2 b (notin_X haW hbX)).trans e) fun _ h _ => h)

theorem Rs.reverse {h : Heap} {X : List Addr} {v : List Value} {d : List T} (r : Rs prog w h X v d) : Rs prog w h X v.reverse d.reverse := by
  induction d generalizing v with
  | nil => obtain rfl := r.p; exact .nil
  | cons d ds ih =>
    obtain ⟨_, _, rfl, a, b⟩ := r.p
    rw [List.reverse_cons, List.reverse_cons]
    exact Rs.append (.cons a .nil) (ih b)
theorem Ex1.reverse {x : Str} {px apos pos p : Pos} {xs : List T} (hx : ρ x = some (.o (.list xs))) (hn : plainName x = true) (hline : (apos.endLine == pos.line) = true) (hz : xs.length ≤ 1000000) :
    Ex1 prog w A g env ow V ρ (.Expr (.Call (.Attribute (.Name x px) "reverse" apos) [] [] pos) p) (.next (upd ρ x (.o (.list xs.reverse)))) := fun P os m cm s Q E F h => by
  refine wpAny_Expr ?_ (interactive_fn F.ek) rfl
  obtain ⟨a, X, hb, e2, r, rr, hX⟩ := F.readO hx
  refine wpAny_Call_method_late rfl rfl hline rfl (wpAny_Name (load_bd F hb (plainName_2 hn) ?_) (plainName_1 hn))
  obtain ⟨vs, hl, hs⟩ := r
  obtain ⟨n, hle⟩ := id hl
  refine ⟨"list", _, PySem.F.plainAttrs_list, PySem.F.slot_list_reverse, PySem.F.type_list_reverse, ⟨_, hle, rfl⟩, fun b eb => (by cases eb; exact ⟨_, hle, rfl⟩), ?_⟩
  have haW := InF.os_in (c := ⟨g, P, env, ow, V, os, m, cm⟩) e2
  refine PySem.P.reverse_list hle ?_ (by simp only [List.size_toArray]; rw [hs.length]; exact Nat.le_trans hz (by decide))
  have hsb : Heap.SameBut a s.heap (s.heap.update a (Obj.mapSeq fun x => x.reverse)) := Heap.SameBut.update ..
  have hnew := IsL.update hle (fun x => x.reverse)
  have e3 : vs.toArray.reverse = vs.reverse.toArray := by simp
  refine h os m cm _ ⟨_, _, rfl⟩ (F.mutate (tk := s.toks) hx e2 hb hsb F.tk ⟨vs.reverse, ⟨_, e3 ▸ hnew⟩, ?_⟩ ⟨_, hnew, .cls rfl⟩)
  have hr := hs.reverse
  exact hr.mono (fun b o hbX e => (hsb.2 b (notin_X haW hbX)).trans e) fun _ h _ => h

/-- x[i] = e of an owned dict -/
theorem Ex1.setDict {x : Str} {px p pos : Pos} {i e : Expr} {es : List (Int × T)} {k : Int} {d : T} (hc : notComp e = true) (hx : ρ x = some (.o (.dict es))) (hn : plainName x = true)
    (he : EvE prog w A g env ρ e d) (hi : EvE prog w A g env ρ i (.int k)) (hz : es.length ≤ 1000000) :
    Ex1 prog w A g env ow V ρ (.Assign [.Subscript (.Name x px) i p] e pos) (.next (upd ρ x (.o (.dict (vput es k d))))) := fun P os m cm s Q E F h => by
  refine wpAny_Assign_Subscript ?_ (swapsWith_plain hc)
  refine he _ rfl rfl s _ _ F fun v1 s1 k1 r1 => ?_
  have F1 := F.keep k1
  obtain ⟨a, X, hb, e2, r, rr, hX⟩ := F1.readO hx
  refine wpAny_Name (load_bd F1 hb (plainName_2 hn) ?_) (plainName_1 hn)
  refine hi _ rfl rfl s1 _ _ F1 fun v2 s2 k2 r2 => ?_
  have F2 := F1.keep k2
  obtain ⟨kvs, h0, hd, hk⟩ := r
  obtain ⟨t, rfl⟩ := r2.p
  have haW := InF.os_in (c := ⟨g, P, env, ow, V, os, m, cm⟩) e2
  refine wpAny_setItem_pairs (knd := intKind prog w) (intKind_is prog w k t) (DictN hd (k2.heap _)) (fun h' hd' hsb => ?_) (by rw [hk.length]; exact Nat.le_trans hz (by decide))
  refine h os m cm _ ((k1.trans k2).tr.trans ⟨_, _, rfl⟩) (F2.mutate hx e2 hb hsb (Nat.le_succ_of_le F2.tk) ⟨_, h0, hd', ?_⟩ (let ⟨o, _, _, e, r⟩ := hd'; ⟨o, e, .cls r.1.1⟩))
  refine Rk.put k (R.turned haW hsb (r1.keep k2.heap)) ?_
  exact Rk.monoN (fun b o hbX n e => (hsb.2 b (notin_X haW hbX)).trans (k2.heap b o n e)) (fun _ _ h _ _ => h) hk

/-- x[i] op= e of an owned dict of ints -/
theorem Ex1.augDict {x : Str} {px p pos : Pos} {i e : Expr} {op : Operator} {es : List (Int × T)} {k : Int} {old d new : T} (hx : ρ x = some (.o (.dict es))) (hn : plainName x = true)
    (he : EvE prog w A g env ρ e d) (hi : EvE prog w A g env ρ i (.int k)) (ho : vat es k = some old) (hf : flat old = true) (hop : augop op old d = some new) (hz : es.length ≤ 1000000)
    (ha : ∀ ov iv new, augStore i ov iv new = (do holding [new, ov, iv] (setItem ov iv new); release [new, ov, iv] []; pure .next)) :
    Ex1 prog w A g env ow V ρ (.AugAssign (.Subscript (.Name x px) i p) op e pos) (.next (upd ρ x (.o (.dict (vput es k new))))) := fun P os m cm s Q E F h => by
  refine PyProof.Rows.wpAny_AugAssign_Subscript_any ?_ ha
  obtain ⟨a, X, hb, e2, r, rr, hX⟩ := F.readO hx
  refine wpAny_Name (load_bd F hb (plainName_2 hn) ?_) (plainName_1 hn)
  refine hi _ rfl rfl s _ _ F fun v2 s2 k2 r2 => ?_
  obtain ⟨t, rfl⟩ := r2.p
  have F2 := F.keep k2
  obtain ⟨kvs, h0, hd, hk⟩ := r
  rcases hk.vat k with ⟨x', y', e3, e4, r3⟩ | ⟨_, e4⟩
  · rw [ho] at e4; cases e4
    refine withTok F2.tk (wpAny_getItem_of (knd := intKind prog w) (intKind_is prog w k t) (DictN hd (k2.heap _)).mapOf e3 fun t3 => ?_)
    have k3 : Kp s2 { s2 with toks := s2.toks + 1 } := .tok
    refine he _ rfl rfl _ _ _ (F2.keep k3) fun v4 s4 k4 r4 => ?_
    have F4 := (F2.keep k3).keep k4
    refine withTok F4.tk (augop_ok (prog := prog) (w := w) (A := A) hop s4 _ [y', v4] _ _ (.cons (R.flat hf r3) (.cons r4 .nil)) F4.ex fun v5 s5 k5 r5 t5 => ?_)
    have kk := k2.trans (k3.trans (k4.trans (k5.up t5)))
    have F5 := F.keep kk
    have haW := InF.os_in (c := ⟨g, P, env, ow, V, os, m, cm⟩) e2
    refine wpAny_setItem_pairs (knd := intKind prog w) (intKind_is prog w k t) (DictN hd (kk.heap _)) (fun h' hd' hsb => ?_) (by rw [hk.length]; exact Nat.le_trans hz (by decide))
    refine h os m cm _ (kk.tr.trans ⟨_, _, rfl⟩) (F5.mutate hx e2 hb hsb (Nat.le_succ_of_le F5.tk) ⟨_, h0, hd', ?_⟩ (let ⟨o, _, _, e, r⟩ := hd'; ⟨o, e, .cls r.1.1⟩))
    refine Rk.put k (R.turned haW hsb r5) ?_
    exact Rk.monoN (fun b o hbX n e => (hsb.2 b (notin_X haW hbX)).trans (kk.heap b o n e)) (fun _ _ h _ _ => h) hk
  · rw [ho] at e4; cases e4

end Mine
set_option maxRecDepth 10000
namespace Mine
open PySem

variable {prog : Program} {w : World} {A : Around} {g : Heap} {env : Env} {ow : List (Str × Addr)} {V : List Addr} {ρ : Str → Option B}

/-- targets -/
def namesOf : List Expr → Option (List Str)
  | [] => some []
  | .Name x _ :: r => (namesOf r).map (x :: ·)
  | _ :: _ => none
def bindNs : List Str → List T → (Str → Option B) → Option (Str → Option B)
  | [], [], ρ => some ρ
  | x :: xs, d :: ds, ρ => bindNs xs ds (upd ρ x (.v d))
  | _, _, _ => none
def bindT : Expr → T → (Str → Option B) → Option (Str → Option B)
  | .Name x _, d, ρ => some (upd ρ x (.v d))
  | .Tuple elts _ _, .tuple ds, ρ => match namesOf elts with
    | some xs => bindNs xs ds ρ
    | none => none
  | .Tuple elts _ _, .list ds, ρ => match namesOf elts with
    | some xs => bindNs xs ds ρ
    | none => none
  | _, _, _ => none
def tgtOk (ow : List (Str × Addr)) (env : Env) : Expr → Prop
  | .Name x _ => canStore ow env x
  | .Tuple elts _ _ => ∀ xs, namesOf elts = some xs → ∀ x ∈ xs, canStore ow env x
  | _ => False

theorem namesOf_name {e : Expr} {r : List Expr} {xs : List Str} (h : namesOf (e :: r) = some xs) : ∃ x p l, e = .Name x p ∧ namesOf r = some l ∧ xs = x :: l := by
  cases e <;> first | (cases h; done) | skip
  rename_i x p
  simp only [namesOf, Option.map_eq_some_iff] at h
  obtain ⟨l, e, rfl⟩ := h
  exact ⟨x, p, l, rfl, e, rfl⟩

theorem namesOf_each : ∀ {elts : List Expr} {xs : List Str}, namesOf elts = some xs → (assignEach elts env).length = xs.length ∧ (assignEach elts env).findIdx? (·.1) = none := by
  intro elts
  induction elts with
  | nil => intro xs h; cases h; exact ⟨rfl, rfl⟩
  | cons e r ih =>
    intro xs h
    obtain ⟨x, p, l, rfl, e2, rfl⟩ := namesOf_name h
    obtain ⟨h1, h2⟩ := ih e2
    have e' : assignEach (.Name x p :: r) env = (false, assign (.Name x p) env) :: assignEach r env := rfl
    rw [e']
    refine ⟨congrArg Nat.succ h1, ?_⟩
    rw [List.findIdx?_cons, h2]
    rfl

theorem assign_name1 {x : Str} {p : Pos} {es : List Expr} {d : T} {v : Value} {vs : List Value} {ρ : Str → Option B} {P : Addr → Obj → Prop} {ow : List (Str × Addr)} {os m cm} {s : Shared} {Q : Unit → Shared → Prop} {E : Value → Shared → Prop} (hk : canStore ow env x)
    (F : InF prog w ⟨g, P, env, ow, V, os, m, cm⟩ ρ s) (r1 : R prog w s.heap (Cx.X ⟨g, P, env, ow, V, os, m, cm⟩) v d)
    (h : ∀ m1 cm1 s1, Tr s s1 → (∀ b o, b ∉ Cx.X ⟨g, P, env, ow, V, os, m, cm⟩ → s.heap.get? b = some o → s1.heap.get? b = some o) → InF prog w ⟨g, P, env, ow, V, os, m1, cm1⟩ (upd ρ x (.v d)) s1 → wpAny (model prog w) A (assignInOrder ((assignEach es env).map (·.2)) vs) Q E s1) :
    wpAny (model prog w) A (assignInOrder ((assignEach (.Name x p :: es) env).map (·.2)) (v :: vs)) Q E s :=
  wpAny_bind (wpAny_holding (wpAny_assign_Name (F.storeB (b₀ := .v d) hk r1 fun m1 cm1 s1 t1 k1 F1 => h m1 cm1 s1 t1 k1 F1)))

theorem assign_names {elts : List Expr} : ∀ {xs : List Str} {ds : List T} {vs : List Value} {ρ ρ' : Str → Option B} {P : Addr → Obj → Prop} {ow : List (Str × Addr)} {os m cm} {s : Shared} {Q : Unit → Shared → Prop} {E : Value → Shared → Prop},
    namesOf elts = some xs → bindNs xs ds ρ = some ρ' → (∀ x ∈ xs, canStore ow env x) → InF prog w ⟨g, P, env, ow, V, os, m, cm⟩ ρ s → Rs prog w s.heap (Cx.X ⟨g, P, env, ow, V, os, m, cm⟩) vs ds →
    (∀ m cm s', Tr s s' → InF prog w ⟨g, P, env, ow, V, os, m, cm⟩ ρ' s' → Q () s') → wpAny (model prog w) A (assignInOrder ((assignEach elts env).map (·.2)) vs) Q E s := by
  induction elts with
  | nil =>
    intro xs ds vs ρ ρ' P ow os m cm s Q E hn hb hk F r hq
    cases hn
    cases ds with
    | nil => cases hb; obtain rfl := r.p; exact wpAny_pure (hq m cm s (.refl s) F)
    | cons => cases hb
  | cons e es ih =>
    intro xs ds vs ρ ρ' P ow os m cm s Q E hn hb hk F r hq
    obtain ⟨x, p, l, rfl, e2, rfl⟩ := namesOf_name hn
    cases ds with
    | nil => cases hb
    | cons d ds =>
      obtain ⟨v, vs', rfl, r1, rr⟩ := r.p
      exact assign_name1 (hk x (List.mem_cons_self ..)) F r1 fun m1 cm1 s1 t1 k1 F1 => ih e2 hb (fun y hy => hk y (List.mem_cons_of_mem _ hy)) F1 (rr.mono k1 fun _ h _ => h) fun m2 cm2 s2 t2 F2 => hq m2 cm2 s2 (t1.trans t2) F2

theorem Rs.arr {h : Heap} {X : List Addr} {vs : List Value} {ds : List T} (r : Rs prog w h X vs ds) : vs.toArray.size = ds.length := by simp [r.length]

theorem bindNs_len {xs : List Str} : ∀ {ds : List T} {ρ ρ' : Str → Option B}, bindNs xs ds ρ = some ρ' → xs.length = ds.length := by
  induction xs with
  | nil => intro ds ρ ρ' h; cases ds <;> first | rfl | cases h
  | cons x xs ih => intro ds ρ ρ' h; cases ds with
    | nil => cases h
    | cons d ds => exact congrArg Nat.succ (ih h)

/-- a, b = value -/
theorem assign_tuple {elts : List Expr} {k : Nat} {p : Pos} {d : T} {v : Value} {ρ ρ' : Str → Option B} {P : Addr → Obj → Prop} {ow : List (Str × Addr)} {os m cm} {s : Shared} {Q : Unit → Shared → Prop} {E : Value → Shared → Prop} (hh : A.handled = none)
    (hb : bindT (.Tuple elts k p) d ρ = some ρ') (hk : tgtOk ow env (.Tuple elts k p)) (F : InF prog w ⟨g, P, env, ow, V, os, m, cm⟩ ρ s) (r : R prog w s.heap (Cx.X ⟨g, P, env, ow, V, os, m, cm⟩) v d)
    (hq : ∀ m cm s', Tr s s' → InF prog w ⟨g, P, env, ow, V, os, m, cm⟩ ρ' s' → Q () s') : wpAny (model prog w) A (assign (.Tuple elts k p) env v) Q E s := by
  have up : ∀ h', Heap.ExtBut s.heap.objs.size s.heap h' → Kp s { s with heap := h' } := fun h' he => ⟨.of' fun b o e => he b o (Nat.ne_of_lt (Heap.lt_size e)) e, id⟩
  cases d with
  | tuple ds =>
    cases hn : namesOf elts with
    | none => simp only [bindT, hn] at hb; cases hb
    | some xs =>
      simp only [bindT, hn] at hb
      obtain ⟨l1, l2⟩ := namesOf_each (env := env) hn
      · obtain ⟨a, vs, rfl, ha, ht, hs⟩ := r.p
        refine wpAny_assign_Tuple hh (isTuple_of ht) (by rw [l1, bindNs_len hb, hs.arr]) l2 fun h' he => ?_
        exact assign_names hn hb (hk xs hn) (F.keep (up h' he)) (hs.keep (up h' he).heap) fun m cm s' t F' => hq m cm s' ((up h' he).tr.trans t) F'
  | list ds =>
    cases hn : namesOf elts with
    | none => simp only [bindT, hn] at hb; cases hb
    | some xs =>
      simp only [bindT, hn] at hb
      obtain ⟨l1, l2⟩ := namesOf_each (env := env) hn
      · obtain ⟨a, vs, rfl, ha, ht, hs⟩ := r.p
        rw [arm_assign_Tuple]
        refine wpAny_bind (wpAny_standAt ?_)
        unfold unpack
        rw [l2, l1, bindNs_len hb, ← hs.arr]
        refine wpAny_bind (wpAny_holding (PySem.W.kun_itemsOf hh ht.isList fun h' he => ?_))
        exact assign_names hn hb (hk xs hn) (F.keep (up h' he)) (hs.keep (up h' he).heap) fun m cm s' t F' => hq m cm s' ((up h' he).tr.trans t) F'
  | none => cases hb
  | bool _ => cases hb
  | int _ => cases hb
  | str _ => cases hb
  | bytes _ => cases hb
  | barr _ => cases hb
  | dict _ => cases hb
  | obj _ => cases hb

theorem swapsSole_plain {t value : Expr} {n : Nat} {env : Env} (h : notComp value = true ∨ ∃ elts k p, t = .Tuple elts k p) : swapsWithSole [t] value n env = pure false := by
  show swapsWith value (some t) n env = pure false
  rcases h with h | ⟨elts, k, p, rfl⟩
  · exact swapsWith_plain h
  · cases value <;> rfl
def notTuple : Expr → Bool
  | .Tuple .. => false
  | _ => true
theorem swappedStores_plain {elts : List Expr} {k : Nat} {p : Pos} {value : Expr} {env : Env} (h : notTuple value = true) : swappedStores [.Tuple elts k p] value env = pure none := by
  cases value <;> first | rfl | (simp [notTuple] at h)

theorem Ex1.assignTuple {elts : List Expr} {k : Nat} {p pos : Pos} {e : Expr} {d : T} {ρ' : Str → Option B} (hh : A.handled = none) (hnt : notTuple e = true) (hb : bindT (.Tuple elts k p) d ρ = some ρ') (hk : tgtOk ow env (.Tuple elts k p))
    (he : EvE prog w A g env ρ e d) : Ex1 prog w A g env ow V ρ (.Assign [.Tuple elts k p] e pos) (.next ρ') := fun P os m cm s Q E F h =>
  PyProof.Rows.Assign_Tuple (he _ rfl rfl s _ _ F fun v s1 k1 r1 => assign_tuple hh hb hk (F.keep k1) r1 fun m' cm' s' t F' => h os m' cm' s' (k1.tr.trans t) F')
    (swapsSole_plain (.inr ⟨_, _, _, rfl⟩)) (swappedStores_plain hnt)

end Mine
set_option maxRecDepth 10000
namespace Mine
open PySem

variable {prog : Program} {w : World} {A : Around} {g : Heap} {env : Env} {ow : List (Str × Addr)} {V : List Addr} {ρ : Str → Option B}

theorem R.mono' {h h' : Heap} {X X' : List Addr} (hk : ∀ a o, a ∉ X → h.get? a = some o → h'.get? a = some o) (hx : ∀ a o, a ∉ X → h.get? a = some o → a ∉ X') {v : Value} {d : T} (r : R prog w h X v d) : R prog w h' X' v d :=
  R.monoN (fun a o ha _ e => hk a o ha e) (fun a o ha _ e => hx a o ha e) r
theorem Rs.mono' {h h' : Heap} {X X' : List Addr} (hk : ∀ a o, a ∉ X → h.get? a = some o → h'.get? a = some o) (hx : ∀ a o, a ∉ X → h.get? a = some o → a ∉ X') {v : List Value} {d : List T} (r : Rs prog w h X v d) : Rs prog w h' X' v d :=
  Rs.monoN (fun a o ha _ e => hk a o ha e) (fun a o ha _ e => hx a o ha e) r
theorem Rk.mono' {h h' : Heap} {X X' : List Addr} (hk : ∀ a o, a ∉ X → h.get? a = some o → h'.get? a = some o) (hx : ∀ a o, a ∉ X → h.get? a = some o → a ∉ X') {v : List (Int × Value)} {d : List (Int × T)} (r : Rk prog w h X v d) : Rk prog w h' X' v d :=
  Rk.monoN (fun a o ha _ e => hk a o ha e) (fun a o ha _ e => hx a o ha e) r

/-- what a turn's item is -/
def ItR (prog : Program) (w : World) (h₀ h : Heap) (X : List Addr) (v : Value) (d : T) : Prop :=
  R prog w h₀ X v d ∨ ∃ t a b da db, v = .ref t ∧ h.IsTuple t #[a, b] ∧ d = .tuple [da, db] ∧ R prog w h₀ X a da ∧ R prog w h₀ X b db

structure Src (prog : Program) (w : World) (A : Around) (tgt : Expr) (X : List Addr) (ds : List T) (s₀ : Shared) (I : Addr) (s₂ : Shared) (fp wr : List Addr) (P Md : Nat → Value → Heap → Prop) (St : Nat → Heap → Prop) : Prop where
  turns : PySem.W.KTurns prog w A tgt I fp wr ds.length P Md St
  st : St 0 s₂.heap
  kp : Kp0 s₀ s₂
  fresh : ∀ b ∈ wr, ∀ o, NT b o → s₀.heap.get? b = some o → False
  there : ∀ i h, St i h → ∀ b ∈ wr, ∃ o, h.get? b = some o ∧ XO o
  nd : wr.Nodup
  apart : ∀ b ∈ fp, b ∉ X
  fpx : ∀ i h, St i h → ∀ b ∈ fp, ∃ o, h.get? b = some o ∧ XO o
  item : ∀ i v h', i < ds.length → P i v h' → ∃ d, ds[i]? = some d ∧ ItR prog w s₂.heap h' (wr ++ X) v d

theorem InF.weakenP {P P' : Addr → Obj → Prop} {ow : List (Str × Addr)} {os m cm} {s : Shared} (F : InF prog w ⟨g, P', env, ow, V, os, m, cm⟩ ρ s) (hp : ∀ b o, P b o → P' b o) (hg : ∀ b o, NT b o → g.get? b = some o → P b o) :
    InF prog w ⟨g, P, env, ow, V, os, m, cm⟩ ρ s :=
  { tk := F.tk, ek := F.ek, eg := F.eg, eb := F.eb, gP := hg, Pn := fun b o e => F.Pn b o (hp b o e), Ph := fun b o e => F.Ph b o (hp b o e), PW := fun b o e => F.PW b o (hp b o e), nd := F.nd, ex := F.ex, ns := F.ns, cl := F.cl, ce := F.ce, cd := F.cd, ti := F.ti, nm := F.nm }
theorem InF.strengthenP {P P' : Addr → Obj → Prop} {ow : List (Str × Addr)} {os m cm} {s : Shared} (F : InF prog w ⟨g, P, env, ow, V, os, m, cm⟩ ρ s) (hp : ∀ b o, P b o → P' b o) (h0 : ∀ b o, P' b o → NT b o) (h1 : ∀ b o, P' b o → s.heap.get? b = some o)
    (h2 : ∀ b o, P' b o → b ∉ Cx.W ⟨g, P, env, ow, V, os, m, cm⟩) : InF prog w ⟨g, P', env, ow, V, os, m, cm⟩ ρ s :=
  { tk := F.tk, ek := F.ek, eg := F.eg, eb := F.eb, gP := fun b o n e => hp b o (F.gP b o n e), Pn := h0, Ph := h1, PW := h2, nd := F.nd, ex := F.ex, ns := F.ns, cl := F.cl, ce := F.ce, cd := F.cd, ti := F.ti, nm := F.nm }

/-- other people's things grow or shrink -/
theorem InF.moreV {P : Addr → Obj → Prop} {ow : List (Str × Addr)} {os m cm} {s s₂ : Shared} {wr : List Addr} (F : InF prog w ⟨g, P, env, ow, V, os, m, cm⟩ ρ s) (k : Kp s s₂) (hf : ∀ b ∈ wr, ∀ o, NT b o → s.heap.get? b = some o → False) (hn : wr.Nodup) (he : ∀ b ∈ wr, ∃ o, s₂.heap.get? b = some o ∧ XO o) :
    InF prog w ⟨g, P, env, ow, wr ++ V, os, m, cm⟩ ρ s₂ := by
  have F₂ := F.keep k
  have hnew : ∀ b ∈ wr, b ∉ Cx.X ⟨g, P, env, ow, V, os, m, cm⟩ := fun b hb hm => by
    obtain ⟨o, e, n⟩ := F.ex b hm
    exact hf b hb o n.1 e
  have up : ∀ b o, b ∉ Cx.X ⟨g, P, env, ow, V, os, m, cm⟩ → NT b o → s.heap.get? b = some o → b ∉ Cx.X ⟨g, P, env, ow, wr ++ V, os, m, cm⟩ := fun b o hb n e hm => by
    unfold Cx.X at hm hb
    simp only [List.mem_append] at hm hb
    rcases hm with h | h | h
    · exact hb (.inl h)
    · exact hf b h o n e
    · exact hb (.inr h)
  refine { tk := F₂.tk, ek := F₂.ek, eg := F₂.eg, eb := F₂.eb, gP := F₂.gP, Pn := F₂.Pn, Ph := F₂.Ph, PW := F₂.PW, nd := ?_, ex := fun b hb => ?_, ns := F₂.ns, cl := F₂.cl, ce := F₂.ce, cd := F₂.cd, ti := F₂.ti, nm := fun y b hy => ?_ }
  · have hnd := F.nd
    unfold Cx.X at hnd ⊢
    rw [List.nodup_append] at hnd ⊢
    refine ⟨hnd.1, List.nodup_append.mpr ⟨hn, hnd.2.1, fun a ha b hb e => hnew a ha ?_⟩, fun a ha b hb e => ?_⟩
    · subst e; unfold Cx.X; exact List.mem_append_right _ hb
    · rcases List.mem_append.mp hb with h | h
      · exact hnew b h (by subst e; unfold Cx.X; exact List.mem_append_left _ ha)
      · exact hnd.2.2 a ha b h e
  · unfold Cx.X at hb
    simp only [List.mem_append] at hb
    rcases hb with h | h | h
    · exact F₂.ex b (by unfold Cx.X; exact List.mem_append_left _ h)
    · exact he b h
    · exact F₂.ex b (by unfold Cx.X; exact List.mem_append_right _ h)
  · obtain ⟨v, hb, hd⟩ := F.nm y b hy
    refine ⟨v, hb, ?_⟩
    cases b with
    | v d => exact R.monoN (fun b o _ n e => k.heap b o n e) up hd
    | o d =>
      obtain ⟨a', e1, e2, r⟩ := hd
      exact ⟨a', e1, e2, RO.monoN (fun b o _ n e => k.heap b o n e) up (fun o n e => k.heap _ o n e) r⟩
theorem mem_lessV {P : Addr → Obj → Prop} {ow : List (Str × Addr)} {os m cm} {wr : List Addr} {b : Addr} (h : b ∉ Cx.X ⟨g, P, env, ow, wr ++ V, os, m, cm⟩) : b ∉ Cx.X ⟨g, P, env, ow, V, os, m, cm⟩ := fun hm => h (by
  unfold Cx.X at hm ⊢
  simp only [List.mem_append] at hm ⊢
  rcases hm with h | h
  · exact .inl h
  · exact .inr (.inr h))
theorem InF.lessV {P : Addr → Obj → Prop} {ow : List (Str × Addr)} {os m cm} {s : Shared} {wr : List Addr} (F : InF prog w ⟨g, P, env, ow, wr ++ V, os, m, cm⟩ ρ s) : InF prog w ⟨g, P, env, ow, V, os, m, cm⟩ ρ s := by
  refine { tk := F.tk, ek := F.ek, eg := F.eg, eb := F.eb, gP := F.gP, Pn := F.Pn, Ph := F.Ph, PW := F.PW, nd := ?_, ex := fun b hb => F.ex b ?_, ns := F.ns, cl := F.cl, ce := F.ce, cd := F.cd, ti := F.ti, nm := fun y b hy => ?_ }
  · have hnd := F.nd
    unfold Cx.X at hnd ⊢
    refine hnd.sublist ?_
    exact List.Sublist.append (List.Sublist.refl _) (List.sublist_append_right _ _)
  · unfold Cx.X at hb ⊢
    simp only [List.mem_append] at hb ⊢
    rcases hb with h | h
    · exact .inl h
    · exact .inr (.inr h)
  · obtain ⟨v, hb, hd⟩ := F.nm y b hy
    refine ⟨v, hb, ?_⟩
    cases b with
    | v d => exact R.mono (fun _ _ _ e => e) (fun b hb _ => mem_lessV hb) hd
    | o d =>
      obtain ⟨a', e1, e2, r⟩ := hd
      exact ⟨a', e1, e2, r.mono (fun _ _ _ e => e) (fun b hb _ => mem_lessV hb) fun o e => e⟩
/-- others write into what is theirs -/
theorem InF.others {P : Addr → Obj → Prop} {ow : List (Str × Addr)} {os m cm} {s : Shared} {h' : Heap} {tk : Nat} {wr : List Addr} (F : InF prog w ⟨g, P, env, ow, wr ++ V, os, m, cm⟩ ρ s) (hk : ∀ b o, b ∉ wr → s.heap.get? b = some o → h'.get? b = some o)
    (hP : ∀ b o, P b o → b ∉ wr) (he : ∀ b ∈ wr, ∃ o, h'.get? b = some o ∧ XO o) (hc : ∀ n a, env.cells.lookup n = some a → a ∉ wr) (ht : 1 ≤ tk) : InF prog w ⟨g, P, env, ow, wr ++ V, os, m, cm⟩ ρ { s with heap := h', toks := tk } := by
  have hnd := F.nd
  have hW : ∀ b, b ∈ Cx.W ⟨g, P, env, ow, wr ++ V, os, m, cm⟩ → b ∉ wr := fun b hb hm => by
    unfold Cx.X at hnd
    exact (List.nodup_append.mp hnd).2.2 b hb b (List.mem_append_left _ hm) rfl
  have hX : ∀ b, b ∉ Cx.X ⟨g, P, env, ow, wr ++ V, os, m, cm⟩ → b ∉ wr := fun b hb hm => hb (by unfold Cx.X; exact List.mem_append_right _ (List.mem_append_left _ hm))
  have hns : h'.Ns env.locals m := F.ns.at' fun o e => hk _ o (hW _ (by unfold Cx.W; simp)) e
  refine { tk := ht, ek := F.ek, eg := F.eg, eb := F.eb, gP := F.gP, Pn := F.Pn, Ph := fun b o e => hk b o (hP b o e) (F.Ph b o e), PW := F.PW, nd := hnd, ex := fun b hb => ?_, ns := hns, ce := F.ce, cd := F.cd, ti := F.ti.off (S := (· ∈ wr)) hk fun b hb => F.ex b (List.mem_append_right _ (List.mem_append_left _ hb)), cl := fun n a e => ?_, nm := fun y b hy => ?_ }
  · by_cases hw : b ∈ wr
    · exact he b hw
    · obtain ⟨o, e, n⟩ := F.ex b hb
      exact ⟨o, hk b o hw e, n⟩
  · obtain ⟨o, e1, e2⟩ := F.cl n a e
    exact ⟨o, hk a o (hc n a e) e1, e2⟩
  · obtain ⟨v, hb, hd⟩ := F.nm y b hy
    refine ⟨v, hb, ?_⟩
    cases b with
    | v d => exact R.mono (fun b o hb e => hk b o (hX b hb) e) (fun _ h _ => h) hd
    | o d =>
      obtain ⟨a', e1, e2, r⟩ := hd
      exact ⟨a', e1, e2, r.mono (fun b o hb e => hk b o (hX b hb) e) (fun _ h _ => h) fun o e => hk _ o (hW _ (InF.os_in e2)) e⟩

/-- the turns of a loop -/
inductive Loop (step : T → (Str → Option B) → Out → Prop) : List T → (Str → Option B) → Out → Prop
  | nil {ρ : Str → Option B} : Loop step [] ρ (.next ρ)
  | next {d : T} {ds : List T} {ρ ρ' : Str → Option B} {o : Out} : step d ρ (.next ρ') → Loop step ds ρ' o → Loop step (d :: ds) ρ o
  | ret {d r : T} {ds : List T} {ρ : Str → Option B} : step d ρ (.ret r) → Loop step (d :: ds) ρ (.ret r)

/-- an item given to its target -/
theorem assign_item {tgt : Expr} {d : T} {v : Value} {ρ' : Str → Option B} {P : Addr → Obj → Prop} {ow : List (Str × Addr)} {os m cm} {s : Shared} {Q : Unit → Shared → Prop} {E : Value → Shared → Prop} (hh : A.handled = none) (hb : bindT tgt d ρ = some ρ') (hk : tgtOk ow env tgt)
    (F : InF prog w ⟨g, P, env, ow, V, os, m, cm⟩ ρ s) (r : ItR prog w s.heap s.heap (Cx.X ⟨g, P, env, ow, V, os, m, cm⟩) v d) (hn : (∃ x p, tgt = .Name x p) → R prog w s.heap (Cx.X ⟨g, P, env, ow, V, os, m, cm⟩) v d)
    (hq : ∀ m cm s', Tr s s' → InF prog w ⟨g, P, env, ow, V, os, m, cm⟩ ρ' s' → Q () s') : wpAny (model prog w) A (assign tgt env v) Q E s := by
  cases tgt with
  | Name x p =>
    cases hb
    exact wpAny_assign_Name (F.store hk (hn ⟨x, p, rfl⟩) hq)
  | Tuple elts k p =>
    rcases r with r | ⟨t, a, b, da, db, rfl, ht, rfl, ra, rb⟩
    · exact assign_tuple hh hb hk F r hq
    · cases hnm : namesOf elts with
      | none => simp only [bindT, hnm] at hb; cases hb
      | some xs =>
        simp only [bindT, hnm] at hb
        obtain ⟨l1, l2⟩ := namesOf_each (env := env) hnm
        have len : xs.length = 2 := by
          match xs, hb with
          | [], hb => cases hb
          | [_], hb => cases hb
          | [_, _], _ => rfl
          | _ :: _ :: _ :: _, hb => cases hb
        have up : ∀ h', Heap.ExtBut s.heap.objs.size s.heap h' → Kp s { s with heap := h' } := fun h' he => ⟨.of' fun b o e => he b o (Nat.ne_of_lt (Heap.lt_size e)) e, id⟩
        refine wpAny_assign_Tuple hh ht (by rw [l1, len]; rfl) l2 fun h' he => ?_
        exact assign_names hnm hb (hk xs hnm) (F.keep (up h' he)) (Rs.cons (ra.keep (up h' he).heap) (.cons (rb.keep (up h' he).heap) .nil)) fun m cm s' t F' => hq m cm s' ((up h' he).tr.trans t) F'
  | _ => exact hk.elim

end Mine
set_option maxRecDepth 10000
namespace Mine
open PySem

variable {prog : Program} {w : World} {A : Around} {g : Heap} {env : Env} {ow : List (Str × Addr)} {V : List Addr} {ρ : Str → Option B}

/-- others write for the last time -/
theorem InF.leave {P : Addr → Obj → Prop} {os m cm} {s : Shared} {h' : Heap} {tk : Nat} {wr : List Addr} (F : InF prog w ⟨g, P, env, ow, wr ++ V, os, m, cm⟩ ρ s) (hk : ∀ b o, b ∉ wr → s.heap.get? b = some o → h'.get? b = some o)
    (hP : ∀ b o, P b o → b ∉ wr) (hc : ∀ n a, env.cells.lookup n = some a → a ∉ wr) (ht : 1 ≤ tk) : InF prog w ⟨g, P, env, ow, V, os, m, cm⟩ ρ { s with heap := h', toks := tk } := by
  have hnd := F.nd
  have hW : ∀ b, b ∈ Cx.W ⟨g, P, env, ow, V, os, m, cm⟩ → b ∉ wr := fun b hb hm => by
    unfold Cx.X at hnd
    exact (List.nodup_append.mp hnd).2.2 b hb b (List.mem_append_left _ hm) rfl
  have hV : ∀ b ∈ V, b ∉ wr := fun b hb hm => by
    unfold Cx.X at hnd
    exact (List.nodup_append.mp (List.nodup_append.mp hnd).2.1).2.2 b hm b hb rfl
  have hX : ∀ b, b ∉ Cx.X ⟨g, P, env, ow, wr ++ V, os, m, cm⟩ → b ∉ wr := fun b hb hm => hb (by unfold Cx.X; exact List.mem_append_right _ (List.mem_append_left _ hm))
  have hns : h'.Ns env.locals m := F.ns.at' fun o e => hk _ o (hW _ (by unfold Cx.W; simp)) e
  refine { tk := ht, ek := F.ek, eg := F.eg, eb := F.eb, gP := F.gP, Pn := F.Pn, Ph := fun b o e => hk b o (hP b o e) (F.Ph b o e), PW := F.PW, nd := F.lessV.nd, ex := fun b hb => ?_, ns := hns, ce := F.ce, cd := F.cd, ti := F.ti.off (S := (· ∈ wr)) hk fun b hb => F.ex b (List.mem_append_right _ (List.mem_append_left _ hb)), cl := fun n a e => ?_, nm := fun y b hy => ?_ }
  · obtain ⟨o, e, n⟩ := F.lessV.ex b hb
    refine ⟨o, hk b o ?_ e, n⟩
    unfold Cx.X at hb
    rcases List.mem_append.mp hb with h | h
    · exact hW b h
    · exact hV b h
  · obtain ⟨o, e1, e2⟩ := F.cl n a e
    exact ⟨o, hk a o (hc n a e) e1, e2⟩
  · obtain ⟨v, hb, hd⟩ := F.nm y b hy
    refine ⟨v, hb, ?_⟩
    cases b with
    | v d => exact R.mono (fun b o hb e => hk b o (hX b hb) e) (fun b hb _ => mem_lessV hb) hd
    | o d =>
      obtain ⟨a', e1, e2, r⟩ := hd
      exact ⟨a', e1, e2, r.mono (fun b o hb e => hk b o (hX b hb) e) (fun b hb _ => mem_lessV hb) fun o e => hk _ o (hW _ (InF.os_in e2)) e⟩

def Gives (prog : Program) (w : World) (A : Around) (g : Heap) (env : Env) (ρ : Str → Option B) (tgt iter : Expr) (ds : List T) : Prop :=
  ∀ c : Cx, c.env = env → c.g = g → ∀ (s : Shared) (Q : Value → Shared → Prop) (E : Value → Shared → Prop), InF prog w c ρ s →
    (∀ s₂ I fp wr Pp Md St, Kp s s₂ → Src prog w A tgt c.X ds s I s₂ fp wr Pp Md St → Q (.ref I) s₂) → wpAny (model prog w) A (eval iter env) (fun x s1 => wpAny (model prog w) A (pyIter x) Q E s1) E s

def Step (prog : Program) (w : World) (A : Around) (g : Heap) (env : Env) (ow : List (Str × Addr)) (tgt : Expr) (body : List Stmt) (d : T) (ρ : Str → Option B) (o : Out) : Prop :=
  ∃ ρ₁, bindT tgt d ρ = some ρ₁ ∧ ∀ V, Ex prog w A g env ow V ρ₁ body o

theorem Ex1.for {tgt iter : Expr} {body : List Stmt} {pos : Pos} {ds : List T} {o : Out} (hh : A.handled = none) (hk : tgtOk ow env tgt) (hs : ∀ x, foldedSetIterable iter env x = pure x)
    (hg : Gives prog w A g env ρ tgt iter ds) (hnm : ∀ x p, tgt = .Name x p → ∀ X h v d, d ∈ ds → ItR prog w h h X v d → R prog w h X v d)
    (hL : Loop (Step prog w A g env ow tgt body) ds ρ o) : Ex1 prog w A g env ow V ρ (.For tgt iter body [] pos) o := fun P os m cm s Q E F hq => by
  refine wpAny_For (hg _ rfl rfl s _ _ F fun s₂ I fp wr Pp Md St k S => ?_) hs
  have F₂ := F.moreV k S.fresh S.nd (S.there 0 _ S.st)
  have W := S.turns
  let X := Cx.X ⟨g, P, env, ow, V, os, m, cm⟩
  have hcw : ∀ n a, env.cells.lookup n = some a → a ∉ wr := fun n a e hm => by obtain ⟨o, e1, d⟩ := F.cl n a e; exact S.fresh a hm o (.cell d) e1
  let P₂ : Addr → Obj → Prop := fun b ob => P b ob ∨ (NT b ob ∧ s₂.heap.get? b = some ob ∧ b ∉ X ∧ b ∉ wr)
  have hPwr : ∀ b ob, P b ob → b ∉ wr := fun b ob hb hm => S.fresh b hm _ (F.Pn b ob hb) (F.Ph b ob hb)
  have hP₂wr : ∀ b ob, P₂ b ob → b ∉ wr := fun b ob hb => by
    rcases hb with hb | hb
    · exact hPwr b ob hb
    · exact hb.2.2.2
  have F₃ : InF prog w ⟨g, P₂, env, ow, wr ++ V, os, m, cm⟩ ρ s₂ := F₂.strengthenP (fun b ob h => .inl h) (fun b ob h => h.elim (F₂.Pn b ob) (·.1)) (fun b ob h => h.elim (F₂.Ph b ob) (·.2.1)) fun b ob h => h.elim (F₂.PW b ob) fun h hm => h.2.2.1 (List.mem_append_left _ hm)
  refine codeAny_forLoop_any (fun k s' => ∃ i ρi os m cm, Tr s₂ s' ∧ St i s'.heap ∧ InF prog w ⟨g, P₂, env, ow, wr ++ V, os, m, cm⟩ ρi s' ∧ Loop (Step prog w A g env ow tgt body) (ds.drop i) ρi o ∧ i ≤ ds.length ∧ k = ds.length + 1 - i) ?_ (ds.length + 1)
    ⟨0, ρ, os, m, cm, .refl _, S.st, F₃, by simpa using hL, Nat.zero_le _, by omega⟩
  intro n s' hI
  refine cps fun C hC => ?_
  obtain ⟨i, ρi, os₁, m₁, cm₁, t₁, st₁, F₁, L₁, hi, rfl⟩ := hI
  refine hC ?_
  by_cases hlt : i < ds.length
  · refine withTok F₁.tk (W.item i _ _ _ hlt st₁ fun v h₁ tk₁ hMd hk₁ htk => ?_)
    refine W.go i v _ _ _ hMd fun h₂ hPv st₂ hk₂ => ?_
    have hkk : ∀ b ob, b ∉ wr → s'.heap.get? b = some ob → h₂.get? b = some ob := fun b ob hb e => hk₂ b ob hb (hk₁ b ob hb e)
    have F₄ : InF prog w ⟨g, P₂, env, ow, wr ++ V, os₁, m₁, cm₁⟩ ρi { s' with heap := h₂, toks := tk₁ } := F₁.others hkk hP₂wr (S.there _ _ st₂)
      hcw htk
    obtain ⟨d, hd, hit⟩ := S.item i v h₂ hlt hPv
    have hdrop : ds.drop i = d :: ds.drop (i + 1) := by
      have := List.drop_eq_getElem_cons hlt
      rw [this]
      congr 1
      rw [List.getElem?_eq_getElem hlt] at hd
      exact Option.some.inj hd
    rw [hdrop] at L₁
    let P₃ : Addr → Obj → Prop := fun b ob => P₂ b ob ∨ (NT b ob ∧ b ∈ fp ∧ h₂.get? b = some ob)
    have hfpW : ∀ b ∈ fp, b ∉ Cx.W ⟨g, P₂, env, ow, wr ++ V, os₁, m₁, cm₁⟩ := fun b hb hm => by
      by_cases hw : b ∈ wr
      · exact (List.nodup_append.mp F₁.nd).2.2 b hm b (List.mem_append_left _ hw) rfl
      · obtain ⟨ob, e, n⟩ := S.fpx 0 _ S.st b hb
        exact F₁.PW b ob (.inr ⟨n.1, e, S.apart b hb, hw⟩) hm
    have F₅ : InF prog w ⟨g, P₃, env, ow, wr ++ V, os₁, m₁, cm₁⟩ ρi { s' with heap := h₂, toks := tk₁ } := F₄.strengthenP (fun b ob h => .inl h) (fun b ob h => h.elim (F₄.Pn b ob) (·.1)) (fun b ob h => h.elim (F₄.Ph b ob) (·.2.2)) fun b ob h => h.elim (F₄.PW b ob) fun h => hfpW b h.2.1
    let X₅ := Cx.X ⟨g, P₃, env, ow, wr ++ V, os₁, m₁, cm₁⟩
    have up : ∀ {u du}, R prog w s₂.heap (wr ++ X) u du → R prog w h₂ X₅ u du := fun r => by
      refine R.monoN (fun b ob hb n e => F₄.Ph b ob (.inr ⟨n, e, fun hm => hb (List.mem_append_right _ hm), fun hm => hb (List.mem_append_left _ hm)⟩)) (fun b ob hb n e hm => ?_) r
      have h1 : b ∉ wr := fun h => hb (List.mem_append_left _ h)
      have h2 : b ∉ X := fun h => hb (List.mem_append_right _ h)
      rcases List.mem_append.mp hm with h | h
      · exact F₅.PW b ob (.inl (.inr ⟨n, e, h2, h1⟩)) h
      · rcases List.mem_append.mp h with h | h
        · exact h1 h
        · exact h2 (List.mem_append_right _ h)
    have hit' : ItR prog w h₂ h₂ X₅ v d := by
      rcases hit with r | ⟨t, a, b, da, db, rfl, ht, rfl, ra, rb⟩
      · exact .inl (up r)
      · exact .inr ⟨t, a, b, da, db, rfl, ht, rfl, up ra, up rb⟩
    have hmem : d ∈ ds := List.mem_of_getElem? hd
    have go : ∀ {ρ₁ o'}, bindT tgt d ρi = some ρ₁ → (∀ V, Ex prog w A g env ow V ρ₁ body o') → ∀ (Q' : Flow → Shared → Prop) (E₁ E₂ : Value → Shared → Prop), Post prog w g P₃ env ow (wr ++ V) { s' with heap := h₂, toks := tk₁ } o' Q' →
        wpAny (model prog w) A (PySem.assign tgt env v) (fun _ s₂ => wpAny (model prog w) A (execs body env) Q' E₁ s₂) E₂ { s' with heap := h₂, toks := tk₁ } := fun hb hx Q' E₁ E₂ hp =>
      assign_item hh hb hk F₅ hit' (fun ⟨x, p, e⟩ => hnm x p e _ _ _ _ hmem hit') fun m' cm' s₃ t₃ F₆ => hx _ P₃ os₁ m' cm' s₃ Q' E₁ F₆ (hp.mono t₃)
    cases L₁ with
    | next hst hrest =>
      obtain ⟨ρ₁, hb, hx⟩ := hst
      refine go hb hx _ _ _ fun os₂ m₂ cm₂ s₃ t₃ F₆ => ?_
      refine ⟨ds.length + 1 - (i + 1), by omega, i + 1, _, os₂, m₂, cm₂, t₁.trans ((show Tr s' { s' with heap := h₂, toks := tk₁ } from ⟨_, _, rfl⟩).trans t₃), ?_, F₆.weakenP (fun b ob h => .inl h) fun b ob n e => .inl (F.gP b ob n e), hrest, hlt, rfl⟩
      exact W.frame _ _ _ st₂ fun b hb ob e => by
        obtain ⟨o', e', n⟩ := S.fpx _ _ st₂ b hb
        have : o' = ob := Option.some.inj (e'.symm.trans e)
        exact F₆.Ph b ob (.inr ⟨this ▸ n.1, hb, e⟩)
    | ret hst =>
      obtain ⟨ρ₁, hb, hx⟩ := hst
      refine go hb hx _ _ _ fun u s₃ t₃ hp hv ti r => ?_
      refine hq u s₃ (k.tr.trans (t₁.trans ((show Tr s' { s' with heap := h₂, toks := tk₁ } from ⟨_, _, rfl⟩).trans t₃))) (fun b ob h => hp b ob (.inl (.inl h))) (fun b hb => hv b (List.mem_append_right _ hb)) ti (r.sub fun a ha _ hm => ha (List.mem_append_right _ hm))
  · have hin : i = ds.length := by omega
    subst hin
    refine withTok F₁.tk (W.done _ _ _ st₁ fun h₁ tk₁ hk₁ htk => ?_)
    rw [List.drop_length] at L₁
    cases L₁
    refine wpAny_execs_nil ?_
    have F₆ := (F₁.leave hk₁ hP₂wr hcw htk).weakenP (P := P) (fun b ob h => .inl h) F.gP
    exact hq os₁ m₁ cm₁ _ (k.tr.trans (t₁.trans ⟨_, _, rfl⟩)) F₆

end Mine
set_option maxRecDepth 10000
namespace Mine
open PySem

variable {prog : Program} {w : World} {A : Around} {g : Heap} {env : Env} {ow : List (Str × Addr)} {V : List Addr} {ρ : Str → Option B}

/-- writes into what is in V -/
theorem InF.othersG {c : Cx} {s : Shared} {h' : Heap} {tk : Nat} {S : Addr → Prop} (F : InF prog w c ρ s) (hk : ∀ b o, ¬ S b → s.heap.get? b = some o → h'.get? b = some o) (hS : ∀ b, S b → b ∈ c.V)
    (hP : ∀ b o, c.P b o → ¬ S b) (he : ∀ b, S b → ∃ o, h'.get? b = some o ∧ XO o) (hc : ∀ n a, c.env.cells.lookup n = some a → ¬ S a) (ht : 1 ≤ tk) : InF prog w c ρ { s with heap := h', toks := tk } := by
  have hnd := F.nd
  have hW : ∀ b, b ∈ c.W → ¬ S b := fun b hb hm => by
    unfold Cx.X at hnd
    exact (List.nodup_append.mp hnd).2.2 b hb b (hS b hm) rfl
  have hX : ∀ b, b ∉ c.X → ¬ S b := fun b hb hm => hb (by unfold Cx.X; exact List.mem_append_right _ (hS b hm))
  have hns : h'.Ns c.env.locals c.m := F.ns.at' fun o e => hk _ o (hW _ (by unfold Cx.W; simp)) e
  refine { tk := ht, ek := F.ek, eg := F.eg, eb := F.eb, gP := F.gP, Pn := F.Pn, Ph := fun b o e => hk b o (hP b o e) (F.Ph b o e), PW := F.PW, nd := hnd, ex := fun b hb => ?_, ns := hns, ce := F.ce, cd := F.cd, ti := F.ti.off (S := S) hk fun b hb => F.ex b (List.mem_append_right _ (hS b hb)), cl := fun n a e => ?_, nm := fun y b hy => ?_ }
  · by_cases hw : S b
    · exact he b hw
    · obtain ⟨o, e, n⟩ := F.ex b hb
      exact ⟨o, hk b o hw e, n⟩
  · obtain ⟨o, e1, e2⟩ := F.cl n a e
    exact ⟨o, hk a o (hc n a e) e1, e2⟩
  · obtain ⟨v, hb, hd⟩ := F.nm y b hy
    refine ⟨v, hb, ?_⟩
    cases b with
    | v d => exact R.mono (fun b o hb e => hk b o (hX b hb) e) (fun _ h _ => h) hd
    | o d =>
      obtain ⟨a', e1, e2, r⟩ := hd
      exact ⟨a', e1, e2, r.mono (fun b o hb e => hk b o (hX b hb) e) (fun _ h _ => h) fun o e => hk _ o (hW _ (InF.os_in e2)) e⟩

theorem codeAny_compLoop_gen {elt target iter : Expr} {ifs : List Expr} {scope : Scope} {pos : Pos} {it acc : Value} {env : Env} {R : Result → Shared → Prop} {s : Shared} (I : Nat → Shared → Prop)
    (turn : ∀ n s, I n s → wpAny (model prog w) A (pyNext it) (fun r s₁ => match r with
      | none => R (.ok .next) s₁
      | some v => wpAny (model prog w) A (letOwnedTupleGo target it v) (fun _ s₁' => wpAny (model prog w) A (PySem.assign target env v) (fun _ s₂ =>
          wpAny (model prog w) A (forIn ifs true fun c r => if r = true then do let ok ← isTrue c env (eval c env); pure (ForInStep.yield ok) else pure (ForInStep.yield r)) (fun ok s₃ =>
            if ok = true then wpAny (model prog w) A (eval elt env) (fun x s₄ =>
              wpAny (model prog w) A (call (.builtin "list.append") [acc, x]) (fun _ s₅ => ∃ m, m < n ∧ I m s₅) (notedBy (model prog w) A env fun e s' => R (.error e) s') s₄) (notedBy (model prog w) A env fun e s' => R (.error e) s') s₃
            else ∃ m, m < n ∧ I m s₃) (notedBy (model prog w) A env fun e s' => R (.error e) s') s₂) (notedBy (model prog w) A env fun e s' => R (.error e) s') s₁') (notedBy (model prog w) A env fun e s' => R (.error e) s') s₁) (notedBy (model prog w) A env fun e s' => R (.error e) s') s)
    (n : Nat) (h : I n s) :
    codeAny (model prog w) A (.compLoop (.ListComp elt [⟨target, iter, ifs, 0⟩] scope pos) 0 it acc env) R s := by
  refine codeAny_loop rfl I (fun n s hI => ?_) n h
  show wpAny _ A ((compTurn (.ListComp elt [⟨target, iter, ifs, 0⟩] scope pos) 0 it acc env).onRaise (fun x => do noteFrame x env; theTreesLotGoes x)) _ _ s
  refine wpAny_noted ?_
  rw [compTurn_list]
  refine wpAny_bind (wpAny_standAt (wpAny_bind (wpAny_mono (turn n s hI) (fun r s₁ h₁ => ?_) fun _ _ h' => h')))
  cases r with
  | none => exact wpAny_pure h₁
  | some v =>
    refine wpAny_bind (wpAny_mono h₁ (fun _ s₁' h₁' => ?_) fun _ _ h' => h')
    refine wpAny_bind (wpAny_mono h₁' (fun _ s₂ h₂ => wpAny_bind (wpAny_mono h₂ (fun ok s₃ h₃ => ?_) fun _ _ h' => h')) fun _ _ h' => h')
    cases ok with
    | false => exact wpAny_pure ⟨rfl, h₃⟩
    | true =>
      exact wpAny_bind (wpAny_bind (wpAny_mono h₃ (fun x s₄ h₄ => wpAny_bind (wpAny_mono h₄ (fun _ s₅ h₅ => wpAny_pure (wpAny_pure ⟨rfl, h₅⟩)) fun _ _ h' => h')) fun _ _ h' => h'))

/-- the tests of a comprehension -/
def EvTs (prog : Program) (w : World) (A : Around) (c : Cx) (ρ : Str → Option B) (ifs : List Expr) (b : Bool) : Prop :=
  ∀ (s : Shared) (Q : Bool → Shared → Prop) (E : Value → Shared → Prop), InF prog w c ρ s → (∀ s', Kp s s' → Q b s') →
    wpAny (model prog w) A (forIn ifs true fun e r => if r = true then do let ok ← isTrue e c.env (eval e c.env); pure (ForInStep.yield ok) else pure (ForInStep.yield r)) Q E s
theorem EvTs.nil {c : Cx} : EvTs prog w A c ρ [] true := fun s Q E F h => wpAny_tests_nil (h s (.refl s))
theorem EvTs.one {c : Cx} {e : Expr} {b : Bool} (h : EvT prog w A c ρ e b) : EvTs prog w A c ρ [e] b := fun s Q E F hq => wpAny_tests_one (h s _ _ F hq)

/-- cells -/
theorem cellsFrom_append : ∀ (names : List (Str × NameKind)) (n : Nat) (acc : List (Str × Addr)), cellsFrom n names acc = cellsFrom n names [] ++ acc
  | [], n, acc => rfl
  | (x, k) :: r, n, acc => by
    unfold cellsFrom
    split
    · rw [cellsFrom_append r (n + 1) ((x, n) :: acc), cellsFrom_append r (n + 1) [(x, n)]]; simp
    · exact cellsFrom_append r n acc
theorem lookup_append {α : Type} : ∀ (l l' : List (Str × α)) (x : Str), (l ++ l').lookup x = match l.lookup x with | some a => some a | none => l'.lookup x
  | [], l', x => rfl
  | (k, v) :: r, l', x => by
    rw [List.cons_append, List.lookup_cons, List.lookup_cons]
    cases x == k
    · exact lookup_append r l' x
    · rfl

def mkEnv (scope : Scope) (cl : List (Str × Addr)) (env : Env) (C : Addr) : Env := compEnvC scope (cellsFrom (C + 1) scope.names cl) C env

theorem newEnv_comp {M : Model} {scope : Scope} {cl : List (Str × Addr)} {s : Shared} {Q : Env → Shared → Prop} {E : Value → Shared → Prop}
    (hQ : Q { scope, locals := s.heap.objs.size, globals := env.globals, cells := cellsFrom (s.heap.objs.size + 1) scope.names cl, qual := env.qual, func := none, code := env.code, frame := env.frame, builtins := env.builtins }
      { s with heap := pushCells (s.heap.push { cls := .type "dict", data := .dict #[] }) scope.names }) :
    wpAny M A (newFunctionEnv scope env.globals cl [] env.qual none .none (some env)) Q E s := by
  simp only [newFunctionEnv, Option.isSome_some, if_true]
  refine wpAny_bind (wpAny_alloc ?_)
  refine wpAny_bind (wpAny_layCells _ (fun name kind cells => by cases hkc : kind == NameKind.cell <;> simp [hkc]) _ _ _ _ ?_)
  rw [show ({ s with heap := s.heap.push { cls := .type "dict", data := .dict #[] } } : Shared).heap.objs.size = s.heap.objs.size + 1 from Heap.size_push ..]
  rw [List.forIn_nil]
  exact wpAny_bind (wpAny_pure (wpAny_pure hQ))

end Mine
set_option maxRecDepth 10000
namespace Mine
open PySem

variable {prog : Program} {w : World} {A : Around} {g : Heap} {env : Env} {ow : List (Str × Addr)} {V : List Addr} {ρ : Str → Option B}

theorem stepLt {n i : Nat} (h : i < n) : n + 1 - (i + 1) < n + 1 - i := Nat.sub_lt_sub_left (Nat.lt_succ_of_lt h) (Nat.lt_succ_self i)
theorem endEq {n i : Nat} (h : i ≤ n) (h' : ¬ i < n) : i = n := Nat.le_antisymm h (Nat.le_of_not_lt h')
theorem ltC {D C b : Nat} (h2 : D + 1 = C) (h : b = C) : D < b := h ▸ h2 ▸ Nat.lt_succ_self D
theorem ltC' {D C b : Nat} (h2 : D + 1 = C) (h : C < b) : D < b := Nat.lt_trans (h2 ▸ Nat.lt_succ_self D) h
theorem neD {D b : Nat} (h1 : b < D) (h : b = D) : False := Nat.lt_irrefl _ (h ▸ h1)
theorem neC {D C b : Nat} (h2 : D + 1 = C) (h1 : b < D) (h : b = C) : False := Nat.lt_irrefl b (Nat.lt_trans h1 (ltC h2 h))
theorem neDC {D C : Nat} (h2 : D + 1 = C) (h : D = C) : False := Nat.lt_irrefl D (ltC h2 h)
theorem neS {D b : Nat} (h1 : b < D) (h : b = D + 1) : False := neC rfl h1 h
theorem neLt {D b : Nat} (h1 : b < D) (h : D < b) : False := Nat.lt_irrefl D (Nat.lt_trans h h1)
theorem neLtS {D b : Nat} (h1 : b < D) (h : D + 1 < b) : False := neLt h1 (Nat.lt_of_succ_lt h)
theorem neLeS {D b : Nat} (h1 : b < D) (h : D + 1 ≤ b) : False := neLt h1 h
theorem lenZ {z a i n M : Nat} (h : z = a + min i n) (hz : a + n ≤ M) : z ≤ M := h ▸ Nat.le_trans (Nat.add_le_add_left (Nat.min_le_right _ _) _) hz
theorem neLeD {D b : Nat} (h1 : D + 1 ≤ b) (h : b = D) : False := neD h1 h.symm


structure CompOk (env : Env) (scope : Scope) (cl : List (Str × Addr)) (x : Str) : Prop where
  clos : closureFor scope env = pure cl
  kind : scope.kind = .function
  names : ∀ y ∈ scope.names, y.2 = .local → scope.names.lookup y.1 = some .local
  x : scope.names.lookup x = some .local ∨ (scope.names.lookup x = some .cell ∧ ∀ C, ∃ a, (cellsFrom (C + 1) scope.names []).lookup x = some a)
  cln : (cl.map (·.1)).Nodup
  cls : ∀ p ∈ cl, env.cells.lookup p.1 = some p.2
  clk : ∀ n a, cl.lookup n = some a → scope.names.lookup n = some .free ∧ (env.kindOf n = some .cell ∨ env.kindOf n = some .free) ∧ ∀ C, (cellsFrom (C + 1) scope.names []).lookup n = none

theorem lookup_relabel {env : Env} : ∀ {names : List (Str × NameKind)} {x : Str} {k : NameKind}, names.lookup x = some k →
    (names.map fun (n, k) => if (k == NameKind.free && env.scope.kind == .function && env.kindOf n == some .cell) then (n, NameKind.cell) else (n, k)).lookup x =
      some (if (k == NameKind.free && env.scope.kind == .function && env.kindOf x == some .cell) then .cell else k)
  | [], _, _, h => by simp at h
  | (n, k') :: r, x, k, h => by
    have ih := @lookup_relabel env r x k
    show List.lookup x ((if (k' == NameKind.free && env.scope.kind == .function && env.kindOf n == some .cell) = true then (n, NameKind.cell) else (n, k')) :: _) = _
    cases hx : x == n with
    | true =>
      simp only [List.lookup_cons, hx] at h
      cases h
      have := beq_iff_eq.mp hx
      subst this
      split <;> simp [List.lookup_cons]
    | false =>
      simp only [List.lookup_cons, hx] at h
      by_cases hc : (k' == NameKind.free && env.scope.kind == .function && env.kindOf n == some .cell) = true
      · rw [if_pos hc]; simp only [List.lookup_cons, hx]; exact ih h
      · rw [if_neg hc]; simp only [List.lookup_cons, hx]; exact ih h

theorem kind_mk {scope : Scope} {cl : List (Str × Addr)} {C : Addr} {x : Str} {k : NameKind} (h : scope.names.lookup x = some k) :
    (mkEnv scope cl env C).kindOf x = some (if (k == NameKind.free && env.scope.kind == .function && env.kindOf x == some .cell) then .cell else k) := lookup_relabel h

def inn (cl : List (Str × Addr)) (ρ : Str → Option B) : Str → Option B := fun x => match cl.lookup x, ρ x with
  | some _, some (.v d) => some (.v d)
  | _, _ => none

structure CStep (prog : Program) (w : World) (A : Around) (g : Heap) (mk : Addr → Env) (x : Str) (ifs : List Expr) (elt : Expr) (ρ : Str → Option B) (d : T) (y : Option T) : Prop where
  ok : ∃ b, (∀ C (c : Cx), c.env = mk C → c.g = g → EvTs prog w A c (upd ρ x (.v d)) ifs b) ∧ ((b = false ∧ y = none) ∨ ∃ t, b = true ∧ y = some t ∧ ∀ C, EvE prog w A g (mk C) (upd ρ x (.v d)) elt t)
inductive CL (prog : Program) (w : World) (A : Around) (g : Heap) (mk : Addr → Env) (x : Str) (ifs : List Expr) (elt : Expr) (ρ : Str → Option B) : List T → List T → Prop
  | nil : CL prog w A g mk x ifs elt ρ [] []
  | cons {d : T} {y : Option T} {ds out : List T} : CStep prog w A g mk x ifs elt ρ d y → CL prog w A g mk x ifs elt ρ ds out → CL prog w A g mk x ifs elt ρ (d :: ds) (y.toList ++ out)

structure SrcC (prog : Program) (w : World) (A : Around) (tgt : Expr) (X : List Addr) (ds : List T) (s₀ : Shared) (I : Addr) (s₂ : Shared) (fp wr : List Addr) (P Md : Nat → Value → Heap → Prop) (St : Nat → Heap → Prop) : Prop
    extends Src prog w A tgt X ds s₀ I s₂ fp wr P Md St where
  self : ∀ i (s : Shared) (Q : Value → Shared → Prop) (E : Value → Shared → Prop), St i s.heap → Q (.ref I) s → wpAny (model prog w) A (pyIter (.ref I)) Q E s

theorem upd_upd (ρ : Str → Option B) (x : Str) (a b : B) : upd (upd ρ x a) x b = upd ρ x b := by
  funext y; unfold upd; by_cases h : y = x <;> simp [h]

/-- the inner context -/
theorem comp_ctx {c : Cx} {s s₂ : Shared} {scope : Scope} {cl : List (Str × Addr)} {x : Str} {wr : List Addr} (ok : CompOk c.env scope cl x) (F : InF prog w c ρ s) (k : Kp s s₂)
    (hf : ∀ b ∈ wr, ∀ o, NT b o → s.heap.get? b = some o → False) (hn : wr.Nodup) (he : ∀ b ∈ wr, ∃ o, s₂.heap.get? b = some o ∧ XO o) (acc : Obj) (hacc : acc.isFreed = false) (haN : XO acc) :
    let C := s₂.heap.objs.size + 1
    let nc := cellsFrom (C + 1) scope.names []
    ∀ h₁, h₁ = pushCells ((s₂.heap.push acc).push { cls := .type "dict", data := .dict #[] }) scope.names →
    h₁.get? s₂.heap.objs.size = some acc ∧ (∀ b o, s₂.heap.get? b = some o → h₁.get? b = some o) ∧ (∀ a : Nat, a ∈ nc.map (·.2) → s₂.heap.objs.size + 1 < a) ∧
    InF prog w ⟨c.g, fun b o => NT b o ∧ s₂.heap.get? b = some o ∧ b ∉ wr, mkEnv scope cl c.env C, nc, wr ++ s₂.heap.objs.size :: c.X, [], fun _ => none, fun n => if (nc.lookup n).isSome then none else c.cm n⟩ (inn cl ρ) { s₂ with heap := h₁ } := by
  intro C nc h₁ hh₁
  have F₂ := F.keep k
  have hkD : (s₂.heap.push acc).get? s₂.heap.objs.size = some acc := Heap.get?_push_size _ hacc
  have old₁ : ∀ b o, s₂.heap.get? b = some o → h₁.get? b = some o := fun b o e => hh₁ ▸ pushCells_keeps _ _ b o (Heap.get?_push_of_some _ (Heap.get?_push_of_some _ e))
  have hns : h₁.Ns C fun _ => none := by
    have := (Heap.Ns.new (s₂.heap.push acc) (.type "dict")).keeps (pushCells_keeps scope.names _)
    rw [Heap.size_push] at this
    rw [hh₁]; exact this
  have okc := cellsFrom_ok scope.names ((s₂.heap.push acc).push { cls := .type "dict", data := .dict #[] }) (C + 1) [] ⟨fun _ _ hm => (nomatch hm), List.Pairwise.nil⟩ (by simp only [Heap.size_push]; exact Nat.le_refl _)
  rw [show ((s₂.heap.push acc).push { cls := .type "dict", data := .dict #[] }).objs.size = C + 1 from by simp only [Heap.size_push]; rfl, ← hh₁] at okc
  have ncC : ∀ n a, nc.lookup n = some a → C < a := fun n a e => (okc.empty n a (mem_of_lookup e)).2
  have ncm : ∀ a : Nat, a ∈ nc.map (·.2) → s₂.heap.objs.size + 1 < a := fun a hm => by
    obtain ⟨p, hp, rfl⟩ := List.mem_map.mp hm
    exact (okc.empty p.1 p.2 hp).2
  have ltX : ∀ b : Nat, b ∈ c.X → b < s.heap.objs.size := fun b hb => let ⟨o, e, _⟩ := F.ex b hb; Heap.lt_size e
  have ltX₂ : ∀ b : Nat, b ∈ c.X → b < s₂.heap.objs.size := fun b hb => let ⟨o, e, _⟩ := F₂.ex b hb; Heap.lt_size e
  have hf' : ∀ b : Nat, b ∈ wr → b ∈ c.X → False := fun b hb hx => by obtain ⟨o, e, n⟩ := F.ex b hx; exact hf b hb o n.1 e
  have ltw : ∀ b : Nat, b ∈ wr → b < s₂.heap.objs.size := fun b hb => let ⟨o, e, _⟩ := he b hb; Heap.lt_size e
  have hlook : ∀ n a, (mkEnv scope cl c.env C).cells.lookup n = some a → nc.lookup n = some a ∨ (nc.lookup n = none ∧ cl.lookup n = some a) := fun n a e => by
    have e' : (nc ++ cl).lookup n = some a := by
      have := cellsFrom_append scope.names (C + 1) cl
      rw [← this]; exact e
    rw [lookup_append] at e'
    cases hc : nc.lookup n with
    | some b => rw [hc] at e'; exact .inl e'
    | none => rw [hc] at e'; exact .inr ⟨rfl, e'⟩
  have hcl : ∀ n a, cl.lookup n = some a → c.env.cells.lookup n = some a := fun n a e => ok.cls (n, a) (mem_of_lookup e)
  have clt : ∀ n (a : Nat), c.env.cells.lookup n = some a → a < s₂.heap.objs.size := fun n a e => (F₂.cl n a e).lt
  refine ⟨hh₁ ▸ pushCells_keeps _ _ _ _ (Heap.get?_push_of_some _ hkD), old₁, ncm, ?_⟩
  refine { tk := k.2 F.tk, ek := ok.kind, eg := F.eg, eb := F.eb, gP := fun b o n e => ⟨n, k.heap b o n (F.ground b o n e), fun hm => ?_⟩, Pn := fun b o h => h.1, Ph := fun b o h => old₁ b o h.2.1, PW := fun b o h hm => ?_, nd := ?_, ex := fun b hb => ?_, ns := hns, ti := F₂.ti.keep old₁, cl := fun n a e => ?_, ce := fun n a e => ⟨?_, List.not_mem_nil⟩, cd := ?_, nm := fun y b hy => ?_ }
  · exact hf b hm o n (F.ground b o n e)
  · have hlt : @LT.lt Nat _ b s₂.heap.objs.size := Heap.lt_size h.2.1
    unfold Cx.W at hm
    simp only [List.map_nil, List.append_nil] at hm
    rcases List.mem_cons.mp hm with h1 | h1
    · exact neS hlt h1
    · exact neLtS hlt (ncm b h1)
  · have hnn : (nc.map (·.2)).Nodup := by rw [List.Nodup, List.pairwise_map]; exact okc.apart
    unfold Cx.X Cx.W
    simp only [List.map_nil, List.append_nil]
    have hC : C = s₂.heap.objs.size + 1 := rfl
    rw [List.nodup_append]
    refine ⟨List.nodup_cons.mpr ⟨fun hm => Nat.lt_irrefl _ (ncm _ hm), hnn⟩, ?_, ?_⟩
    · rw [List.nodup_append]
      refine ⟨hn, List.nodup_cons.mpr ⟨fun hm => Nat.lt_irrefl _ (ltX₂ _ hm), F.nd⟩, fun a ha b hb e => ?_⟩
      subst e
      rcases List.mem_cons.mp hb with h | h
      · exact neD (ltw a ha) h
      · exact hf' a ha h
    · intro a ha b hb e
      subst e
      have h1 : s₂.heap.objs.size + 1 ≤ (a : Nat) := by
        rcases List.mem_cons.mp ha with h | h
        · exact Nat.le_of_eq h.symm
        · exact Nat.le_of_lt (ncm a h)
      rcases List.mem_append.mp hb with h | h
      · exact neLeS (ltw a h) h1
      · rcases List.mem_cons.mp h with h | h
        · exact neLeD h1 h
        · exact neLeS (ltX₂ a h) h1
  · unfold Cx.X Cx.W at hb
    simp only [List.map_nil, List.append_nil] at hb
    rcases List.mem_append.mp hb with h | h
    · rcases List.mem_cons.mp h with h | h
      · obtain ⟨o, _, _, e, d, _⟩ := hns; exact ⟨o, h ▸ e, .dict d⟩
      · obtain ⟨p, hp, rfl⟩ := List.mem_map.mp h
        obtain ⟨o, e, d⟩ := (okc.empty p.1 p.2 hp).1
        exact ⟨o, e, .cell d⟩
    · rcases List.mem_append.mp h with h | h
      · obtain ⟨o, e, n⟩ := he b h; exact ⟨o, old₁ b o e, n⟩
      · rcases List.mem_cons.mp h with h | h
        · exact ⟨acc, h ▸ hh₁ ▸ pushCells_keeps _ _ _ _ (Heap.get?_push_of_some _ hkD), haN⟩
        · obtain ⟨o, e, n⟩ := F₂.ex b h; exact ⟨o, old₁ b o e, n⟩
  · rcases hlook n a e with h | ⟨h0, h⟩
    · have := (okc.empty n a (mem_of_lookup h)).1
      show h₁.IsCell a (if (nc.lookup n).isSome then none else c.cm n)
      rw [h]; exact this
    · show h₁.IsCell a (if (nc.lookup n).isSome then none else c.cm n)
      rw [h0]
      exact (F₂.cl n a (hcl n a h)).keeps old₁
  · rcases hlook n a e with h | ⟨_, h⟩
    · exact Nat.ne_of_gt (ncC n a h)
    · have := clt n a (hcl n a h)
      exact fun e' => neS this e'
  · have e' : (mkEnv scope cl c.env C).cells = nc ++ cl := cellsFrom_append scope.names (C + 1) cl
    rw [e', List.map_append, List.nodup_append]
    refine ⟨by rw [List.Nodup, List.pairwise_map]; exact okc.apart, ?_, fun a ha b hb e => ?_⟩
    · have hp : cl.Pairwise fun p q => p.1 ≠ q.1 := by have := ok.cln; rw [List.Nodup, List.pairwise_map] at this; exact this
      rw [List.Nodup, List.pairwise_map]
      refine hp.imp_of_mem fun {p q} hp hq hne e => hne ?_
      exact lookup_inj F.cd (ok.cls p hp) (e ▸ ok.cls q hq)
    · obtain ⟨p, hp, rfl⟩ := List.mem_map.mp hb
      have h1 := clt p.1 p.2 (ok.cls p hp)
      have h2 := ncm a ha
      exact neLtS (e ▸ h1) h2
  · unfold inn at hy
    cases h1 : cl.lookup y with
    | none => rw [h1] at hy; cases hy
    | some a =>
      cases h2 : ρ y with
      | none => rw [h1, h2] at hy; cases hy
      | some b' =>
        rw [h1, h2] at hy
        cases b' with
        | o d => cases hy
        | v d =>
          cases hy
          obtain ⟨v, hb, hd⟩ := F.nm y _ h2
          obtain ⟨hk1, hk2, hk3⟩ := ok.clk y a h1
          refine ⟨v, .inr ⟨?_, ⟨a, ?_⟩, ?_⟩, ?_⟩
          · have := kind_mk (env := c.env) (cl := cl) (C := C) hk1
            rw [this]
            split
            · exact .inl rfl
            · exact .inr rfl
          · show (mkEnv scope cl c.env C).cells.lookup y = some a
            rw [show (mkEnv scope cl c.env C).cells = nc ++ cl from cellsFrom_append scope.names (C + 1) cl, lookup_append, hk3 C]
            exact h1
          · show (if (nc.lookup y).isSome then none else c.cm y) = some v
            rw [show nc.lookup y = none from hk3 C]
            rcases hb with ⟨hl, _⟩ | ⟨_, _, h3⟩
            · rcases hk2 with hk2 | hk2 <;> rw [hk2] at hl <;> cases hl
            · exact h3
          · refine R.monoN (fun a o _ n e => old₁ a o (k.heap a o n e)) (fun a o ha n e hm => ?_) hd
            have hlt : @LT.lt Nat _ a s.heap.objs.size := Heap.lt_size e
            have hlt₂ : @LT.lt Nat _ a s₂.heap.objs.size := Heap.lt_size (k.heap a o n e)
            unfold Cx.X Cx.W at hm
            simp only [List.map_nil, List.append_nil] at hm
            rcases List.mem_append.mp hm with h | h
            · rcases List.mem_cons.mp h with h | h
              · exact neS hlt₂ h
              · exact neLtS hlt₂ (ncm a h)
            · rcases List.mem_append.mp h with h | h
              · exact hf a h o n e
              · rcases List.mem_cons.mp h with h | h
                · exact neD hlt₂ h
                · exact ha h

end Mine
set_option maxRecDepth 10000
namespace Mine
open PySem

variable {prog : Program} {w : World} {A : Around} {g : Heap} {env : Env} {ow : List (Str × Addr)} {V : List Addr} {ρ : Str → Option B}

theorem canStore_mk {env : Env} {scope : Scope} {cl : List (Str × Addr)} {x : Str} {C : Addr} (ok : CompOk env scope cl x) : canStore (cellsFrom (C + 1) scope.names []) (mkEnv scope cl env C) x := by
  rcases ok.x with h | ⟨h, h2⟩
  · exact .inl (by have := kind_mk (env := env) (cl := cl) (C := C) h; rw [this]; rfl)
  · obtain ⟨a, e⟩ := h2 C
    refine .inr ⟨by have := kind_mk (env := env) (cl := cl) (C := C) h; rw [this]; rfl, a, ?_, e⟩
    rw [show (mkEnv scope cl env C).cells = cellsFrom (C + 1) scope.names [] ++ cl from cellsFrom_append scope.names (C + 1) cl, lookup_append, e]

theorem comp_list {c : Cx} {s s₂ : Shared} {scope : Scope} {cl : List (Str × Addr)} {x : Str} {px pos : Pos} {elt iter : Expr} {ifs : List Expr} {ds out : List T} {I : Addr} {fp wr : List Addr} {Pp Md : Nat → Value → Heap → Prop} {St : Nat → Heap → Prop}
    {RR : Value → Addr → Result → Shared → Prop} {E : Value → Shared → Prop} (ok : CompOk c.env scope cl x) (F : InF prog w c ρ s) (k : Kp s s₂) (S : SrcC prog w A (.Name x px) c.X ds s I s₂ fp wr Pp Md St)
    (hn : ∀ h X v d, d ∈ ds → ItR prog w h h X v d → R prog w h X v d) (hL : CL prog w A c.g (mkEnv scope cl c.env) x ifs elt (inn cl ρ) ds out) (hz : ds.length ≤ 1000000)
    (hRR : ∀ D C vs s', Tr s s' → (∀ b o, NT b o → s.heap.get? b = some o → s'.heap.get? b = some o) → 1 ≤ s'.toks → TI s'.heap → (∀ b o, NT b o → s.heap.get? b = some o → b ≠ D ∧ b ≠ C) → D ≠ C → (∃ m, s'.heap.Ns C m) → s'.heap.PlainList D vs.toArray → Rs prog w s'.heap (C :: c.X) vs out → RR (.ref D) C (.ok .next) s') :
    wpAny (model prog w) A (newList []) (fun acc s₃ => wpAny (model prog w) A (newFunctionEnv scope c.env.globals cl [] c.env.qual none .none (some c.env)) (fun cenv s₄ =>
      codeAny (model prog w) A (.compStart (.ListComp elt [⟨.Name x px, iter, ifs, 0⟩] scope pos) 0 (.ref I) acc { cenv with scope := relabel scope c.env }) (RR acc cenv.locals) s₄) E s₃) E s₂ := by
  have W := S.turns
  refine wpAny_newObj_type (newEnv_comp ?_)
  obtain ⟨hacc, old, ncC, F₀⟩ := comp_ctx ok F k S.fresh S.nd (S.there 0 _ S.st) { cls := .type "list", dict := none, data := .seq ([] : List Value).toArray } rfl (.cls rfl) _ rfl
  dsimp only at hacc old ncC F₀ ⊢
  have hC : (s₂.heap.push { cls := .type "list", dict := none, data := .seq ([] : List Value).toArray }).objs.size = s₂.heap.objs.size + 1 := Heap.size_push ..
  rw [hC] at *
  generalize hh₁ : pushCells ((s₂.heap.push { cls := .type "list", dict := none, data := .seq ([] : List Value).toArray }).push { cls := .type "dict", data := .dict #[] }) scope.names = h₁ at hacc old F₀ ⊢
  generalize hCC : s₂.heap.objs.size + 1 = C at *
  generalize hD : s₂.heap.objs.size = D at *
  generalize hnc : cellsFrom (C + 1) scope.names [] = nc at *
  let P₂ : Addr → Obj → Prop := fun b o => NT b o ∧ s₂.heap.get? b = some o ∧ b ∉ wr
  let c₂ : (Addr → Obj → Prop) → (Str → Option Value) → (Str → Option Value) → Cx := fun P m cm => ⟨c.g, P, mkEnv scope cl c.env C, nc, wr ++ D :: c.X, [], m, cm⟩
  let X₂ : List Addr := Cx.X (c₂ P₂ (fun _ => none) fun _ => none)
  have ltD : ∀ b o, s₂.heap.get? b = some o → @LT.lt Nat _ b D := fun b o e => hD ▸ Heap.lt_size e
  have hW₂ : ∀ b, b ∈ Cx.W (c₂ P₂ (fun _ => none) fun _ => none) → @LT.lt Nat _ D b := fun b hb => by
    have h2 : @Eq Nat (D + 1) C := hCC
    rcases List.mem_cons.mp hb with h | h
    · exact ltC h2 h
    · have h0 : b ∈ nc.map (·.2) := by simpa [c₂, Cx.W] using h
      exact ltC' h2 (ncC b h0)
  have hDX : D ∉ c.X := fun hm => by obtain ⟨o, e, _⟩ := (F.keep k).ex D hm; exact Nat.lt_irrefl _ (ltD D o e)
  have hXw : ∀ b ∈ c.X, b ∉ wr := fun b hb hw => by
    obtain ⟨o, e, n⟩ := F.ex b hb
    exact S.fresh b hw o n.1 e
  have hwD : ∀ b ∈ wr, b ≠ D := fun b hb e => by
    obtain ⟨o, e', _⟩ := S.there 0 _ S.st b hb
    exact Nat.lt_irrefl _ (e ▸ ltD b o e')
  have hfW : ∀ b ∈ fp, b ∉ Cx.W (c₂ P₂ (fun _ => none) fun _ => none) := fun b hb hm => by
    obtain ⟨o, e, _⟩ := S.fpx 0 _ S.st b hb
    exact Nat.lt_irrefl _ (Nat.lt_trans (ltD b o e) (hW₂ b hm))
  have hfD : ∀ b ∈ fp, b ≠ D := fun b hb e => by
    obtain ⟨o, e', _⟩ := S.fpx 0 _ S.st b hb
    exact Nat.lt_irrefl _ (e ▸ ltD b o e')
  have hWw : ∀ b, b ∈ Cx.W (c₂ P₂ (fun _ => none) fun _ => none) → b ∉ wr := fun b hb hw => by
    obtain ⟨o, e', _⟩ := S.there 0 _ S.st b hw
    exact Nat.lt_irrefl _ (Nat.lt_trans (ltD b o e') (hW₂ b hb))
  have hDW : D ∉ Cx.W (c₂ P₂ (fun _ => none) fun _ => none) := fun h => Nat.lt_irrefl _ (hW₂ D h)
  have hmX : ∀ b, b ∉ X₂ → b ∉ Cx.W (c₂ P₂ (fun _ => none) fun _ => none) ∧ b ∉ wr ∧ b ≠ D ∧ b ∉ c.X := fun b hb => by
    refine ⟨fun h => hb (List.mem_append_left _ h), fun h => hb (List.mem_append_right _ (List.mem_append_left _ h)), fun h => hb (List.mem_append_right _ (List.mem_append_right _ (h ▸ List.mem_cons_self ..))), fun h => hb (List.mem_append_right _ (List.mem_append_right _ (List.mem_cons_of_mem _ h)))⟩
  have hXm : ∀ b, b ∉ Cx.W (c₂ P₂ (fun _ => none) fun _ => none) → b ∉ wr → b ≠ D → b ∉ c.X → b ∉ X₂ := fun b h1 h2 h3 h4 hm => by
    rcases List.mem_append.mp hm with h | h
    · exact h1 h
    · rcases List.mem_append.mp h with h | h
      · exact h2 h
      · rcases List.mem_cons.mp h with h | h
        · exact h3 h
        · exact h4 h
  have hcells : ∀ n a, (mkEnv scope cl c.env C).cells.lookup n = some a → a ∉ wr ∧ a ≠ D := fun n a e => by
    have e' : (nc ++ cl).lookup n = some a := by
      have := cellsFrom_append scope.names (C + 1) cl
      rw [hnc] at this
      rw [← this]; exact e
    rw [lookup_append] at e'
    cases hc : nc.lookup n with
    | some b =>
      rw [hc] at e'; cases e'
      have hm : a ∈ Cx.W (c₂ P₂ (fun _ => none) fun _ => none) := List.mem_cons_of_mem _ (List.mem_append_left _ (mem_cells hc))
      exact ⟨hWw a hm, fun e => hDW (e ▸ hm)⟩
    | none =>
      rw [hc] at e'
      have hcl := ok.cls (n, a) (mem_of_lookup e')
      refine ⟨fun hm => by obtain ⟨o, e1, d⟩ := F.cl n a hcl; exact S.fresh a hm o (.cell d) e1, fun e => ?_⟩
      have := ((F.keep k).cl n a hcl).lt
      rw [hD] at this
      exact Nat.lt_irrefl _ (e ▸ this)
  let Inv : Nat → Shared → Prop := fun kk s' => ∃ i ys dn rest ρi m cm, Tr s₂ s' ∧ St i s'.heap ∧ InF prog w (c₂ P₂ m cm) ρi s' ∧ (∀ b, upd ρi x b = upd (inn cl ρ) x b) ∧ s'.heap.PlainList D (List.toArray ys) ∧ Rs prog w s'.heap X₂ ys dn ∧
    CL prog w A c.g (mkEnv scope cl c.env) x ifs elt (inn cl ρ) (ds.drop i) rest ∧ dn ++ rest = out ∧ dn.length ≤ i ∧ i ≤ ds.length ∧ kk = ds.length + 1 - i
  have start : Inv (ds.length + 1) { s₂ with heap := h₁ } := ⟨0, [], [], out, inn cl ρ, _, _, ⟨_, _, rfl⟩, W.frame _ _ _ S.st (fun b _ o e => old b o e), F₀, fun _ => rfl, ⟨_, hacc⟩, .nil, by simpa using hL, rfl, Nat.le_refl _, Nat.zero_le _, rfl⟩
  have loop : codeAny (model prog w) A (.compLoop (.ListComp elt [⟨.Name x px, iter, ifs, 0⟩] scope pos) 0 (.ref I) (.ref D) (mkEnv scope cl c.env C)) (RR (.ref D) C) { s₂ with heap := h₁ } := by
    refine codeAny_compLoop_gen Inv ?_ _ start
    intro n s' hI
    refine cps fun Cg hCg => ?_
    obtain ⟨i, ys, dn, rest, ρi, m, cm, t₁, st₁, F₁, hρ, hpl, hrs, L₁, hout, hdl, hi, rfl⟩ := hI
    refine hCg ?_
    by_cases hlt : i < ds.length
    · refine withTok F₁.tk (W.item i _ _ _ hlt st₁ fun v h₁ tk₁ hMd hk₁ htk => ?_)
      refine W.go i v _ _ _ hMd fun h₂ hPv st₂ hk₂ => ?_
      have hkk : ∀ b ob, b ∉ wr → s'.heap.get? b = some ob → h₂.get? b = some ob := fun b ob hb e => hk₂ b ob hb (hk₁ b ob hb e)
      have F₄ : InF prog w (c₂ P₂ m cm) ρi { s' with heap := h₂, toks := tk₁ } := F₁.othersG (S := (· ∈ wr)) hkk (fun b hb => List.mem_append_left _ hb) (fun b ob h => h.2.2) (S.there _ _ st₂) (fun n a e => (hcells n a e).1) htk
      obtain ⟨d, hd, hit⟩ := S.item i v h₂ hlt hPv
      have hmem : d ∈ ds := List.mem_of_getElem? hd
      have hdrop : ds.drop i = d :: ds.drop (i + 1) := by
        rw [List.drop_eq_getElem_cons hlt]
        congr 1
        rw [List.getElem?_eq_getElem hlt] at hd
        exact Option.some.inj hd
      rw [hdrop] at L₁
      have up : ∀ {u du}, R prog w s₂.heap (wr ++ c.X) u du → R prog w h₂ X₂ u du := fun r => by
        refine R.monoN (fun b ob hb n e => F₄.Ph b ob ⟨n, e, fun hm => hb (List.mem_append_left _ hm)⟩) (fun b ob hb n e => ?_) r
        exact hXm b (fun h => Nat.lt_irrefl _ (Nat.lt_trans (ltD b ob e) (hW₂ b h))) (fun h => hb (List.mem_append_left _ h)) (fun h => Nat.lt_irrefl _ (h ▸ ltD b ob e)) fun h => hb (List.mem_append_right _ h)
      have hit' : ItR prog w h₂ h₂ X₂ v d := by
        rcases hit with r | ⟨t, a, b, da, db, rfl, ht, rfl, ra, rb⟩
        · exact .inl (up r)
        · exact .inr ⟨t, a, b, da, db, rfl, ht, rfl, up ra, up rb⟩
      have rv : R prog w h₂ X₂ v d := hn _ _ _ _ hmem hit'
      let P₃ : Addr → Obj → Prop := fun b ob => NT b ob ∧ h₂.get? b = some ob ∧ b ∉ Cx.W (c₂ P₂ (fun _ => none) fun _ => none)
      have F₅ : InF prog w (c₂ P₃ m cm) ρi { s' with heap := h₂, toks := tk₁ } := F₄.strengthenP (fun b ob h => ⟨h.1, F₄.Ph b ob h, F₄.PW b ob h⟩) (fun b ob h => h.1) (fun b ob h => h.2.1) fun b ob h => h.2.2
      have hks : canStore nc (mkEnv scope cl c.env C) x := hnc ▸ canStore_mk ok
      refine wpAny_assign_Name (F₅.store hks rv fun m' cm' s₃ t₃ F₆ => ?_)
      rw [hρ] at F₆
      cases L₁ with
      | cons hst hrest =>
        obtain ⟨b, hts, hb⟩ := hst.ok
        refine hts C (c₂ P₃ m' cm') rfl rfl s₃ _ _ F₆ fun s₄ k₄ => ?_
        have F₇ := F₆.keep k₄
        have t₄ : Tr s₂ s₄ := t₁.trans ((show Tr s' { s' with heap := h₂, toks := tk₁ } from ⟨_, _, rfl⟩).trans (t₃.trans k₄.tr))
        have fin : ∀ {s₅ : Shared}, Kp s₄ s₅ → St (i + 1) s₅.heap ∧ InF prog w (c₂ P₂ m' cm') (upd (inn cl ρ) x (.v d)) s₅ ∧ s₅.heap.PlainList D (List.toArray ys) ∧ Rs prog w s₅.heap X₂ ys dn := fun {s₅} k₅ => by
          have F₈ := F₇.keep k₅
          refine ⟨W.frame _ _ _ st₂ fun b hb ob e => by
            obtain ⟨o', e', n⟩ := S.fpx _ _ st₂ b hb
            have : o' = ob := Option.some.inj (e'.symm.trans e)
            exact F₈.Ph b ob ⟨this ▸ n.1, e, hfW b hb⟩, F₈.weakenP (fun b ob h => ⟨h.1, F₄.Ph b ob h, F₄.PW b ob h⟩) F₁.gP, ?_, ?_⟩
          · obtain ⟨nn, e⟩ := hpl
            exact ⟨nn, F₈.Ph D _ ⟨.cls rfl, hkk D _ (fun h => hwD D h rfl) e, hDW⟩⟩
          · exact hrs.monoN (fun b ob hb n e => F₈.Ph b ob ⟨n, hkk b ob (hmX b hb).2.1 e, (hmX b hb).1⟩) fun _ _ h _ _ => h
        rcases hb with ⟨rfl, rfl⟩ | ⟨t, rfl, rfl, helt⟩
        · simp only [Bool.false_eq_true, if_false]
          obtain ⟨f1, f2, f3, f4⟩ := fin (.refl s₄)
          exact ⟨ds.length + 1 - (i + 1), stepLt hlt, i + 1, ys, dn, _, _, m', cm', t₄, f1, f2, fun b => upd_upd .., f3, f4, hrest, hout, Nat.le_succ_of_le hdl, hlt, rfl⟩
        · simp only [if_true]
          refine helt C (c₂ P₃ m' cm') rfl rfl s₄ _ _ F₇ fun y s₅ k₅ r₅ => ?_
          obtain ⟨f1, f2, f3, f4⟩ := fin k₅
          refine wpAny_list_append_plain f3 (fun h' hp hsb => ?_) (by simp only [List.size_toArray]; rw [hrs.length]; exact Nat.le_trans hdl (Nat.le_trans hi (Nat.le_trans hz (by decide))))
          have k2 : (ys.toArray.push y) = (ys ++ [y]).toArray := by simp
          rw [k2] at hp
          refine ⟨ds.length + 1 - (i + 1), stepLt hlt, i + 1, ys ++ [y], dn ++ [t], _, upd (inn cl ρ) x (.v d), m', cm', t₄.trans (k₅.tr.trans ⟨_, _, rfl⟩), W.frame _ _ _ f1 fun b hb ob e => (hsb.2 b (hfD b hb)).trans e, ?_, fun b => upd_upd .., hp, ?_, hrest, ?_, ?_, hlt, rfl⟩
          · refine f2.othersG (S := (· = D)) (fun b ob hb e => (hsb.2 b hb).trans e) (fun b hb => hb ▸ List.mem_append_right _ (List.mem_cons_self ..)) (fun b ob h e => Nat.lt_irrefl _ (e ▸ ltD b ob h.2.1)) (fun b hb => ?_) (fun n a e => (hcells n a e).2) f2.tk
            obtain ⟨nn, e⟩ := hp; exact ⟨_, hb ▸ e, .cls rfl⟩
          · exact Rs.append (.cons (r₅.mono (fun b ob hb e => (hsb.2 b (hmX b hb).2.2.1).trans e) fun _ h _ => h) .nil) (f4.mono (fun b ob hb e => (hsb.2 b (hmX b hb).2.2.1).trans e) fun _ h _ => h)
          · rw [List.append_assoc]; exact hout
          · rw [List.length_append]; exact Nat.succ_le_succ hdl
    · have hin : i = ds.length := endEq hi hlt
      subst hin
      refine withTok F₁.tk (W.done _ _ _ st₁ fun h₂ tk₁ hk₁ htk => ?_)
      rw [List.drop_length] at L₁
      cases L₁
      rw [List.append_nil] at hout
      subst hout
      refine hRR D C ys _ ?_ ?_ htk (F₁.ti.off (S := (· ∈ wr)) hk₁ fun b hb => S.there _ _ st₁ b hb) ?_ ?_ ?_ ?_ ?_
      · exact k.tr.trans (t₁.trans ⟨_, _, rfl⟩)
      · intro b ob nt e
        have hbw : b ∉ wr := fun hm => S.fresh b hm ob nt e
        exact hk₁ b ob hbw (F₁.Ph b ob ⟨nt, k.heap b ob nt e, hbw⟩)
      · intro b ob nt e
        have h1 := ltD b ob (k.heap b ob nt e)
        have h2 : @Eq Nat (D + 1) C := hCC
        refine ⟨fun e => ?_, fun e => ?_⟩
        · exact neD h1 e
        · exact neC h2 h1 e
      · intro e
        have h2 : @Eq Nat (D + 1) C := hCC
        exact neDC h2 e
      · exact ⟨m, F₁.ns.at' fun o e => hk₁ _ o (hWw _ (List.mem_cons_self ..)) e⟩
      · obtain ⟨nn, e⟩ := hpl
        exact ⟨nn, hk₁ D _ (fun h => hwD D h rfl) e⟩
      · refine hrs.mono (fun b ob hb e => hk₁ b ob (hmX b hb).2.1 e) fun b hb _ hm => ?_
        rcases List.mem_cons.mp hm with h | h
        · exact (hmX b hb).1 (h ▸ List.mem_cons_self ..)
        · exact (hmX b hb).2.2.2 h
  exact codeAny_compStart_list loop (S.self 0 _ _ _ (W.frame _ _ _ S.st fun b _ o e => old b o e) loop)

end Mine
set_option maxRecDepth 10000
namespace Mine
open PySem

variable {prog : Program} {w : World} {A : Around} {g : Heap} {env : Env} {ow : List (Str × Addr)} {V : List Addr} {ρ : Str → Option B}

def GivesC (prog : Program) (w : World) (A : Around) (c : Cx) (ρ : Str → Option B) (tgt iter : Expr) (ds : List T) : Prop :=
  ∀ (s : Shared) (Q : Value → Shared → Prop) (E : Value → Shared → Prop), InF prog w c ρ s →
    (∀ s₂ I fp wr Pp Md St, Kp s s₂ → SrcC prog w A tgt c.X ds s I s₂ fp wr Pp Md St → Q (.ref I) s₂) → wpAny (model prog w) A (eval iter c.env) (fun x s1 => wpAny (model prog w) A (pyIter x) Q E s1) E s
theorem GivesC.gives {tgt iter : Expr} {ds : List T} (h : ∀ c : Cx, c.env = env → c.g = g → GivesC prog w A c ρ tgt iter ds) : Gives prog w A g env ρ tgt iter ds := fun c h1 h2 s Q E F hq => by
  have := h c h1 h2 s Q E F fun s₂ I fp wr Pp Md St k S => hq s₂ I fp wr Pp Md St k S.toSrc
  rw [h1] at this
  exact this

theorem Tr.kp {s s' : Shared} {h' : Heap} (t : Tr s s') (hk : ∀ b o, NT b o → s.heap.get? b = some o → h'.get? b = some o) (ht : 1 ≤ s'.toks) (ti : TI h') : Kp s { s' with heap := h' } := by
  obtain ⟨h1, t1, rfl⟩ := t
  exact ⟨⟨h', t1, rfl, hk, fun _ => ti⟩, fun _ => ht⟩
theorem SameBut.keep {C : Addr} {s s' h' : Heap} (hs : Heap.SameBut C s' h') (hk : ∀ b o, NT b o → s.get? b = some o → s'.get? b = some o) (hC : ∀ b o, NT b o → s.get? b = some o → b ≠ C) : ∀ b o, NT b o → s.get? b = some o → h'.get? b = some o :=
  fun b o n e => (hs.2 b (hC b o n e)).trans (hk b o n e)

theorem Ev.listComp {c : Cx} {scope : Scope} {cl : List (Str × Addr)} {x : Str} {px pos : Pos} {elt iter : Expr} {ifs : List Expr} {ds out : List T} (ok : CompOk c.env scope cl x) (hs : ∀ x, foldedSetIterable iter c.env x = pure x)
    (hg : GivesC prog w A c ρ (.Name x px) iter ds) (hn : ∀ h X v d, d ∈ ds → ItR prog w h h X v d → R prog w h X v d) (hL : CL prog w A c.g (mkEnv scope cl c.env) x ifs elt (inn cl ρ) ds out) (hz : ds.length ≤ 1000000) :
    Ev prog w A c ρ (.ListComp elt [⟨.Name x px, iter, ifs, 0⟩] scope pos) (.list out) := fun s Q E F hq => by
  rw [eval_ListComp]
  refine wpAny_comprehension_free (use := none) rfl hs ok.clos ok.kind ok.names (hg s _ _ F fun s₂ I fp wr Pp Md St k S => comp_list (RR := fun acc C => compPost (model prog w) A E none Q acc C) ok F k S hn hL hz ?_)
  intro D C vs s' t hk htk hti hfr hDC hns hpl hrs
  obtain ⟨m, hm⟩ := hns
  have hCo : ∃ o, s'.heap.get? C = some o ∧ XO o := let ⟨o, _, _, e, d, _⟩ := hm; ⟨o, e, .dict d⟩
  refine ⟨m, hm, fun h' hs' => hq (.ref D) _ (t.kp (SameBut.keep hs' hk fun b o n e => (hfr b o n e).2) htk (hti.same hs' hCo)) ?_⟩
  have hDX : D ∉ c.X := fun h => by obtain ⟨o, e, n⟩ := F.ex D h; exact (hfr D o n.1 e).1 rfl
  refine .list hDX (hpl.extBut hs'.extBut hDC) (hrs.mono (fun b o hb e => (hs'.2 b fun e' => hb (e' ▸ List.mem_cons_self ..)).trans e) fun b hb _ hm => hb (List.mem_cons_of_mem _ hm))

/-- a fresh address of somebody else's -/
theorem InF.moreC {P : Addr → Obj → Prop} {os m cm} {s s₂ : Shared} {C : Addr} (F : InF prog w ⟨g, P, env, ow, V, os, m, cm⟩ ρ s) (k : Kp s s₂) (hf : ∀ b o, NT b o → s.heap.get? b = some o → b ≠ C) (he : ∃ o, s₂.heap.get? C = some o ∧ XO o) :
    InF prog w ⟨g, P, env, ow, C :: V, os, m, cm⟩ ρ s₂ := by
  have F₂ := F.keep k
  have hnew : C ∉ Cx.X ⟨g, P, env, ow, V, os, m, cm⟩ := fun hm => by
    obtain ⟨o, e, n⟩ := F.ex C hm
    exact hf C o n.1 e rfl
  have up : ∀ b o, b ∉ Cx.X ⟨g, P, env, ow, V, os, m, cm⟩ → NT b o → s.heap.get? b = some o → b ∉ Cx.X ⟨g, P, env, ow, C :: V, os, m, cm⟩ := fun b o hb n e hm => by
    unfold Cx.X at hm hb
    simp only [List.mem_append, List.mem_cons] at hm hb
    rcases hm with h | h | h
    · exact hb (.inl h)
    · exact hf b o n e h
    · exact hb (.inr h)
  refine { tk := F₂.tk, ek := F₂.ek, eg := F₂.eg, eb := F₂.eb, gP := F₂.gP, Pn := F₂.Pn, Ph := F₂.Ph, PW := F₂.PW, nd := ?_, ex := fun b hb => ?_, ns := F₂.ns, cl := F₂.cl, ce := F₂.ce, cd := F₂.cd, ti := F₂.ti, nm := fun y b hy => ?_ }
  · have hnd := F.nd
    unfold Cx.X at hnd hnew ⊢
    rw [List.nodup_append] at hnd ⊢
    refine ⟨hnd.1, List.nodup_cons.mpr ⟨fun h => hnew (List.mem_append_right _ h), hnd.2.1⟩, fun a ha b hb e => ?_⟩
    rcases List.mem_cons.mp hb with h | h
    · exact hnew (List.mem_append_left _ (h ▸ e ▸ ha))
    · exact hnd.2.2 a ha b h e
  · unfold Cx.X at hb
    simp only [List.mem_append, List.mem_cons] at hb
    rcases hb with h | h | h
    · exact F₂.ex b (by unfold Cx.X; exact List.mem_append_left _ h)
    · exact h ▸ he
    · exact F₂.ex b (by unfold Cx.X; exact List.mem_append_right _ h)
  · obtain ⟨v, hb, hd⟩ := F.nm y b hy
    refine ⟨v, hb, ?_⟩
    cases b with
    | v d => exact R.monoN (fun b o _ n e => k.heap b o n e) up hd
    | o d =>
      obtain ⟨a', e1, e2, r⟩ := hd
      exact ⟨a', e1, e2, RO.monoN (fun b o _ n e => k.heap b o n e) up (fun o n e => k.heap _ o n e) r⟩

/-- the end of an assignment that takes a comprehension's value while its variables still stand -/
theorem use_end {P : Addr → Obj → Prop} {os m cm} {s s' : Shared} {D C : Addr} {y : Str} {py : Pos} {d : T} {Q : Flow → Shared → Prop} {E : Value → Shared → Prop} (hk : canStore ow env y)
    (F : InF prog w ⟨g, P, env, ow, V, os, m, cm⟩ ρ s) (t : Tr s s') (hkeep : ∀ b o, NT b o → s.heap.get? b = some o → s'.heap.get? b = some o) (htk : 1 ≤ s'.toks) (hti : TI s'.heap) (hfr : ∀ b o, NT b o → s.heap.get? b = some o → b ≠ D ∧ b ≠ C) (hDC : D ≠ C)
    (hns : ∃ m, s'.heap.Ns C m) (r : R prog w s'.heap (C :: Cx.X ⟨g, P, env, ow, V, os, m, cm⟩) (.ref D) d) (h : Post prog w g P env ow V s (.next (upd ρ y (.v d))) Q) :
    wpAny (model prog w) A (PySem.assign (.Name y py) env (.ref D)) (fun _ s'' => ∃ m, s''.heap.Ns C m ∧ ∀ h', Heap.SameBut C s''.heap h' → Q .next { s'' with heap := h' }) E s' := by
  obtain ⟨mC, hm⟩ := hns
  have hmo := hm
  obtain ⟨oC, _, _, eC, dC, _⟩ := hmo
  have k : Kp s s' := by have := t.kp (h' := s'.heap) hkeep htk hti; exact this
  have F₁ := F.moreC k (fun b o n e => (hfr b o n e).2) ⟨oC, eC, .dict dC⟩
  have hCW : C ∉ Cx.W ⟨g, P, env, ow, C :: V, os, m, cm⟩ := fun h => (List.nodup_append.mp F₁.nd).2.2 C h C (List.mem_cons_self ..) rfl
  have F₂ : InF prog w ⟨g, fun b o => P b o ∨ (NT b o ∧ b = C ∧ s'.heap.get? b = some o), env, ow, C :: V, os, m, cm⟩ ρ s' := F₁.strengthenP (fun b o h => .inl h) (fun b o h => h.elim (F₁.Pn b o) (·.1)) (fun b o h => h.elim (F₁.Ph b o) (·.2.2)) fun b o h => h.elim (F₁.PW b o) fun h => h.2.1 ▸ hCW
  have r' : R prog w s'.heap (Cx.X ⟨g, fun b o => P b o ∨ (NT b o ∧ b = C ∧ s'.heap.get? b = some o), env, ow, C :: V, os, m, cm⟩) (.ref D) d := r.sub fun b hb _ hm => by
    unfold Cx.X at hm
    simp only [List.mem_append, List.mem_cons] at hm
    rcases hm with h | h | h
    · exact hb (List.mem_cons_of_mem _ (List.mem_append_left _ h))
    · exact hb (h ▸ List.mem_cons_self ..)
    · exact hb (List.mem_cons_of_mem _ (List.mem_append_right _ h))
  refine wpAny_assign_Name (F₂.store hk r' fun m' cm' s'' t₂ F₃ => ?_)
  refine ⟨mC, NsN hm fun o n e => F₃.Ph C o (.inr ⟨n, rfl, e⟩), fun h' hs' => ?_⟩
  have F₄ : InF prog w ⟨g, P, env, ow, C :: V, os, m', cm'⟩ (upd ρ y (.v d)) s'' := F₃.weakenP (fun b o h => .inl h) F.gP
  have F₅ := F₄.leave (wr := [C]) (h' := h') (tk := s''.toks) (fun b o hb e => (hs'.2 b fun e' => hb (e' ▸ List.mem_cons_self ..)).trans e) (fun b o hb hm => (hfr b o (F.Pn b o hb) (F.Ph b o hb)).2 (List.mem_singleton.mp hm))
    (fun n a e hm => by obtain ⟨o, e1, d⟩ := F.cl n a e; exact (hfr a o (.cell d) e1).2 (List.mem_singleton.mp hm)) F₄.tk
  exact h os m' cm' _ (t.trans (t₂.trans ⟨_, _, rfl⟩)) F₅

theorem Ex1.assignListComp {scope : Scope} {cl : List (Str × Addr)} {x y : Str} {px py pos spos : Pos} {elt iter : Expr} {ifs : List Expr} {ds out : List T} (hsw : swapsWith (.ListComp elt [⟨.Name x px, iter, ifs, 0⟩] scope pos) (some (.Name y py)) spos.line env = pure true)
    (hk : canStore ow env y) (ok : CompOk env scope cl x) (hs : ∀ x, foldedSetIterable iter env x = pure x)
    (hg : ∀ c : Cx, c.env = env → c.g = g → GivesC prog w A c ρ (.Name x px) iter ds) (hn : ∀ h X v d, d ∈ ds → ItR prog w h h X v d → R prog w h X v d) (hL : CL prog w A g (mkEnv scope cl env) x ifs elt (inn cl ρ) ds out) (hz : ds.length ≤ 1000000) :
    Ex1 prog w A g env ow V ρ (.Assign [.Name y py] (.ListComp elt [⟨.Name x px, iter, ifs, 0⟩] scope pos) spos) (.next (upd ρ y (.v (.list out)))) := fun P os m cm s Q E F h => by
  rw [exec_Assign_Name_used _ _ _ _ hsw]
  refine wpAny_bind (wpAny_standAt (wpAny_bind ?_))
  show wpAny _ A (do let _ ← comprehension (.ListComp elt [⟨.Name x px, iter, ifs, 0⟩] scope pos) scope env _ (newList []) false (eval iter env) (some (PySem.assign (.Name y py) env))) _ _ s
  refine wpAny_bind (wpAny_mono (wpAny_comprehension_free (use := some (PySem.assign (.Name y py) env)) (Q := fun _ s' => Q .next s') rfl hs ok.clos ok.kind ok.names
    (hg ⟨g, P, env, ow, V, os, m, cm⟩ rfl rfl s _ _ F fun s₂ I fp wr Pp Md St k S => comp_list (c := ⟨g, P, env, ow, V, os, m, cm⟩) (RR := fun acc C => compPost (model prog w) A E (some (PySem.assign (.Name y py) env)) (fun _ s' => Q .next s') acc C) ok F k S hn hL hz ?_)) (fun _ s' hq => wpAny_pure (wpAny_pure hq)) fun _ _ e => e)
  intro D C vs s' t hkk htk hti hfr hDC hns hpl hrs
  have hDX : D ∉ C :: Cx.X ⟨g, P, env, ow, V, os, m, cm⟩ := fun hm => by
    rcases List.mem_cons.mp hm with h | h
    · exact hDC h
    · obtain ⟨o, e, n⟩ := F.ex D h; exact (hfr D o n.1 e).1 rfl
  exact use_end hk F t hkk htk hti hfr hDC hns (.list hDX hpl hrs) h

end Mine
set_option maxRecDepth 10000
namespace Mine
open PySem

variable {prog : Program} {w : World} {A : Around} {g : Heap} {env : Env} {ow : List (Str × Addr)} {V : List Addr} {ρ : Str → Option B}

theorem codeAny_compLoop_genD {kx vx target iter : Expr} {scope : Scope} {pos : Pos} {it : Value} {D : Addr} {env : Env} {R : Result → Shared → Prop} {s : Shared} (I : Nat → Shared → Prop)
    (turn : ∀ n s, I n s → wpAny (model prog w) A (pyNext it) (fun r s₁ => match r with
      | none => R (.ok .next) s₁
      | some v => wpAny (model prog w) A (letOwnedTupleGo target it v) (fun _ s₁' => wpAny (model prog w) A (PySem.assign target env v) (fun _ s₂ =>
          wpAny (model prog w) A (eval kx env) (fun kv s₄ => wpAny (model prog w) A (eval vx env) (fun vv s₅ =>
              wpAny (model prog w) A (dictSet D kv vv) (fun _ s₆ => ∃ m, m < n ∧ I m s₆) (notedBy (model prog w) A env fun e s' => R (.error e) s') s₅) (notedBy (model prog w) A env fun e s' => R (.error e) s') s₄) (notedBy (model prog w) A env fun e s' => R (.error e) s') s₂)
            (notedBy (model prog w) A env fun e s' => R (.error e) s') s₁') (notedBy (model prog w) A env fun e s' => R (.error e) s') s₁) (notedBy (model prog w) A env fun e s' => R (.error e) s') s)
    (n : Nat) (h : I n s) :
    codeAny (model prog w) A (.compLoop (.DictComp kx vx [⟨target, iter, [], 0⟩] scope pos) 0 it (.ref D) env) R s := by
  refine codeAny_loop rfl I (fun n s hI => ?_) n h
  show wpAny _ A ((compTurn (.DictComp kx vx [⟨target, iter, [], 0⟩] scope pos) 0 it (.ref D) env).onRaise (fun x => do noteFrame x env; theTreesLotGoes x)) _ _ s
  refine wpAny_noted ?_
  rw [compTurn_dict]
  refine wpAny_bind (wpAny_standAt (wpAny_bind (wpAny_mono (turn n s hI) (fun r s₁ h₁ => ?_) fun _ _ h' => h')))
  cases r with
  | none => exact wpAny_pure h₁
  | some v =>
    refine wpAny_bind (wpAny_mono h₁ (fun _ s₁' h₁' => ?_) fun _ _ h' => h')
    refine wpAny_bind (wpAny_mono h₁' (fun _ s₂ h₂ => wpAny_bind (wpAny_mono (wpAny_tests_nil (Q := fun ok s₃ => ok = true ∧ s₃ = s₂) ⟨rfl, rfl⟩) (fun ok s₃ h₃ => ?_) fun _ _ h' => h')) fun _ _ h' => h')
    obtain ⟨rfl, rfl⟩ := h₃
    exact wpAny_bind (wpAny_bind (wpAny_mono h₂ (fun kv s₄ h₄ => wpAny_bind (wpAny_holding (wpAny_mono h₄ (fun vv s₅ h₅ => wpAny_bind (wpAny_standAt (wpAny_holding (wpAny_mono h₅ (fun _ s₆ h₆ => wpAny_pure ⟨rfl, h₆⟩) fun _ _ h' => h')))) fun _ _ h' => h'))) fun _ _ h' => h'))

inductive CD (prog : Program) (w : World) (A : Around) (g : Heap) (mk : Addr → Env) (x : Str) (kx vx : Expr) (ρ : Str → Option B) : List (Int × T) → List T → List (Int × T) → Prop
  | nil {es : List (Int × T)} : CD prog w A g mk x kx vx ρ es [] es
  | cons {es out : List (Int × T)} {d t : T} {k : Int} {ds : List T} : ((∀ C, EvE prog w A g (mk C) (upd ρ x (.v d)) kx (.int k)) ∧ ∀ C, EvE prog w A g (mk C) (upd ρ x (.v d)) vx t) → CD prog w A g mk x kx vx ρ (vput es k t) ds out → CD prog w A g mk x kx vx ρ es (d :: ds) out

theorem sys_ne {D : Nat} (h : @LT.lt Nat _ mainGlobals D) : (D == sysModules) = false := by
  have h1 : @LT.lt Nat _ 1 D := Nat.lt_of_le_of_lt (show @LE.le Nat _ 1 mainGlobals by decide) h
  exact beq_eq_false_iff_ne.mpr (Nat.ne_of_gt h1)

theorem vput_length_le : ∀ (es : List (Int × T)) (k : Int) (d : T), (vput es k d).length ≤ es.length + 1
  | [], k, d => by simp [vput]
  | (k', d') :: r, k, d => by
    unfold vput
    have := vput_length_le r k d
    split <;> simp <;> omega

theorem comp_dict {c : Cx} {s s₂ : Shared} {scope : Scope} {cl : List (Str × Addr)} {x : Str} {px pos : Pos} {kx vx iter : Expr} {ds : List T} {out : List (Int × T)} {I : Addr} {fp wr : List Addr} {Pp Md : Nat → Value → Heap → Prop} {St : Nat → Heap → Prop}
    {RR : Value → Addr → Result → Shared → Prop} {E : Value → Shared → Prop} (ok : CompOk c.env scope cl x) (F : InF prog w c ρ s) (k : Kp s s₂) (S : SrcC prog w A (.Name x px) c.X ds s I s₂ fp wr Pp Md St)
    (hn : ∀ h X v d, d ∈ ds → ItR prog w h h X v d → R prog w h X v d) (hL : CD prog w A c.g (mkEnv scope cl c.env) x kx vx (inn cl ρ) [] ds out) (hz : ds.length ≤ 1000000)
    (hRR : ∀ D C vs s', Tr s s' → (∀ b o, NT b o → s.heap.get? b = some o → s'.heap.get? b = some o) → 1 ≤ s'.toks → TI s'.heap → (∀ b o, NT b o → s.heap.get? b = some o → @LT.lt Nat _ b D ∧ b ≠ C) → D ≠ C → (∃ m, s'.heap.Ns C m) → s'.heap.DictOf (intKind prog w) D vs → Rk prog w s'.heap (C :: c.X) vs out → RR (.ref D) C (.ok .next) s') :
    wpAny (model prog w) A newDict (fun acc s₃ => wpAny (model prog w) A (newFunctionEnv scope c.env.globals cl [] c.env.qual none .none (some c.env)) (fun cenv s₄ =>
      codeAny (model prog w) A (.compStart (.DictComp kx vx [⟨.Name x px, iter, [], 0⟩] scope pos) 0 (.ref I) acc { cenv with scope := relabel scope c.env }) (RR acc cenv.locals) s₄) E s₃) E s₂ := by
  have W := S.turns
  refine wpAny_newObj_type (newEnv_comp ?_)
  obtain ⟨hacc, old, ncC, F₀⟩ := comp_ctx ok F k S.fresh S.nd (S.there 0 _ S.st) { cls := .type "dict", dict := none, data := .dict #[] } rfl (.cls rfl) _ rfl
  dsimp only at hacc old ncC F₀ ⊢
  have hC : (s₂.heap.push { cls := .type "dict", dict := none, data := .dict #[] }).objs.size = s₂.heap.objs.size + 1 := Heap.size_push ..
  rw [hC] at *
  generalize hh₁ : pushCells ((s₂.heap.push { cls := .type "dict", dict := none, data := .dict #[] }).push { cls := .type "dict", data := .dict #[] }) scope.names = h₁ at hacc old F₀ ⊢
  generalize hCC : s₂.heap.objs.size + 1 = C at *
  generalize hD : s₂.heap.objs.size = D at *
  generalize hnc : cellsFrom (C + 1) scope.names [] = nc at *
  let P₂ : Addr → Obj → Prop := fun b o => NT b o ∧ s₂.heap.get? b = some o ∧ b ∉ wr
  let c₂ : (Addr → Obj → Prop) → (Str → Option Value) → (Str → Option Value) → Cx := fun P m cm => ⟨c.g, P, mkEnv scope cl c.env C, nc, wr ++ D :: c.X, [], m, cm⟩
  let X₂ : List Addr := Cx.X (c₂ P₂ (fun _ => none) fun _ => none)
  have ltD : ∀ b o, s₂.heap.get? b = some o → @LT.lt Nat _ b D := fun b o e => hD ▸ Heap.lt_size e
  have hW₂ : ∀ b, b ∈ Cx.W (c₂ P₂ (fun _ => none) fun _ => none) → @LT.lt Nat _ D b := fun b hb => by
    have h2 : @Eq Nat (D + 1) C := hCC
    rcases List.mem_cons.mp hb with h | h
    · exact ltC h2 h
    · have h0 : b ∈ nc.map (·.2) := by simpa [c₂, Cx.W] using h
      exact ltC' h2 (ncC b h0)
  have hDX : D ∉ c.X := fun hm => by obtain ⟨o, e, _⟩ := (F.keep k).ex D hm; exact Nat.lt_irrefl _ (ltD D o e)
  have hXw : ∀ b ∈ c.X, b ∉ wr := fun b hb hw => by
    obtain ⟨o, e, n⟩ := F.ex b hb
    exact S.fresh b hw o n.1 e
  have hwD : ∀ b ∈ wr, b ≠ D := fun b hb e => by
    obtain ⟨o, e', _⟩ := S.there 0 _ S.st b hb
    exact Nat.lt_irrefl _ (e ▸ ltD b o e')
  have hfW : ∀ b ∈ fp, b ∉ Cx.W (c₂ P₂ (fun _ => none) fun _ => none) := fun b hb hm => by
    obtain ⟨o, e, _⟩ := S.fpx 0 _ S.st b hb
    exact Nat.lt_irrefl _ (Nat.lt_trans (ltD b o e) (hW₂ b hm))
  have hfD : ∀ b ∈ fp, b ≠ D := fun b hb e => by
    obtain ⟨o, e', _⟩ := S.fpx 0 _ S.st b hb
    exact Nat.lt_irrefl _ (e ▸ ltD b o e')
  have hWw : ∀ b, b ∈ Cx.W (c₂ P₂ (fun _ => none) fun _ => none) → b ∉ wr := fun b hb hw => by
    obtain ⟨o, e', _⟩ := S.there 0 _ S.st b hw
    exact Nat.lt_irrefl _ (Nat.lt_trans (ltD b o e') (hW₂ b hb))
  have hDW : D ∉ Cx.W (c₂ P₂ (fun _ => none) fun _ => none) := fun h => Nat.lt_irrefl _ (hW₂ D h)
  have hmX : ∀ b, b ∉ X₂ → b ∉ Cx.W (c₂ P₂ (fun _ => none) fun _ => none) ∧ b ∉ wr ∧ b ≠ D ∧ b ∉ c.X := fun b hb => by
    refine ⟨fun h => hb (List.mem_append_left _ h), fun h => hb (List.mem_append_right _ (List.mem_append_left _ h)), fun h => hb (List.mem_append_right _ (List.mem_append_right _ (h ▸ List.mem_cons_self ..))), fun h => hb (List.mem_append_right _ (List.mem_append_right _ (List.mem_cons_of_mem _ h)))⟩
  have hXm : ∀ b, b ∉ Cx.W (c₂ P₂ (fun _ => none) fun _ => none) → b ∉ wr → b ≠ D → b ∉ c.X → b ∉ X₂ := fun b h1 h2 h3 h4 hm => by
    rcases List.mem_append.mp hm with h | h
    · exact h1 h
    · rcases List.mem_append.mp h with h | h
      · exact h2 h
      · rcases List.mem_cons.mp h with h | h
        · exact h3 h
        · exact h4 h
  have hcells : ∀ n a, (mkEnv scope cl c.env C).cells.lookup n = some a → a ∉ wr ∧ a ≠ D := fun n a e => by
    have e' : (nc ++ cl).lookup n = some a := by
      have := cellsFrom_append scope.names (C + 1) cl
      rw [hnc] at this
      rw [← this]; exact e
    rw [lookup_append] at e'
    cases hc : nc.lookup n with
    | some b =>
      rw [hc] at e'; cases e'
      have hm : a ∈ Cx.W (c₂ P₂ (fun _ => none) fun _ => none) := List.mem_cons_of_mem _ (List.mem_append_left _ (mem_cells hc))
      exact ⟨hWw a hm, fun e => hDW (e ▸ hm)⟩
    | none =>
      rw [hc] at e'
      have hcl := ok.cls (n, a) (mem_of_lookup e')
      refine ⟨fun hm => by obtain ⟨o, e1, d⟩ := F.cl n a hcl; exact S.fresh a hm o (.cell d) e1, fun e => ?_⟩
      have := ((F.keep k).cl n a hcl).lt
      rw [hD] at this
      exact Nat.lt_irrefl _ (e ▸ this)
  let Inv : Nat → Shared → Prop := fun kk s' => ∃ i ys dn ρi m cm, Tr s₂ s' ∧ St i s'.heap ∧ InF prog w (c₂ P₂ m cm) ρi s' ∧ (∀ b, upd ρi x b = upd (inn cl ρ) x b) ∧ s'.heap.DictOf (intKind prog w) D ys ∧ Rk prog w s'.heap X₂ ys dn ∧
    CD prog w A c.g (mkEnv scope cl c.env) x kx vx (inn cl ρ) dn (ds.drop i) out ∧ dn.length ≤ i ∧ i ≤ ds.length ∧ kk = ds.length + 1 - i
  have hdict : h₁.DictOf (intKind prog w) D [] := ⟨_, #[], 0, hacc, ⟨rfl, rfl, rfl⟩, rfl, fun _ he => by simp at he, Pairs.nil, List.nodup_nil⟩
  have start : Inv (ds.length + 1) { s₂ with heap := h₁ } := ⟨0, [], [], inn cl ρ, _, _, ⟨_, _, rfl⟩, W.frame _ _ _ S.st (fun b _ o e => old b o e), F₀, fun _ => rfl, hdict, .nil, by simpa using hL, Nat.le_refl _, Nat.zero_le _, rfl⟩
  have loop : codeAny (model prog w) A (.compLoop (.DictComp kx vx [⟨.Name x px, iter, [], 0⟩] scope pos) 0 (.ref I) (.ref D) (mkEnv scope cl c.env C)) (RR (.ref D) C) { s₂ with heap := h₁ } := by
    refine codeAny_compLoop_genD Inv ?_ _ start
    intro n s' hI
    refine cps fun Cg hCg => ?_
    obtain ⟨i, ys, dn, ρi, m, cm, t₁, st₁, F₁, hρ, hpl, hrs, L₁, hdl, hi, rfl⟩ := hI
    refine hCg ?_
    by_cases hlt : i < ds.length
    · refine withTok F₁.tk (W.item i _ _ _ hlt st₁ fun v h₁ tk₁ hMd hk₁ htk => ?_)
      refine W.go i v _ _ _ hMd fun h₂ hPv st₂ hk₂ => ?_
      have hkk : ∀ b ob, b ∉ wr → s'.heap.get? b = some ob → h₂.get? b = some ob := fun b ob hb e => hk₂ b ob hb (hk₁ b ob hb e)
      have F₄ : InF prog w (c₂ P₂ m cm) ρi { s' with heap := h₂, toks := tk₁ } := F₁.othersG (S := (· ∈ wr)) hkk (fun b hb => List.mem_append_left _ hb) (fun b ob h => h.2.2) (S.there _ _ st₂) (fun n a e => (hcells n a e).1) htk
      obtain ⟨d, hd, hit⟩ := S.item i v h₂ hlt hPv
      have hmem : d ∈ ds := List.mem_of_getElem? hd
      have hdrop : ds.drop i = d :: ds.drop (i + 1) := by
        rw [List.drop_eq_getElem_cons hlt]
        congr 1
        rw [List.getElem?_eq_getElem hlt] at hd
        exact Option.some.inj hd
      rw [hdrop] at L₁
      have up : ∀ {u du}, R prog w s₂.heap (wr ++ c.X) u du → R prog w h₂ X₂ u du := fun r => by
        refine R.monoN (fun b ob hb n e => F₄.Ph b ob ⟨n, e, fun hm => hb (List.mem_append_left _ hm)⟩) (fun b ob hb n e => ?_) r
        exact hXm b (fun h => Nat.lt_irrefl _ (Nat.lt_trans (ltD b ob e) (hW₂ b h))) (fun h => hb (List.mem_append_left _ h)) (fun h => Nat.lt_irrefl _ (h ▸ ltD b ob e)) fun h => hb (List.mem_append_right _ h)
      have hit' : ItR prog w h₂ h₂ X₂ v d := by
        rcases hit with r | ⟨t, a, b, da, db, rfl, ht, rfl, ra, rb⟩
        · exact .inl (up r)
        · exact .inr ⟨t, a, b, da, db, rfl, ht, rfl, up ra, up rb⟩
      have rv : R prog w h₂ X₂ v d := hn _ _ _ _ hmem hit'
      let P₃ : Addr → Obj → Prop := fun b ob => NT b ob ∧ h₂.get? b = some ob ∧ b ∉ Cx.W (c₂ P₂ (fun _ => none) fun _ => none)
      have F₅ : InF prog w (c₂ P₃ m cm) ρi { s' with heap := h₂, toks := tk₁ } := F₄.strengthenP (fun b ob h => ⟨h.1, F₄.Ph b ob h, F₄.PW b ob h⟩) (fun b ob h => h.1) (fun b ob h => h.2.1) fun b ob h => h.2.2
      have hks : canStore nc (mkEnv scope cl c.env C) x := hnc ▸ canStore_mk ok
      refine wpAny_assign_Name (F₅.store hks rv fun m' cm' s₃ t₃ F₆ => ?_)
      rw [hρ] at F₆
      cases L₁ with
      | cons hst hrest =>
        obtain ⟨hkx, hvx⟩ := hst
        refine hkx C (c₂ P₃ m' cm') rfl rfl s₃ _ _ F₆ fun kv s₄ k₄ r₄ => ?_
        have F₇ := F₆.keep k₄
        refine hvx C (c₂ P₃ m' cm') rfl rfl s₄ _ _ F₇ fun vv s₅ k₅ r₅ => ?_
        have F₈ := F₇.keep k₅
        have t₅ : Tr s₂ s₅ := t₁.trans ((show Tr s' { s' with heap := h₂, toks := tk₁ } from ⟨_, _, rfl⟩).trans (t₃.trans (k₄.tr.trans k₅.tr)))
        have f1 : St (i + 1) s₅.heap := W.frame _ _ _ st₂ fun b hb ob e => by
            obtain ⟨o', e', n⟩ := S.fpx _ _ st₂ b hb
            have : o' = ob := Option.some.inj (e'.symm.trans e)
            exact F₈.Ph b ob ⟨this ▸ n.1, e, hfW b hb⟩
        have f2 : InF prog w (c₂ P₂ m' cm') _ s₅ := F₈.weakenP (fun b ob h => ⟨h.1, F₄.Ph b ob h, F₄.PW b ob h⟩) F₁.gP
        have f3 : s₅.heap.DictOf (intKind prog w) D ys := by
          obtain ⟨o, es, ep, e, q⟩ := hpl
          exact ⟨o, es, ep, F₈.Ph D _ ⟨.cls q.1.1, hkk D _ (fun h => hwD D h rfl) e, hDW⟩, q⟩
        have f4 : Rk prog w s₅.heap X₂ ys dn := hrs.monoN (fun b ob hb n e => F₈.Ph b ob ⟨n, hkk b ob (hmX b hb).2.1 e, (hmX b hb).1⟩) fun _ _ h _ _ => h
        cases r₄ with
        | int _ tt =>
        refine wpAny_dictSet_pairs (knd := intKind prog w) (intKind_is prog w _ tt) f3 (fun h' hp hsb => ?_) (by rw [hrs.length]; exact Nat.le_trans hdl (Nat.le_trans hi (Nat.le_trans hz (by decide))))
        refine ⟨ds.length + 1 - (i + 1), stepLt hlt, i + 1, _, _, upd (inn cl ρ) x (.v d), m', cm', t₅.trans ⟨_, _, rfl⟩, W.frame _ _ _ f1 fun b hb ob e => (hsb.2 b (hfD b hb)).trans e, ?_, fun b => upd_upd .., hp, ?_, hrest, ?_, hlt, rfl⟩
        · refine f2.othersG (S := (· = D)) (fun b ob hb e => (hsb.2 b hb).trans e) (fun b hb => hb ▸ List.mem_append_right _ (List.mem_cons_self ..)) (fun b ob h e => Nat.lt_irrefl _ (e ▸ ltD b ob h.2.1)) (fun b hb => ?_) (fun n a e => (hcells n a e).2) (Nat.le_succ_of_le f2.tk)
          obtain ⟨o, es, ep, e, q⟩ := hp; exact ⟨_, hb ▸ e, .cls q.1.1⟩
        · exact Rk.put _ (r₅.mono (fun b ob hb e => (hsb.2 b (hmX b hb).2.2.1).trans e) fun _ h _ => h) (f4.mono (fun b ob hb e => (hsb.2 b (hmX b hb).2.2.1).trans e) fun _ h _ => h)
        · have := vput_length_le dn
          exact Nat.le_trans (this _ _) (Nat.succ_le_succ hdl)
    · have hin : i = ds.length := endEq hi hlt
      subst hin
      refine withTok F₁.tk (W.done _ _ _ st₁ fun h₂ tk₁ hk₁ htk => ?_)
      rw [List.drop_length] at L₁
      cases L₁
      refine hRR D C ys _ ?_ ?_ htk (F₁.ti.off (S := (· ∈ wr)) hk₁ fun b hb => S.there _ _ st₁ b hb) ?_ ?_ ?_ ?_ ?_
      · exact k.tr.trans (t₁.trans ⟨_, _, rfl⟩)
      · intro b ob nt e
        have hbw : b ∉ wr := fun hm => S.fresh b hm ob nt e
        exact hk₁ b ob hbw (F₁.Ph b ob ⟨nt, k.heap b ob nt e, hbw⟩)
      · intro b ob nt e
        have h1 := ltD b ob (k.heap b ob nt e)
        have h2 : @Eq Nat (D + 1) C := hCC
        refine ⟨h1, fun e => ?_⟩
        · exact neC h2 h1 e
      · intro e
        have h2 : @Eq Nat (D + 1) C := hCC
        exact neDC h2 e
      · exact ⟨m, F₁.ns.at' fun o e => hk₁ _ o (hWw _ (List.mem_cons_self ..)) e⟩
      · obtain ⟨o, es, ep, e, q⟩ := hpl
        exact ⟨o, es, ep, hk₁ D _ (fun h => hwD D h rfl) e, q⟩
      · refine hrs.mono (fun b ob hb e => hk₁ b ob (hmX b hb).2.1 e) fun b hb _ hm => ?_
        rcases List.mem_cons.mp hm with h | h
        · exact (hmX b hb).1 (h ▸ List.mem_cons_self ..)
        · exact (hmX b hb).2.2.2 h
  exact codeAny_compStart_dict loop (S.self 0 _ _ _ (W.frame _ _ _ S.st fun b _ o e => old b o e) loop)


theorem Ev.dictComp {c : Cx} {scope : Scope} {cl : List (Str × Addr)} {x : Str} {px pos : Pos} {kx vx iter : Expr} {ds : List T} {out : List (Int × T)} (ok : CompOk c.env scope cl x) (hs : ∀ x, foldedSetIterable iter c.env x = pure x)
    (hg : GivesC prog w A c ρ (.Name x px) iter ds) (hn : ∀ h X v d, d ∈ ds → ItR prog w h h X v d → R prog w h X v d) (hL : CD prog w A c.g (mkEnv scope cl c.env) x kx vx (inn cl ρ) [] ds out) (hz : ds.length ≤ 1000000) (hm : ∃ o, c.g.get? mainGlobals = some o ∧ XO o) :
    Ev prog w A c ρ (.DictComp kx vx [⟨.Name x px, iter, [], 0⟩] scope pos) (.dict out) := fun s Q E F hq => by
  rw [arm_eval_DictComp]
  refine wpAny_comprehension_free (use := none) rfl hs ok.clos ok.kind ok.names (hg s _ _ F fun s₂ I fp wr Pp Md St k S => comp_dict (RR := fun acc C => compPost (model prog w) A E none Q acc C) ok F k S hn hL hz ?_)
  intro D C vs s' t hk htk hti hfr hDC hns hpl hrs
  obtain ⟨m, hmC⟩ := hns
  have hCo : ∃ o, s'.heap.get? C = some o ∧ XO o := let ⟨o, _, _, e, d, _⟩ := hmC; ⟨o, e, .dict d⟩
  refine ⟨m, hmC, fun h' hs' => hq (.ref D) _ (t.kp (SameBut.keep hs' hk fun b o n e => (hfr b o n e).2) htk (hti.same hs' hCo)) ?_⟩
  have hDX : D ∉ c.X := fun h => by obtain ⟨o, e, n⟩ := F.ex D h; exact Nat.lt_irrefl _ (hfr D o n.1 e).1
  refine .dict hDX ?_ (hpl.extBut hs'.extBut hDC) (hrs.mono (fun b o hb e => (hs'.2 b fun e' => hb (e' ▸ List.mem_cons_self ..)).trans e) fun b hb _ hm => hb (List.mem_cons_of_mem _ hm))
  obtain ⟨o, e, n⟩ := hm
  exact sys_ne (hfr _ o n.1 (F.ground _ o n.1 e)).1

theorem Ex1.assignDictComp {scope : Scope} {cl : List (Str × Addr)} {x y : Str} {px py pos spos : Pos} {kx vx iter : Expr} {ds : List T} {out : List (Int × T)} (hsw : swapsWith (.DictComp kx vx [⟨.Name x px, iter, [], 0⟩] scope pos) (some (.Name y py)) spos.line env = pure true)
    (hk : canStore ow env y) (ok : CompOk env scope cl x) (hs : ∀ x, foldedSetIterable iter env x = pure x)
    (hg : ∀ c : Cx, c.env = env → c.g = g → GivesC prog w A c ρ (.Name x px) iter ds) (hn : ∀ h X v d, d ∈ ds → ItR prog w h h X v d → R prog w h X v d) (hL : CD prog w A g (mkEnv scope cl env) x kx vx (inn cl ρ) [] ds out) (hz : ds.length ≤ 1000000) (hm : ∃ o, g.get? mainGlobals = some o ∧ XO o) :
    Ex1 prog w A g env ow V ρ (.Assign [.Name y py] (.DictComp kx vx [⟨.Name x px, iter, [], 0⟩] scope pos) spos) (.next (upd ρ y (.v (.dict out)))) := fun P os m cm s Q E F h => by
  rw [exec_Assign_Name_used _ _ _ _ hsw]
  refine wpAny_bind (wpAny_standAt (wpAny_bind ?_))
  show wpAny _ A (do let _ ← comprehension (.DictComp kx vx [⟨.Name x px, iter, [], 0⟩] scope pos) scope env _ newDict false (eval iter env) (some (PySem.assign (.Name y py) env))) _ _ s
  refine wpAny_bind (wpAny_mono (wpAny_comprehension_free (use := some (PySem.assign (.Name y py) env)) (Q := fun _ s' => Q .next s') rfl hs ok.clos ok.kind ok.names
    (hg ⟨g, P, env, ow, V, os, m, cm⟩ rfl rfl s _ _ F fun s₂ I fp wr Pp Md St k S => comp_dict (c := ⟨g, P, env, ow, V, os, m, cm⟩) (RR := fun acc C => compPost (model prog w) A E (some (PySem.assign (.Name y py) env)) (fun _ s' => Q .next s') acc C) ok F k S hn hL hz ?_)) (fun _ s' hq => wpAny_pure (wpAny_pure hq)) fun _ _ e => e)
  intro D C vs s' t hkk htk hti hfr hDC hns hpl hrs
  have hDX : D ∉ C :: Cx.X ⟨g, P, env, ow, V, os, m, cm⟩ := fun hm => by
    rcases List.mem_cons.mp hm with h | h
    · exact hDC h
    · obtain ⟨o, e, n⟩ := F.ex D h; exact Nat.lt_irrefl _ (hfr D o n.1 e).1
  obtain ⟨o, e, n⟩ := hm
  exact use_end hk F t hkk htk hti (fun b o n e => ⟨Nat.ne_of_lt (hfr b o n e).1, (hfr b o n e).2⟩) hDC hns (.dict hDX (sys_ne (hfr _ o n.1 (F.ground _ o n.1 e)).1) hpl hrs) h

end Mine
set_option maxRecDepth 10000
namespace Mine
open PySem

variable {prog : Program} {w : World} {A : Around} {g : Heap} {env : Env} {ow : List (Str × Addr)} {V : List Addr} {ρ : Str → Option B} {c : Cx}

theorem callB_raw {f : Str} {p pos : Pos} {fv : Value} {args : List Expr} {ds : List T} {mg mb : Str → Option Value} {s : Shared} {Q : Value → Shared → Prop} {E : Value → Shared → Prop} (hg : Gnd c.g mg mb)
    (hk : c.env.kindOf f = some .globalImplicit) (hn : plainName f = true) (hv : mg f = Option.none) (hb : mb f = some fv) (hkp : keeperOf fv = pure .machine) (hu : args.all unstarred = true)
    (hL : EvL prog w A c ρ pos args ds) (F : InF prog w c ρ s) (hq : ∀ vs s1, Kp s s1 → Rs prog w s1.heap c.X vs ds → wpAny (model prog w) A (call fv vs) Q E s1) : wpAny (model prog w) A (eval (.Call (.Name f p) args [] pos) c.env) Q E s := by
  rw [eval_Call_plain rfl]
  refine wpAny_bind (load_global hg F hk hn (.inr ⟨hv, hb⟩) ?_)
  exact callWith_machine hkp (backTo_plain hu).1 (evalArgs_L hu hL F hq)

theorem meth_raw {o : Expr} {name : Str} {apos pos : Pos} {args : List Expr} {d0 : T} {ds : List T} {t id : String} {s : Shared} {Q : Value → Shared → Prop} {E : Value → Shared → Prop} (hnc : notCall o = true) (hline : (apos.endLine == pos.line) = true) (hu : args.all unstarred = true)
    (hlen : args.length < 30) (pa : PlainAttrs t) (slot : Slot t name id) (hty : typeOf (.builtin id) = pure (.type "method_descriptor")) (ht : tyOf d0 = some t)
    (h0 : Ev prog w A c ρ o d0) (hL : EvL prog w A c ρ pos args ds) (F : InF prog w c ρ s) (hq : ∀ v vs s1, Kp s s1 → R prog w s1.heap c.X v d0 → Rs prog w s1.heap c.X vs ds → wpAny (model prog w) A (call (.builtin id) (v :: vs)) Q E s1) :
    wpAny (model prog w) A (eval (.Call (.Attribute o name apos) args [] pos) c.env) Q E s := by
  have hfew : ((backTo pos (starEach args c.env)).all (fun x => !x.1) && (backToKw pos (keywordEach [] c.env)).all (fun x => x.1.isSome)
      && decide (args.length + ([] : List Keyword).length + (if ([] : List Keyword).isEmpty then 0 else 1) < 30)) = true := by
    rw [(backTo_plain hu).2]
    show (true && true && decide (args.length + 0 + 0 < 30)) = true
    rw [decide_eq_true (by omega)]; rfl
  refine wpAny_Call_method_late (attributeBase_plain hnc) hfew hline rfl (h0 s _ _ F fun v s1 k1 r1 => ?_)
  obtain ⟨hT, hd⟩ := r1.typeIs ht
  refine ⟨t, id, pa, slot, hty, hT, hd, callWith_machine rfl (backTo_plain hu).1 (evalArgs_L hu hL (F.keep k1) fun vs s2 k2 r2 => ?_)⟩
  exact hq v vs s2 (k1.trans k2) (r1.keep k2.heap) r2

theorem new_none {s s₁ : Shared} (k : Kp s s₁) : ∀ o, NT s₁.heap.objs.size o → s.heap.get? s₁.heap.objs.size = some o → False := fun o n e => Nat.lt_irrefl _ (Heap.lt_size (k.heap _ o n e))
theorem new_none' {s s₁ : Shared} (k : Kp s s₁) {i : Nat} (h : s₁.heap.objs.size ≤ i) : ∀ o, NT i o → s.heap.get? i = some o → False := fun o n e => Nat.lt_irrefl _ (Nat.lt_of_lt_of_le (Heap.lt_size (k.heap _ o n e)) h)

def rngT (a c : Int) (n : Nat) : List T := (List.range n).map fun (i : Nat) => T.int (a + (i : Int) * c)

theorem src_range {x : Str} {px : Pos} {s s₁ : Shared} {r : Addr} {a b cc : Int} {t u v : Tok} {n : Nat} {Q : Value → Shared → Prop} {E : Value → Shared → Prop} (hh : A.handled = none) (F : InF prog w c ρ s) (k : Kp s s₁) (hr : IsRange s₁.heap r a b cc t u v)
    (hsmall : Builtin.Range.small a b cc = true) (hn : Builtin.Range.rangeSize a b cc = (n : Int))
    (hq : ∀ s₂ I fp wr Pp Md St, Kp s s₂ → SrcC prog w A (.Name x px) c.X (rngT a cc n) s I s₂ fp wr Pp Md St → Q (.ref I) s₂) : wpAny (model prog w) A (pyIter (.ref r)) Q E s₁ := by
  refine wpAny_pyIter_range hr hsmall ?_
  have W := Walks.range (prog := prog) (w := w) hh s₁.heap.objs.size a cc n
  have hl : (rngT a cc n).length = n := by simp [rngT]
  refine hq _ _ [s₁.heap.objs.size] [s₁.heap.objs.size] _ _ _ (k.trans .push) { turns := by rw [hl]; exact PySem.W.KTurns.ofWalks W fun i v s Q E _ h => wpAny_pure h, st := ?_, kp := (k.trans .push).1, fresh := ?_, there := ?_, nd := by simp, apart := ?_, fpx := ?_, item := ?_, self := W.self }
  · show Heap.get? _ _ = _
    rw [hn]
    have e := Heap.get?_push_size s₁.heap (o := { cls := .type "range_iterator", dict := none, data := .fields #[rawInt a, rawInt (n : Int), rawInt cc], slots := #[] }) rfl
    rw [e]
    simp
  · intro b hb; rw [List.mem_singleton.mp hb]; exact new_none k
  · intro i h st b hb; rw [List.mem_singleton.mp hb]; exact ⟨_, st, .cls rfl⟩
  · intro b hb; rw [List.mem_singleton.mp hb]; exact fresh_notin (F.keep k).ex
  · intro i h st b hb; rw [List.mem_singleton.mp hb]; exact ⟨_, st, .cls rfl⟩
  · rintro i v h' hi ⟨t, rfl⟩
    rw [hl] at hi
    exact ⟨.int (a + (i : Int) * cc), by simp [rngT, hi], .inl (.int _ _)⟩

theorem bd64 {a : Int} (h : -1000000000 ≤ a ∧ a ≤ 1000000000) : -2 ^ 63 ≤ a ∧ a < 2 ^ 63 := ⟨Int.le_trans (by decide) h.1, Int.lt_of_le_of_lt h.2 (by decide)⟩
theorem small_bd {a b c : Int} (ha : -1000000000 ≤ a ∧ a ≤ 1000000000) (hb : -1000000000 ≤ b ∧ b ≤ 1000000000) (hc : 1 ≤ c ∧ c ≤ 1000000000) : Builtin.Range.small a b c = true := by
  unfold Builtin.Range.small Builtin.Range.rangeSize
  have hc0 : c > 0 := by omega
  simp only [Builtin.Range.rangeFitsLong, Bool.and_eq_true, Bool.or_eq_true, decide_eq_true_eq, beq_iff_eq, if_pos hc0]
  have h1 : (b - a - 1) / c ≤ (b - a - 1).natAbs := by
    rcases Int.lt_or_le (b - a - 1) 0 with h | h
    · have : (b - a - 1) / c < 0 := Int.ediv_neg_of_neg_of_pos h hc0
      omega
    · have : (b - a - 1) / c ≤ (b - a - 1) := Int.ediv_le_self _ h
      omega
  have h2 : a < b → 0 ≤ (b - a - 1) / c := fun h => Int.ediv_nonneg (by omega) (by omega)
  split <;> omega

theorem GivesC.range1 {x : Str} {p px pos : Pos} {e : Expr} {n : Nat} {mg mb : Str → Option Value} (hh : A.handled = none) (hg : Gnd c.g mg mb) (hk : c.env.kindOf "range" = some .globalImplicit) (hv : mg "range" = Option.none) (hb : mb "range" = some (.type "range"))
    (hu : unstarred e = true) (he : Ev prog w A c ρ e (.int n)) (hn : n ≤ 1000000000) : GivesC prog w A c ρ (.Name x px) (.Call (.Name "range" p) [e] [] pos) (rngT 0 1 n) := fun s Q E F hq => by
  refine callB_raw hg hk (by decide) hv hb (keeperOf_type "range") (by simp [hu]) (EvL.cons hu he .nil) F fun vs s1 k1 r1 => ?_
  · have hP := r1.p
    clear r1
    obtain ⟨_, _, rfl, r1, r2⟩ := hP
    obtain rfl := r2.p
    obtain ⟨t, rfl⟩ := r1.p
    refine call_range_1 ?_
    have k2 : Kp s1 { s1 with heap := s1.heap.push { cls := .type "range", data := .fields #[.int 0 s1.toks, .int (n : Int) t, .int 1 (s1.toks + 1)] }, toks := s1.toks + 1 + 1 } := ⟨.of' fun b o e => Heap.get?_push_of_some _ e, fun h => Nat.le_succ_of_le (Nat.le_succ_of_le h)⟩
    exact src_range hh F (k1.trans k2) (IsRange.new _ 0 n 1 _ _ _) (small_bd (by omega) (by omega) (by omega)) (by rw [rangeSize_one]; split <;> omega) hq

theorem GivesC.range2 {x : Str} {p px pos : Pos} {e1 e2 : Expr} {a b : Int} {n : Nat} {mg mb : Str → Option Value} (hh : A.handled = none) (hg : Gnd c.g mg mb) (hk : c.env.kindOf "range" = some .globalImplicit) (hv : mg "range" = Option.none) (hb : mb "range" = some (.type "range"))
    (hu1 : unstarred e1 = true) (hu2 : unstarred e2 = true) (h1 : Ev prog w A c ρ e1 (.int a)) (h2 : Ev prog w A c ρ e2 (.int b)) (ha : -1000000000 ≤ a ∧ a ≤ 1000000000) (hb' : -1000000000 ≤ b ∧ b ≤ 1000000000) (hn : (b - a).toNat = n) :
    GivesC prog w A c ρ (.Name x px) (.Call (.Name "range" p) [e1, e2] [] pos) (rngT a 1 n) := fun s Q E F hq => by
  refine callB_raw hg hk (by decide) hv hb (keeperOf_type "range") (by simp [hu1, hu2]) (EvL.cons hu1 h1 (.cons hu2 h2 .nil)) F fun vs s1 k1 r1 => ?_
  · have hP := r1.p
    clear r1
    obtain ⟨_, _, rfl, r1, r2⟩ := hP
    have hP := r2.p
    clear r2
    obtain ⟨_, _, rfl, r2, r3⟩ := hP
    obtain rfl := r3.p
    obtain ⟨t, rfl⟩ := r1.p
    obtain ⟨u, rfl⟩ := r2.p
    refine call_range_2 ?_
    have k2 : Kp s1 { s1 with heap := s1.heap.push { cls := .type "range", data := .fields #[.int a t, .int b u, .int 1 s1.toks] }, toks := s1.toks + 1 } := ⟨.of' fun b o e => Heap.get?_push_of_some _ e, fun h => Nat.le_succ_of_le h⟩
    exact src_range hh F (k1.trans k2) (IsRange.new _ a b 1 _ _ _) (small_bd ha hb' (by omega)) (by rw [rangeSize_one]; split <;> omega) hq

theorem GivesC.range3 {x : Str} {p px pos : Pos} {e1 e2 e3 : Expr} {a b cc : Int} {n : Nat} {mg mb : Str → Option Value} (hh : A.handled = none) (hg : Gnd c.g mg mb) (hk : c.env.kindOf "range" = some .globalImplicit) (hv : mg "range" = Option.none) (hb : mb "range" = some (.type "range"))
    (hu1 : unstarred e1 = true) (hu2 : unstarred e2 = true) (hu3 : unstarred e3 = true) (h1 : Ev prog w A c ρ e1 (.int a)) (h2 : Ev prog w A c ρ e2 (.int b)) (h3 : Ev prog w A c ρ e3 (.int cc)) (ha : -1000000000 ≤ a ∧ a ≤ 1000000000) (hb' : -1000000000 ≤ b ∧ b ≤ 1000000000)
    (hc : 1 ≤ cc ∧ cc ≤ 1000000000) (hn : Builtin.Range.rangeSize a b cc = (n : Int)) :
    GivesC prog w A c ρ (.Name x px) (.Call (.Name "range" p) [e1, e2, e3] [] pos) (rngT a cc n) := fun s Q E F hq => by
  refine callB_raw hg hk (by decide) hv hb (keeperOf_type "range") (by simp [hu1, hu2, hu3]) (EvL.cons hu1 h1 (.cons hu2 h2 (.cons hu3 h3 .nil))) F fun vs s1 k1 r1 => ?_
  · have hP := r1.p
    clear r1
    obtain ⟨_, _, rfl, r1, r2⟩ := hP
    have hP := r2.p
    clear r2
    obtain ⟨_, _, rfl, r2, r3⟩ := hP
    have hP := r3.p
    clear r3
    obtain ⟨_, _, rfl, r3, r4⟩ := hP
    obtain rfl := r4.p
    obtain ⟨t, rfl⟩ := r1.p
    obtain ⟨u, rfl⟩ := r2.p
    obtain ⟨v, rfl⟩ := r3.p
    refine call_range_3 (by omega) ?_ (Or.inl (PyProof.noPylong_small (by omega)))
    have k2 : Kp s1 { s1 with heap := s1.heap.push { cls := .type "range", data := .fields #[.int a t, .int b u, .int cc v] }, toks := s1.toks } := ⟨.of' fun b o e => Heap.get?_push_of_some _ e, fun h => h⟩
    exact src_range hh F (k1.trans k2) (IsRange.new _ a b cc _ _ _) (small_bd ha hb' hc) hn hq

theorem Rs.getA {h : Heap} {X : List Addr} {vs : List Value} {ds : List T} (r : Rs prog w h X vs ds) {i : Nat} {v : Value} (e : vs.toArray[i]? = some v) : ∃ d, ds[i]? = some d ∧ R prog w h X v d := by
  rw [List.getElem?_toArray] at e
  exact r.get' i v e

theorem r_new {h : Heap} {X wr : List Addr} {v : Value} {d : T} (r : R prog w h X v d) {h' : Heap} (hk : ∀ b o, NT b o → h.get? b = some o → h'.get? b = some o) (hw : ∀ b ∈ wr, ∀ o, NT b o → h.get? b = some o → False) : R prog w h' (wr ++ X) v d :=
  R.monoN (fun b o _ n e => hk b o n e) (fun b o hb n e hm => by
    rcases List.mem_append.mp hm with h | h
    · exact hw b h o n e
    · exact hb h) r

/-- a list, forwards -/
theorem GivesC.list {x : Str} {px : Pos} {e : Expr} {ds : List T} (hh : A.handled = none) (he : Ev prog w A c ρ e (.list ds)) : GivesC prog w A c ρ (.Name x px) e ds := fun s Q E F hq => by
  refine he s _ _ F fun v s₁ k r => ?_
  · obtain ⟨a, vs, rfl, ha, hl, hs⟩ := r.p
    refine wpAny_pyIter_list hl.isList ?_
    obtain ⟨nn, hle⟩ := id hl
    have hne : a ≠ s₁.heap.objs.size := Nat.ne_of_lt (Heap.lt_size hle)
    have W := Walks.list (prog := prog) (w := w) hh s₁.heap.objs.size a hne vs.toArray
    have hll : ds.length = vs.toArray.size := by simp [hs.length]
    refine hq _ _ [s₁.heap.objs.size, a] [s₁.heap.objs.size] _ _ _ (k.trans .push) { turns := by rw [hll]; exact PySem.W.KTurns.ofWalks W fun i v s Q E _ h => wpAny_pure h, st := ?_, kp := (k.trans .push).1, fresh := ?_, there := ?_, nd := by simp, apart := ?_, fpx := ?_, item := ?_, self := W.self }
    · exact ⟨⟨_, Heap.get?_push_size _ rfl, rfl, rfl⟩, hl.isList.at fun o e => Heap.get?_push_of_some _ e⟩
    · intro b hb; rw [List.mem_singleton.mp hb]; exact new_none k
    · intro i h st b hb; rw [List.mem_singleton.mp hb]; obtain ⟨o, e, c1, _⟩ := st.1; exact ⟨_, e, .cls c1⟩
    · intro b hb
      rcases List.mem_cons.mp hb with h | h
      · rw [h]; exact fresh_notin (F.keep k).ex
      · rw [List.mem_singleton.mp h]; exact ha
    · intro i h st b hb
      rcases List.mem_cons.mp hb with h | h
      · rw [h]; obtain ⟨o, e, c1, _⟩ := st.1; exact ⟨_, e, .cls c1⟩
      · rw [List.mem_singleton.mp h]; obtain ⟨o, e, c1, _⟩ := st.2; exact ⟨_, e, .cls c1⟩
    · rintro i v h' hi e
      obtain ⟨d, e1, r⟩ := hs.getA e
      exact ⟨d, e1, .inl (r_new r (fun b o _ e => Heap.get?_push_of_some _ e) fun b hb o _ e => by rw [List.mem_singleton.mp hb] at e; exact Nat.lt_irrefl _ (Heap.lt_size e))⟩

/-- a list, backwards -/
theorem Gives.reversed {x : Str} {p px pos : Pos} {e : Expr} {ds : List T} {mg mb : Str → Option Value} (hh : A.handled = none) (hg : Gnd g mg mb) (hk : env.kindOf "reversed" = some .globalImplicit) (hv : mg "reversed" = Option.none) (hb : mb "reversed" = some (.type "reversed"))
    (hu : unstarred e = true) (he : EvE prog w A g env ρ e (.list ds)) : Gives prog w A g env ρ (.Name x px) (.Call (.Name "reversed" p) [e] [] pos) ds.reverse := fun c h1 h2 s Q E F hq => by
  subst h1 h2
  refine callB_raw hg hk (by decide) hv hb (keeperOf_type "reversed") (by simp [hu]) (EvL.cons hu (he c rfl rfl) .nil) F fun vs s1 k1 r1 => ?_
  · have hP := r1.p
    clear r1
    obtain ⟨_, _, rfl, r1, r2⟩ := hP
    obtain rfl := r2.p
    obtain ⟨a, vs, rfl, ha, hl, hs⟩ := r1.p
    refine call_reversed_list hl.isList ?_
    obtain ⟨nn, hle⟩ := id hl
    have hne : a ≠ s1.heap.objs.size := Nat.ne_of_lt (Heap.lt_size hle)
    have W := Walks.listRev (prog := prog) (w := w) hh s1.heap.objs.size a hne vs.toArray
    have hll : ds.reverse.length = vs.toArray.size := by simp [hs.length]
    have k2 : Kp s1 { s1 with heap := s1.heap.push (revObj a ((vs.toArray.size : Int) - 1)) } := .push
    have st0 : Heap.IsRevIter (s1.heap.push (revObj a ((vs.toArray.size : Int) - 1))) s1.heap.objs.size a ((vs.toArray.size : Int) - 1 - ((0 : Nat) : Int)) := ⟨_, Heap.get?_push_size _ rfl, rfl, by simp [revObj]⟩
    have st : 0 ≤ vs.toArray.size ∧ Heap.IsRevIter (s1.heap.push (revObj a ((vs.toArray.size : Int) - 1))) s1.heap.objs.size a ((vs.toArray.size : Int) - 1 - ((0 : Nat) : Int)) ∧ Heap.IsList (s1.heap.push (revObj a ((vs.toArray.size : Int) - 1))) a vs.toArray :=
      ⟨Nat.zero_le _, st0, hl.isList.at fun o e => Heap.get?_push_of_some _ e⟩
    refine W.self 0 _ _ _ st ?_
    refine hq _ _ [s1.heap.objs.size, a] [s1.heap.objs.size] _ _ _ (k1.trans k2) { turns := by rw [hll]; exact PySem.W.KTurns.ofWalks W fun i v s Q E _ h => wpAny_pure h, st := st, kp := (k1.trans k2).1, fresh := ?_, there := ?_, nd := by simp, apart := ?_, fpx := ?_, item := ?_ }
    · intro b hb; rw [List.mem_singleton.mp hb]; exact new_none k1
    · intro i h st b hb; rw [List.mem_singleton.mp hb]; obtain ⟨o, e, c1, _⟩ := st.2.1; exact ⟨_, e, .cls c1⟩
    · intro b hb
      rcases List.mem_cons.mp hb with h | h
      · rw [h]; exact fresh_notin (F.keep k1).ex
      · rw [List.mem_singleton.mp h]; exact ha
    · intro i h st b hb
      rcases List.mem_cons.mp hb with h | h
      · rw [h]; obtain ⟨o, e, c1, _⟩ := st.2.1; exact ⟨_, e, .cls c1⟩
      · rw [List.mem_singleton.mp h]; obtain ⟨o, e, c1, _⟩ := st.2.2; exact ⟨_, e, .cls c1⟩
    · rintro i v h' hi e
      obtain ⟨d, e1, r⟩ := hs.getA e
      refine ⟨d, ?_, .inl (r_new r (fun b o _ e => Heap.get?_push_of_some _ e) fun b hb o _ e => by rw [List.mem_singleton.mp hb] at e; exact Nat.lt_irrefl _ (Heap.lt_size e))⟩
      rw [hll] at hi
      rw [List.getElem?_reverse (by rw [← hs.length]; simpa using hi), ← hs.length]
      simpa using e1

theorem Rk.getK {h : Heap} {X : List Addr} {vs : List (Int × Value)} {ds : List (Int × T)} (r : Rk prog w h X vs ds) {i : Nat} {k : Int} {v : Value} (e : vs[i]? = some (k, v)) : ∃ d, ds[i]? = some (k, d) ∧ R prog w h X v d := by
  induction ds generalizing vs i with
  | nil => obtain rfl := r.p; cases e
  | cons d ds ih =>
    obtain ⟨y, vs, rfl, a, b⟩ := r.p
    cases i with
    | zero => cases e; exact ⟨d.2, rfl, a⟩
    | succ i => rw [List.getElem?_cons_succ] at e ⊢; exact ih b e

/-- the values of a dict -/
theorem Gives.values {x : Str} {px apos pos : Pos} {e : Expr} {es : List (Int × T)} (hh : A.handled = none) (hnc : notCall e = true) (hline : (apos.endLine == pos.line) = true)
    (he : EvE prog w A g env ρ e (.dict es)) : Gives prog w A g env ρ (.Name x px) (.Call (.Attribute e "values" apos) [] [] pos) (es.map (·.2)) := fun c h1 h2 s Q E F hq => by
  subst h1 h2
  refine meth_raw (ds := []) (t := "dict") hnc hline rfl (by decide) PySem.F.plainAttrs_dict PySem.F.slot_dict_values PySem.F.type_dict_values rfl (he c rfl rfl) .nil F fun v vs s1 k1 r1 r2 => ?_
  obtain rfl := r2.p
  obtain ⟨a, kvs, rfl, ha, lo, hd, hs⟩ := r1.p
  refine call_meetsIn PySem.F.slot_dict_values hd.typeIs PySem.F.entry_dict_values (PySem.F.args_dict_values_1 _) (meets_dict_values (intKind prog w) a lo) ⟨⟨kvs, hd⟩, ?_⟩
  obtain ⟨ep, hat⟩ := hd.dictAt
  refine wpAny_pyIter_values (knd := intKind prog w) (v := s1.heap.objs.size) (d := a) ⟨_, Heap.get?_push_size _ rfl, rfl, rfl⟩ (hat.push _) ?_
  have k2 : Kp s1 { s1 with heap := s1.heap.push { cls := .type "dict_values", data := .fields #[.ref a] } } := .push
  generalize hs2 : ({ s1 with heap := s1.heap.push { cls := .type "dict_values", data := .fields #[.ref a] } } : Shared) = s2 at k2 ⊢
  have hheap : s2.heap = s1.heap.push { cls := .type "dict_values", data := .fields #[.ref a] } := by rw [← hs2]
  have hat2 : s2.heap.DictAt (intKind prog w) a kvs ep := hheap ▸ hat.push _
  have k12 := k1.trans k2
  have hne : a ≠ s2.heap.objs.size := Nat.ne_of_lt hat2.lt_size
  have W := Walks.dictValues (prog := prog) (w := w) (knd := intKind prog w) hh s2.heap.objs.size a hne kvs ep
  have st : Heap.IsValIter (s2.heap.push { cls := .type "dict_valueiterator", data := .fields #[.ref a, .int 0 0, .int kvs.length 0, .int ep 0] }) s2.heap.objs.size a 0 kvs.length ep ∧ Heap.DictAt (intKind prog w) (s2.heap.push { cls := .type "dict_valueiterator", data := .fields #[.ref a, .int 0 0, .int kvs.length 0, .int ep 0] }) a kvs ep := ⟨⟨_, Heap.get?_push_size _ rfl, rfl, rfl⟩, hat2.push _⟩
  have hll : (es.map (·.2)).length = kvs.length := by simp [hs.length]
  refine hq _ _ [s2.heap.objs.size, a] [s2.heap.objs.size] _ _ _ (k12.trans .push) { turns := by rw [hll]; exact PySem.W.KTurns.ofWalks W fun i v s Q E _ h => wpAny_pure h, st := st, kp := (k12.trans .push).1, fresh := ?_, there := ?_, nd := by simp, apart := ?_, fpx := ?_, item := ?_ }
  · intro b hb; rw [List.mem_singleton.mp hb]; exact new_none k12
  · intro i h st b hb; rw [List.mem_singleton.mp hb]; obtain ⟨o, e, c1, _⟩ := st.1; exact ⟨_, e, .cls c1⟩
  · intro b hb
    rcases List.mem_cons.mp hb with h | h
    · rw [h]; exact fresh_notin (F.keep k12).ex
    · rw [List.mem_singleton.mp h]; exact ha
  · intro i h st b hb
    rcases List.mem_cons.mp hb with h | h
    · rw [h]; obtain ⟨o, e, c1, _⟩ := st.1; exact ⟨_, e, .cls c1⟩
    · rw [List.mem_singleton.mp h]; obtain ⟨o, _, e, c1, _⟩ := st.2; exact ⟨_, e, .cls c1.1⟩
  · rintro i v h' hi ⟨k, e⟩
    obtain ⟨d, e1, r⟩ := hs.getK e
    exact ⟨d, by simp [e1], .inl (r_new r (fun b o n e => Heap.get?_push_of_some _ (k2.heap b o n e)) fun b hb o n e => by rw [List.mem_singleton.mp hb] at e n; exact Nat.lt_irrefl _ (Heap.lt_size (k2.heap _ o n e)))⟩

/-- the items of a dict -/
theorem Gives.items {elts : List Expr} {kk : Nat} {tp apos pos : Pos} {e : Expr} {es : List (Int × T)} (hh : A.handled = none) (hnc : notCall e = true) (hline : (apos.endLine == pos.line) = true)
    (he : EvE prog w A g env ρ e (.dict es)) : Gives prog w A g env ρ (.Tuple elts kk tp) (.Call (.Attribute e "items" apos) [] [] pos) (es.map fun p => .tuple [.int p.1, p.2]) := fun c h1 h2 s Q E F hq => by
  subst h1 h2
  refine meth_raw (ds := []) (t := "dict") hnc hline rfl (by decide) PySem.F.plainAttrs_dict PySem.F.slot_dict_items PySem.F.type_dict_items rfl (he c rfl rfl) .nil F fun v vs s1 k1 r1 r2 => ?_
  obtain rfl := r2.p
  obtain ⟨a, kvs, rfl, ha, lo, hd, hs⟩ := r1.p
  refine call_meetsIn PySem.F.slot_dict_items hd.typeIs PySem.F.entry_dict_items (PySem.F.args_dict_items_1 _) (meets_dict_items (intKind prog w) a lo) ⟨⟨kvs, hd⟩, ?_⟩
  obtain ⟨ep, hat⟩ := hd.dictAt
  refine wpAny_pyIter_items (knd := intKind prog w) (v := s1.heap.objs.size) (d := a) ⟨_, Heap.get?_push_size _ rfl, rfl, rfl⟩ (hat.push _) ?_
  have k2 : Kp s1 { s1 with heap := s1.heap.push { cls := .type "dict_items", data := .fields #[.ref a] } } := .push
  generalize hs2 : ({ s1 with heap := s1.heap.push { cls := .type "dict_items", data := .fields #[.ref a] } } : Shared) = s2 at k2 ⊢
  have hheap : s2.heap = s1.heap.push { cls := .type "dict_items", data := .fields #[.ref a] } := by rw [← hs2]
  have hat2 : s2.heap.DictAt (intKind prog w) a kvs ep := hheap ▸ hat.push _
  have k12 := k1.trans k2
  have hne : a ≠ s2.heap.objs.size := Nat.ne_of_lt hat2.lt_size
  have W := PySem.W.kti_itemsTurns (prog := prog) (w := w) (knd := intKind prog w) (elts := elts) (kk := kk) (pos := tp) hh s2.heap.objs.size a hne kvs ep
  have st : (∃ ok ov, IsItemIter (s2.heap.push { cls := .type "dict_itemiterator", data := .fields #[.none, .bool false, .ref a, .int 0 0, .int kvs.length 0, .int ep 0, .none, .none] }) s2.heap.objs.size a 0 kvs.length ep ok ov) ∧ Heap.DictAt (intKind prog w) (s2.heap.push { cls := .type "dict_itemiterator", data := .fields #[.none, .bool false, .ref a, .int 0 0, .int kvs.length 0, .int ep 0, .none, .none] }) a kvs ep := ⟨⟨.none, .none, Heap.get?_push_size _ rfl⟩, hat2.push _⟩
  have hll : (es.map fun p => T.tuple [.int p.1, p.2]).length = kvs.length := by simp [hs.length]
  refine hq _ _ [s2.heap.objs.size, a] [s2.heap.objs.size] _ _ _ (k12.trans .push) { turns := by rw [hll]; exact W, st := st, kp := (k12.trans .push).1, fresh := ?_, there := ?_, nd := by simp, apart := ?_, fpx := ?_, item := ?_ }
  · intro b hb; rw [List.mem_singleton.mp hb]; exact new_none k12
  · intro i h st b hb; rw [List.mem_singleton.mp hb]; obtain ⟨⟨_, _, e⟩, _⟩ := st; exact ⟨_, e, .cls rfl⟩
  · intro b hb
    rcases List.mem_cons.mp hb with h | h
    · rw [h]; exact fresh_notin (F.keep k12).ex
    · rw [List.mem_singleton.mp h]; exact ha
  · intro i h st b hb
    rcases List.mem_cons.mp hb with h | h
    · rw [h]; obtain ⟨⟨_, _, e⟩, _⟩ := st; exact ⟨_, e, .cls rfl⟩
    · rw [List.mem_singleton.mp h]; obtain ⟨_, ⟨o, _, e, c1, _⟩⟩ := st; exact ⟨_, e, .cls c1.1⟩
  · rintro i v h' hi ⟨T', key, k, x, rfl, e, hk, ht⟩
    obtain ⟨d, e1, r⟩ := hs.getK e
    obtain ⟨t, rfl⟩ := Value.isInt_shape hk
    exact ⟨.tuple [.int k, d], by simp [e1], .inr ⟨T', _, _, .int k, d, rfl, ht, rfl, .int _ _, r_new r (fun b o n e => Heap.get?_push_of_some _ (k2.heap b o n e)) fun b hb o n e => by rw [List.mem_singleton.mp hb] at e n; exact Nat.lt_irrefl _ (Heap.lt_size (k2.heap _ o n e))⟩⟩

/-- two lists, side by side -/
def zipT : List T → List T → List T
  | x :: xs, y :: ys => .tuple [x, y] :: zipT xs ys
  | _, _ => []
theorem zipT_length : ∀ (xs ys : List T), (zipT xs ys).length = min xs.length ys.length
  | x :: xs, y :: ys => by rw [zipT, List.length_cons, List.length_cons, List.length_cons, zipT_length xs ys]; exact (Nat.succ_min_succ ..).symm
  | [], _ => by simp [zipT]
  | _ :: _, [] => by simp [zipT]
theorem zipT_get : ∀ (xs ys : List T) (i : Nat) (x y : T), xs[i]? = some x → ys[i]? = some y → (zipT xs ys)[i]? = some (.tuple [x, y])
  | x :: xs, y :: ys, 0, _, _, h1, h2 => by simp at h1 h2; simp [zipT, h1, h2]
  | x :: xs, y :: ys, i + 1, _, _, h1, h2 => by simp at h1 h2; simp only [zipT, List.getElem?_cons_succ]; exact zipT_get xs ys i _ _ h1 h2
  | [], _, _, _, _, h1, _ => by simp at h1
  | _ :: _, [], _, _, _, _, h2 => by simp at h2

theorem zip_apart {N a b : Addr} (l1 : @LT.lt Nat _ a N) (l2 : @LT.lt Nat _ b N) : ZipApart (N + 4) (N + 2) (N + 3) N (N + 1) a b := by
  constructor <;> (intro e; have e' : @Eq Nat _ _ := e; omega)
theorem zip_nodup (N : Nat) : [N + 4, N + 3, N, N + 1].Nodup := by
  have h : ∀ i j : Nat, i ≠ j → N + i ≠ N + j := fun i j h e => h (Nat.add_left_cancel e)
  have h0 : ∀ i : Nat, 0 ≠ i → N + i ≠ N := fun i hi e => hi (Nat.add_left_cancel (n := N) (m := 0) e.symm)
  simp only [List.nodup_cons, List.mem_cons, List.not_mem_nil, or_false, not_or, List.nodup_nil, and_true, not_false_eq_true]
  exact ⟨⟨h 4 3 (by decide), h0 4 (by decide), h 4 1 (by decide)⟩, ⟨h0 3 (by decide), h 3 1 (by decide)⟩, (h0 1 (by decide)).symm⟩
theorem zip_low {N b : Nat} (hlt : b < N) (hb : b ∈ [N + 4, N + 3, N, N + 1]) : False := by
  simp only [List.mem_cons, List.not_mem_nil, or_false] at hb
  rcases hb with h | h | h | h <;> omega
theorem all4 {P : Nat → Prop} {a b c d : Nat} (ha : P a) (hb : P b) (hc : P c) (hd : P d) : ∀ x ∈ [a, b, c, d], P x := fun x hx => by
  simp only [List.mem_cons, List.not_mem_nil, or_false] at hx
  rcases hx with rfl | rfl | rfl | rfl <;> assumption
theorem all7 {P : Nat → Prop} {a b c d e f g : Nat} (ha : P a) (hb : P b) (hc : P c) (hd : P d) (he : P e) (hf : P f) (hg : P g) : ∀ x ∈ [a, b, c, d, e, f, g], P x := fun x hx => by
  simp only [List.mem_cons, List.not_mem_nil, or_false] at hx
  rcases hx with rfl | rfl | rfl | rfl | rfl | rfl | rfl <;> assumption

theorem Gives.zip {elts : List Expr} {kk : Nat} {tp p pos : Pos} {e1 e2 : Expr} {xs ys : List T} {mg mb : Str → Option Value} (hh : A.handled = none) (hg : Gnd g mg mb) (hk : env.kindOf "zip" = some .globalImplicit) (hv : mg "zip" = Option.none) (hb : mb "zip" = some (.type "zip"))
    (hu1 : unstarred e1 = true) (hu2 : unstarred e2 = true) (h1 : EvE prog w A g env ρ e1 (.list xs)) (h2 : EvE prog w A g env ρ e2 (.list ys)) : Gives prog w A g env ρ (.Tuple elts kk tp) (.Call (.Name "zip" p) [e1, e2] [] pos) (zipT xs ys) := fun c h3 h4 s Q E F hq => by
  subst h3 h4
  refine callB_raw hg hk (by decide) hv hb (keeperOf_type "zip") (by simp [hu1, hu2]) (EvL.cons hu1 (h1 c rfl rfl) (.cons hu2 (h2 c rfl rfl) .nil)) F fun vs s1 k1 r1 => ?_
  · have hP := r1.p
    clear r1
    obtain ⟨_, _, rfl, r1, r2⟩ := hP
    have hP := r2.p
    clear r2
    obtain ⟨_, _, rfl, r2, r3⟩ := hP
    obtain rfl := r3.p
    obtain ⟨a, vs, rfl, ha, hl, hs⟩ := r1.p
    obtain ⟨a', vs', rfl, ha', hl', hs'⟩ := r2.p
    obtain ⟨nn, hle⟩ := id hl
    obtain ⟨nn', hle'⟩ := id hl'
    have lt1 : @LT.lt Nat _ a s1.heap.objs.size := Heap.lt_size hle
    have lt2 : @LT.lt Nat _ a' s1.heap.objs.size := Heap.lt_size hle'
    refine call_zip_2 hl.isList hl'.isList fun h' hz hTI hTO hi1 hi2 hsz hkeep => ?_
    generalize hN : s1.heap.objs.size = N at *
    have D : ZipApart (N + 4) (N + 2) (N + 3) N (N + 1) a a' := zip_apart lt1 lt2
    have k2 : Kp s1 { s1 with heap := h' } := ⟨.of' hkeep, id⟩
    have k12 := k1.trans k2
    have WT := WalksT.zip2 (prog := prog) (w := w) hh (N + 4) (N + 2) (N + 3) N (N + 1) a a' D vs.toArray vs'.toArray
    have W := PySem.W.KTurns.ofWalksU (elts := elts) (k := kk) (pos := tp) WT.toU
    have hll : (zipT xs ys).length = min vs.toArray.size vs'.toArray.size := by rw [zipT_length]; simp [hs.length, hs'.length]
    have st : IsZip h' (N + 4) (N + 2) (N + 3) .none ∧ IsPair h' (N + 2) (.ref N) (.ref (N + 1)) ∧ (∃ a b, IsPair h' (N + 3) a b) ∧ h'.IsListIter N a 0 ∧ h'.IsListIter (N + 1) a' 0 ∧ h'.IsList a vs.toArray ∧ h'.IsList a' vs'.toArray :=
      ⟨hz, hTI, ⟨_, _, hTO⟩, hi1, hi2, hl.isList.at fun o e => hkeep _ o e, hl'.isList.at fun o e => hkeep _ o e⟩
    refine WT.self 0 _ _ _ st ?_
    have nx : ∀ i : Nat, N ≤ i → ∀ o, NT i o → s.heap.get? i = some o → False := fun i hi => new_none' k1 (hN ▸ hi)
    have nX : ∀ i : Nat, N ≤ i → i ∉ c.X := fun i hi hm => by obtain ⟨o, e, n⟩ := F.ex i hm; exact nx i hi o n.1 e
    refine hq _ _ [N + 4, N + 2, N + 3, N, N + 1, a, a'] [N + 4, N + 3, N, N + 1] _ _ _ k12 { turns := by rw [hll]; exact W, st := st, kp := k12.1, fresh := ?_, there := ?_, nd := ?_, apart := ?_, fpx := ?_, item := ?_ }
    · exact all4 (nx _ (Nat.le_add_right ..)) (nx _ (Nat.le_add_right ..)) (nx _ (Nat.le_refl _)) (nx _ (Nat.le_add_right ..))
    · rintro i h ⟨s1, s2, ⟨_, _, s3⟩, ⟨_, s4, c4, _⟩, ⟨_, s5, c5, _⟩, _⟩
      exact all4 ⟨_, s1, .cls rfl⟩ ⟨_, s3, .cls rfl⟩ ⟨_, s4, .cls c4⟩ ⟨_, s5, .cls c5⟩
    · exact zip_nodup N
    · exact all7 (nX _ (Nat.le_add_right ..)) (nX _ (Nat.le_add_right ..)) (nX _ (Nat.le_add_right ..)) (nX _ (Nat.le_refl _)) (nX _ (Nat.le_add_right ..)) ha ha'
    · rintro i h ⟨s1, s2, ⟨_, _, s3⟩, ⟨_, s4, c4, _⟩, ⟨_, s5, c5, _⟩, ⟨_, s6, c6, _⟩, ⟨_, s7, c7, _⟩⟩
      exact all7 ⟨_, s1, .cls rfl⟩ ⟨_, s2, .cls rfl⟩ ⟨_, s3, .cls rfl⟩ ⟨_, s4, .cls c4⟩ ⟨_, s5, .cls c5⟩ ⟨_, s6, .cls c6⟩ ⟨_, s7, .cls c7⟩
    · rintro i v h'' hi ⟨T', vals, rfl, ⟨x, y, ex, ey, rfl⟩, ht⟩
      obtain ⟨dx, e1, r1⟩ := hs.getA ex
      obtain ⟨dy, e2, r2⟩ := hs'.getA ey
      have nw : ∀ b ∈ [N + 4, N + 3, N, N + 1], ∀ o, NT b o → s1.heap.get? b = some o → False := fun b hb o _ e => by
        exact zip_low (hN ▸ Heap.lt_size e) hb
      exact ⟨_, zipT_get _ _ _ _ _ e1 e2, .inr ⟨T', x, y, dx, dy, rfl, ht, rfl, r_new r1 (fun b o _ e => hkeep b o e) nw, r_new r2 (fun b o _ e => hkeep b o e) nw⟩⟩

end Mine
set_option maxRecDepth 10000
namespace Mine
open PySem PySem.Calls

variable {prog : Program} {w : World} {A : Around} {g : Heap} {env : Env} {ow : List (Str × Addr)} {V : List Addr} {ρ : Str → Option B} {c : Cx} {mg mb : Str → Option Value}

def defAt (i : Nat) : Stmt := PySem.Challenge.pw_zo0022_01.main.body.getD i (.Pass default)
def nameAt (i : Nat) : Str := match defAt i with
  | .FunctionDef n _ _ _ _ _ _ _ _ _ => n
  | _ => default
def paramsAt (i : Nat) : Arguments := match defAt i with
  | .FunctionDef _ p _ _ _ _ _ _ _ _ => p
  | _ => default
def bodyAt (i : Nat) : List Stmt := match defAt i with
  | .FunctionDef _ _ b _ _ _ _ _ _ _ => b
  | _ => []
def scopeAt (i : Nat) : Scope := match defAt i with
  | .FunctionDef _ _ _ _ _ _ sc _ _ _ => sc
  | _ => default
def defIdx : List Nat := [1, 2, 5, 6, 7, 8, 9, 10, 12, 14, 15, 17, 18, 19, 20, 21, 22]
def biNames : List Str := ["range", "reversed", "zip", "len", "sum", "abs", "max", "divmod", "bytes", "isinstance", "int", "tuple", "bytearray", "list"]

theorem lenS {vs : List Value} {n : Nat} (h : vs.length = n + 1) : ∃ a r, vs = a :: r ∧ r.length = n := by
  cases vs with
  | nil => cases h
  | cons a r => exact ⟨a, r, rfl, Nat.succ.inj h⟩
theorem len1 {vs : List Value} (h : vs.length = 1) : ∃ a, vs = [a] := by
  obtain ⟨a, r, rfl, h'⟩ := lenS h
  obtain rfl := List.eq_nil_of_length_eq_zero h'
  exact ⟨a, rfl⟩
theorem len2 {vs : List Value} (h : vs.length = 2) : ∃ a b, vs = [a, b] := by
  obtain ⟨a, r, rfl, h'⟩ := lenS h
  obtain ⟨b, rfl⟩ := len1 h'
  exact ⟨a, b, rfl⟩
theorem len3 {vs : List Value} (h : vs.length = 3) : ∃ a b c, vs = [a, b, c] := by
  obtain ⟨a, r, rfl, h'⟩ := lenS h
  obtain ⟨b, c, rfl⟩ := len2 h'
  exact ⟨a, b, c, rfl⟩
theorem len4 {vs : List Value} (h : vs.length = 4) : ∃ a b c d, vs = [a, b, c, d] := by
  obtain ⟨a, r, rfl, h'⟩ := lenS h
  obtain ⟨b, c, d, rfl⟩ := len3 h'
  exact ⟨a, b, c, d, rfl⟩

theorem LimN {g h : Heap} (x : g.NoLimit) (hk : ∀ b o, NT b o → g.get? b = some o → h.get? b = some o) : h.NoLimit := let ⟨mc, a, b⟩ := x; ⟨mc, NsN a (hk _), b⟩

/-- the code of the two defs that hold a def -/
def CodeF (g : Heap) (i : Nat) (code : Value) : Prop := (i = 7 → ∃ c, code = .ref c ∧ PySem.W.CodeHd g c 44) ∧ (i = 8 → ∃ c, code = .ref c ∧ PySem.W.CodeHd g c 51)

structure Gr (g : Heap) (mg mb : Str → Option Value) : Prop where
  gnd : Gnd g mg mb
  fn : ∀ i ∈ defIdx, ∃ a o pm code doc, mg (nameAt i) = some (.ref a) ∧ g.get? a = some o ∧ o.data = .func (docDef (nameAt i) (paramsAt i) (bodyAt i) (scopeAt i) pm code doc) ∧ CodeN g code (nameAt i) ∧ CodeF g i code
  bi : ∀ x ∈ biNames, mg x = none ∧ mb x = bootBuiltins x
  bm : ∃ bm ob, mg "__builtins__" = some (.ref bm) ∧ bm ≠ builtinsNs ∧ g.get? bm = some ob ∧ ob.cls = .type "module" ∧ ob.dict = some builtinsNs ∧ ob.data = .plain
  dl : ∃ t, mg "_DIV_LIMIT" = some (.int 4000 t)
theorem Gr.mn (G : Gr g mg mb) : ∃ o, g.get? mainGlobals = some o ∧ XO o := let ⟨o, _, _, e, d, _⟩ := G.gnd.G; ⟨o, e, .dict d⟩

def fenv (i : Nat) (pm code doc : Value) (L a : Addr) : Env := callEnvC (docDef (nameAt i) (paramsAt i) (bodyAt i) (scopeAt i) pm code doc) L a
def pz (names : List Str) (ds : List T) : Str → Option B := fun y => ((names.zip ds).lookup y).map .v

theorem cellsFrom_keys : ∀ (names : List (Str × NameKind)) (n : Nat) (acc : List (Str × Addr)), (names.map (·.1)).Nodup → (acc.map (·.1)).Nodup → (∀ x ∈ names.map (·.1), x ∉ acc.map (·.1)) → ((cellsFrom n names acc).map (·.1)).Nodup
  | [], _, _, _, h, _ => h
  | (x, k) :: r, n, acc, hn, ha, hd => by
    simp only [List.map_cons, List.nodup_cons] at hn
    unfold cellsFrom
    split
    · refine cellsFrom_keys r _ _ hn.2 (by simp only [List.map_cons, List.nodup_cons]; exact ⟨hd x (by simp), ha⟩) fun y hy hm => ?_
      simp only [List.map_cons, List.mem_cons] at hm
      rcases hm with h | h
      · subst h; exact hn.1 hy
      · exact hd y (by simp only [List.map_cons, List.mem_cons]; exact .inr hy) h
    · exact cellsFrom_keys r _ _ hn.2 ha fun y hy => hd y (by simp only [List.map_cons, List.mem_cons]; exact .inr hy)
theorem lookup_of_mem : ∀ {l : List (Str × Addr)} {p : Str × Addr}, (l.map (·.1)).Nodup → p ∈ l → l.lookup p.1 = some p.2
  | (k, v) :: r, p, hn, hm => by
    simp only [List.map_cons, List.nodup_cons] at hn
    rw [List.lookup_cons]
    rcases List.mem_cons.mp hm with h | h
    · subst h; simp
    · have : (p.1 == k) = false := by
        refine beq_eq_false_iff_ne.mpr fun e => hn.1 (e ▸ List.mem_map.mpr ⟨p, h, rfl⟩)
      rw [this]; exact lookup_of_mem hn.2 h

theorem bindL_notin {kindOf : Str → Option NameKind} : ∀ {binds : List (Str × Value)} {m : Str → Option Value} {n : Str}, n ∉ binds.map (·.1) → bindL kindOf binds m n = m n
  | [], _, _, _ => rfl
  | (k, v) :: r, m, n, h => by
    simp only [List.map_cons, List.mem_cons, not_or] at h
    unfold bindL
    rw [bindL_notin h.2]
    split
    · simp only [h.1, if_false]
    · rfl
theorem bindC_notin {kindOf : Str → Option NameKind} : ∀ {binds : List (Str × Value)} {m : Str → Option Value} {n : Str}, n ∉ binds.map (·.1) → bindC kindOf binds m n = m n
  | [], _, _, _ => rfl
  | (k, v) :: r, m, n, h => by
    simp only [List.map_cons, List.mem_cons, not_or] at h
    unfold bindC
    rw [bindC_notin h.2]
    split
    · rfl
    · simp only [h.1, if_false]
theorem bindL_at {kindOf : Str → Option NameKind} : ∀ {binds : List (Str × Value)} {m : Str → Option Value} {n : Str} {v : Value}, (binds.map (·.1)).Nodup → binds.lookup n = some v → kindOf n = some .local → bindL kindOf binds m n = some v
  | [], _, _, _, _, h, _ => by simp at h
  | (k, u) :: r, m, n, v, hn, h, hk => by
    simp only [List.map_cons, List.nodup_cons] at hn
    rw [List.lookup_cons] at h
    unfold bindL
    cases hb : n == k with
    | true =>
      rw [hb] at h; cases h
      have := beq_iff_eq.mp hb; subst this
      rw [bindL_notin hn.1, if_pos hk]; simp
    | false => rw [hb] at h; exact bindL_at hn.2 h hk
theorem bindC_at {kindOf : Str → Option NameKind} : ∀ {binds : List (Str × Value)} {m : Str → Option Value} {n : Str} {v : Value}, (binds.map (·.1)).Nodup → binds.lookup n = some v → ¬ kindOf n = some .local → bindC kindOf binds m n = some v
  | [], _, _, _, _, h, _ => by simp at h
  | (k, u) :: r, m, n, v, hn, h, hk => by
    simp only [List.map_cons, List.nodup_cons] at hn
    rw [List.lookup_cons] at h
    unfold bindC
    cases hb : n == k with
    | true =>
      rw [hb] at h; cases h
      have := beq_iff_eq.mp hb; subst this
      rw [bindC_notin hn.1, if_neg hk]; simp
    | false => rw [hb] at h; exact bindC_at hn.2 h hk

theorem zip_lookup {h : Heap} {X : List Addr} {names : List Str} {vs : List Value} {ds : List T} {n : Str} {d : T} (r : Rs prog w h X vs ds) (e : (names.zip ds).lookup n = some d) : ∃ v, (names.zip vs).lookup n = some v ∧ R prog w h X v d := by
  induction names generalizing vs ds with
  | nil => cases e
  | cons k ks ih =>
    cases ds with
    | nil => cases e
    | cons d ds =>
      obtain ⟨v, vs, rfl, a, b⟩ := r.p
      rw [List.zip_cons_cons, List.lookup_cons] at e ⊢
      cases hb : n == k with
      | true => rw [hb] at e; cases e; exact ⟨v, rfl, a⟩
      | false => rw [hb] at e; exact ih b e
theorem zip_keys {names : List Str} {vs : List Value} (h : names.length = vs.length) : (names.zip vs).map (·.1) = names := List.map_fst_zip (Nat.le_of_eq h)

theorem InF.start {i : Nat} {names : List Str} {ds : List T} {pm code doc : Value} {a : Addr} {s s' : Shared} {X : List Addr} {vs : List Value} (hlen : names.length = ds.length) (hnd : names.Nodup)
    (hkind : ∀ n ∈ names, (scopeAt i).names.lookup n = some .local ∨ ((scopeAt i).names.lookup n = some .cell ∧ ∀ L, ((cellsFrom (L + 1) (scopeAt i).names []).lookup n).isSome = true))
    (hnn : ((scopeAt i).names.map (·.1)).Nodup) (hk : (scopeAt i).kind = .function) (hg : ∀ b o, NT b o → g.get? b = some o → s.heap.get? b = some o) (hr : Rs prog w s.heap X vs ds) (hX : X.Nodup) (hXe : ∀ b ∈ X, ∃ o, s.heap.get? b = some o ∧ XO o) (htk' : 1 ≤ s'.toks) (hti : TI s.heap)
    (x : InCallC s (fenv i pm code doc s.heap.objs.size a).locals (bindL (fenv i pm code doc s.heap.objs.size a).kindOf (names.zip vs) fun _ => none) (fenv i pm code doc s.heap.objs.size a).cells (bindC (fenv i pm code doc s.heap.objs.size a).kindOf (names.zip vs) fun _ => none) s') :
    InF prog w ⟨g, fun b o => NT b o ∧ s.heap.get? b = some o, fenv i pm code doc s.heap.objs.size a, (fenv i pm code doc s.heap.objs.size a).cells, X, [], bindL (fenv i pm code doc s.heap.objs.size a).kindOf (names.zip vs) fun _ => none,
      bindC (fenv i pm code doc s.heap.objs.size a).kindOf (names.zip vs) fun _ => none⟩ (pz names ds) s' := by
  have keep := x.toInCall.keep
  have hkeys : ((names.zip vs).map (·.1)).Nodup := by rw [zip_keys (hlen.trans hr.length.symm)]; exact hnd
  have hcs : ∀ n b, (n, b) ∈ (fenv i pm code doc s.heap.objs.size a).cells → @LT.lt Nat _ s.heap.objs.size b := fun n b hm => x.above n b hm
  refine
    { tk := htk', ek := hk, eg := rfl, eb := rfl, ti := hti.keep keep, gP := fun b o n e => ⟨n, hg b o n e⟩, Pn := fun b o h => h.1, Ph := fun b o h => keep b o h.2, PW := fun b o e hm => ?_, nd := ?_, ex := fun b hb => ?_, ns := x.toInCall.ns, cl := x.cell, ce := fun n b e => ⟨fun e' => ?_, List.not_mem_nil⟩, cd := ?_, nm := fun y b hy => ?_ }
  · have hlt : @LT.lt Nat _ b s.heap.objs.size := Heap.lt_size e.2
    unfold Cx.W at hm
    simp only [List.map_nil, List.append_nil] at hm
    rcases List.mem_cons.mp hm with h | h
    · exact neD hlt h
    · obtain ⟨p, hp, rfl⟩ := List.mem_map.mp h
      exact neLt hlt (hcs p.1 p.2 hp)
  · unfold Cx.X Cx.W
    simp only [List.map_nil, List.append_nil]
    rw [List.nodup_append]
    refine ⟨List.nodup_cons.mpr ⟨fun hm => ?_, by rw [List.Nodup, List.pairwise_map]; exact x.apart⟩, hX, fun b hb b' hb' e => ?_⟩
    · obtain ⟨p, hp, e⟩ := List.mem_map.mp hm
      have h1 := hcs p.1 p.2 hp
      exact neD h1 e.symm
    · subst e
      obtain ⟨o, e, _⟩ := hXe b hb'
      have hlt : @LT.lt Nat _ b s.heap.objs.size := Heap.lt_size e
      rcases List.mem_cons.mp hb with h | h
      · exact neD hlt h
      · obtain ⟨p, hp, rfl⟩ := List.mem_map.mp h
        exact neLt hlt (hcs p.1 p.2 hp)
  · unfold Cx.X Cx.W at hb
    simp only [List.map_nil, List.append_nil] at hb
    rcases List.mem_append.mp hb with h | h
    · rcases List.mem_cons.mp h with h | h
      · obtain ⟨o, _, _, e, d, _⟩ := x.toInCall.ns; exact ⟨o, h ▸ e, .dict d⟩
      · obtain ⟨p, hp, rfl⟩ := List.mem_map.mp h
        obtain ⟨o, e, d⟩ := x.cell p.1 p.2 (lookup_of_mem (cellsFrom_keys _ _ _ hnn List.nodup_nil fun _ _ h => nomatch h) hp)
        exact ⟨o, e, .cell d⟩
    · obtain ⟨o, e, n⟩ := hXe b h; exact ⟨o, keep b o e, n⟩
  · have h1 := hcs n b (mem_of_lookup e)
    exact neD h1 e'.symm
  · rw [List.Nodup, List.pairwise_map]; exact x.apart
  · unfold pz at hy
    obtain ⟨d', e1, e2⟩ := Option.map_eq_some_iff.mp hy
    subst e2
    obtain ⟨v, hv, r⟩ := zip_lookup hr e1
    have hn : y ∈ names := (List.of_mem_zip (mem_of_lookup e1)).1
    refine ⟨v, ?_, ?_⟩
    · rcases hkind y hn with h | ⟨h, h'⟩
      · exact .inl ⟨h, bindL_at hkeys hv h⟩
      · refine .inr ⟨.inl h, ?_, bindC_at hkeys hv (by
          show ¬ (scopeAt i).names.lookup y = _
          rw [h]; decide)⟩
        have := h' s.heap.objs.size
        exact Option.isSome_iff_exists.mp this
    · refine R.mono' (fun b o _ e => keep b o e) (fun b o hb e hm => ?_) r
      have hlt : @LT.lt Nat _ b s.heap.objs.size := Heap.lt_size e
      unfold Cx.X Cx.W at hm
      simp only [List.map_nil, List.append_nil] at hm
      rcases List.mem_append.mp hm with h | h
      · rcases List.mem_cons.mp h with h | h
        · exact neD hlt h
        · obtain ⟨p, hp, rfl⟩ := List.mem_map.mp h
          exact neLt hlt (hcs p.1 p.2 hp)
      · exact hb h

theorem Fn.of {i : Nat} {names : List Str} {ds : List T} {d : T} (G : Gr g mg mb) (hi : i ∈ defIdx) (hroom : A.depth < recursionLimit)
    (hbind : ∀ pm code doc (vs : List Value), vs.length = ds.length → bindArgs (docDef (nameAt i) (paramsAt i) (bodyAt i) (scopeAt i) pm code doc) ⟨vs, []⟩ = pure (names.zip vs)) (hlen : names.length = ds.length) (hnd : names.Nodup)
    (hkind : ∀ n ∈ names, (scopeAt i).names.lookup n = some .local ∨ ((scopeAt i).names.lookup n = some .cell ∧ ∀ L, ((cellsFrom (L + 1) (scopeAt i).names []).lookup n).isSome = true))
    (hnn : ((scopeAt i).names.map (·.1)).Nodup) (hk : (scopeAt i).kind = .function) (hco : (scopeAt i).isCoroutine = false) (hgen : (scopeAt i).isGenerator = false)
    (hbody : ∀ pm code doc L a V, CodeF g i code → Ex prog w (A.deeper (fenv i pm code doc L a)) g (fenv i pm code doc L a) (fenv i pm code doc L a).cells V (pz names ds) (bodyAt i) (.ret d)) : Fn prog w g mg A (nameAt i) ds d := by
  obtain ⟨a, o, pm, code, doc, h1, h2, h3, h4, h5⟩ := G.fn i hi
  refine ⟨a, o, _, h1, h2, h3, fun s X vs Q E hg hr hX hXe htk hti hQ => ?_⟩
  have hb := hbind pm code doc vs hr.length
  refine wpAny_call (codeAny_call_function hroom (hg _ _ (.func h3) h2) h3 hco hgen rfl (h4.rec hg) ?_)
  rw [hb]
  refine wpAny_pure ?_
  refine withTok htk (wpAny_newFunctionEnv_cells hk ?_ fun env he s' x htk' => ?_)
  · rintro ⟨n, v⟩ hm
    have hn : n ∈ names := (List.of_mem_zip hm).1
    rcases hkind n hn with h | ⟨h, h'⟩
    · exact .inl h
    · exact .inr ⟨h, h' _⟩
  have he' : env = fenv i pm code doc s.heap.objs.size a := he
  subst he'
  refine ⟨(LimN G.gnd.nl hg).keeps x.toInCall.keep, codeAny_func ?_⟩
  have F := InF.start (prog := prog) (w := w) hlen hnd hkind hnn hk hg hr hX hXe htk' hti x
  obtain ⟨hh, tk, he2⟩ := x.toInCall.same
  refine hbody pm code doc s.heap.objs.size a X h5 _ _ _ _ s' _ _ F fun v s'' t hp hv ti r => ?_
  refine hQ v s'' ?_ r
  obtain ⟨h2, t2, rfl⟩ := t
  subst he2
  exact ⟨h2, t2, rfl, fun b o n e => hp b o ⟨n, e⟩, fun _ => ti⟩

end Mine
set_option maxRecDepth 10000
namespace Mine
open PySem PySem.Calls

variable {prog : Program} {w : World} {A : Around} {g : Heap} {env : Env} {ow : List (Str × Addr)} {V : List Addr} {ρ : Str → Option B} {c : Cx} {mg mb : Str → Option Value}

/-- a new object that nobody else knows -/
def EvNew (prog : Program) (w : World) (A : Around) (c : Cx) (ρ : Str → Option B) (e : Expr) (d : T) : Prop :=
  ∀ (s : Shared) (Q : Value → Shared → Prop) (E : Value → Shared → Prop), InF prog w c ρ s →
    (∀ s₁ a s', Kp s s₁ → Kp s₁ s' → s₁.heap.objs.size ≤ a → (∃ o, s'.heap.get? a = some o ∧ XO o) → (∀ X, RO prog w s'.heap X a d) → Q (.ref a) s') → wpAny (model prog w) A (eval e c.env) Q E s

theorem Ex1.assignNew {x : Str} {px pos : Pos} {e : Expr} {d : T} (hc : notComp e = true) (hk : canStore ow env x) (he : ∀ c : Cx, c.env = env → c.g = g → EvNew prog w A c ρ e d) :
    Ex1 prog w A g env ow V ρ (.Assign [.Name x px] e pos) (.next (upd ρ x (.o d))) := fun P os m cm s Q E F h => by
  refine wpAny_Assign_Name ?_ (swapsWith_plain hc)
  refine he ⟨g, P, env, ow, V, os, m, cm⟩ rfl rfl s _ _ F fun s₁ a s' k1 k2 ha hg hr => ?_
  have F₁ := (F.keep k1).own k2 x ha hg
  refine F₁.storeB (b₀ := .o d) hk ⟨a, rfl, by simp, hr _⟩ fun m' cm' s2 t2 _ F2 => ?_
  rw [upd_del] at F2
  exact h _ m' cm' s2 (k1.tr.trans (k2.tr.trans t2)) F2

theorem EvNew.list {p : Pos} : EvNew prog w A c ρ (.List [] p) (.list []) := fun s Q E F h =>
  wpAny_List (wpAny_items_nil ⟨by decide, h s _ _ (.refl s) .push (Nat.le_refl _) ⟨_, Heap.get?_push_size _ rfl, .cls rfl⟩ fun X => ⟨[], ⟨0, Heap.get?_push_size _ rfl⟩, .nil⟩⟩)

theorem dictDisplay_nil {M : Model} {s : Shared} {Q : Value → Shared → Prop} {E : Value → Shared → Prop} (h : Q (.ref s.heap.objs.size) { s with heap := s.heap.push { cls := .type "dict", dict := none, data := .dict #[] } }) : wpAny M A (dictDisplay []) Q E s := by
  have e : dictDisplay [] = newDict := rfl
  rw [e]
  exact wpAny_newObj_type h

theorem EvNew.dict {p : Pos} (hm : ∃ o, c.g.get? mainGlobals = some o ∧ XO o) : EvNew prog w A c ρ (.Dict [] [] p) (.dict []) := fun s Q E F h => by
  rw [arm_eval_Dict]
  refine wpAny_bind (wpAny_standAt ?_)
  obtain ⟨o, e, n⟩ := hm
  exact dictDisplay_nil (h s _ _ (.refl s) .push (Nat.le_refl _) ⟨_, Heap.get?_push_size _ rfl, .cls rfl⟩ fun X => ⟨[], sys_ne (Heap.lt_size (F.ground _ _ n.1 e)), Heap.DictOf.new s.heap, .nil⟩)

theorem Ev.dictNil {p : Pos} (hm : ∃ o, c.g.get? mainGlobals = some o ∧ XO o) : Ev prog w A c ρ (.Dict [] [] p) (.dict []) := fun s Q E F h => by
  rw [arm_eval_Dict]
  refine wpAny_bind (wpAny_standAt ?_)
  obtain ⟨o, e, n⟩ := hm
  exact dictDisplay_nil (h _ _ .push (.dict (fresh_notin F.ex) (sys_ne (Heap.lt_size (F.ground _ _ n.1 e))) (Heap.DictOf.new s.heap) .nil))

/-- while -/
inductive Wh (prog : Program) (w : World) (A : Around) (g : Heap) (env : Env) (ow : List (Str × Addr)) (V : List Addr) (test : Expr) (body : List Stmt) : Nat → (Str → Option B) → (Str → Option B) → Prop
  | stop {ρ : Str → Option B} : EvTE prog w A g env ρ test false → Wh prog w A g env ow V test body 0 ρ ρ
  | next {n : Nat} {ρ ρ' ρ'' : Str → Option B} : EvTE prog w A g env ρ test true → Ex prog w A g env ow V ρ body (.next ρ') → Wh prog w A g env ow V test body n ρ' ρ'' → Wh prog w A g env ow V test body (n + 1) ρ ρ''

theorem Ex1.while {test : Expr} {body : List Stmt} {pos : Pos} {n : Nat} {ρ' : Str → Option B} (h : Wh prog w A g env ow V test body n ρ ρ') : Ex1 prog w A g env ow V ρ (.While test body [] pos) (.next ρ') := fun P os m cm s Q E F hq => by
  refine wpAny_While (codeAny_whileLoop (fun k s' => ∃ ρi os m cm, Tr s s' ∧ InF prog w ⟨g, P, env, ow, V, os, m, cm⟩ ρi s' ∧ Wh prog w A g env ow V test body k ρi ρ') ?_ n ⟨ρ, os, m, cm, .refl s, F, h⟩)
  rintro k s' ⟨ρi, os₁, m₁, cm₁, t₁, F₁, W⟩
  cases W with
  | stop ht =>
    refine ht _ rfl rfl s' _ _ F₁ fun s₂ k₂ => ?_
    simp only [Bool.false_eq_true, if_false]
    exact wpAny_execs_nil (hq os₁ m₁ cm₁ s₂ (t₁.trans k₂.tr) (F₁.keep k₂))
  | next ht hb hw =>
    refine ht _ rfl rfl s' _ _ F₁ fun s₂ k₂ => ?_
    simp only [if_true]
    exact hb P os₁ m₁ cm₁ s₂ _ _ (F₁.keep k₂) fun os₂ m₂ cm₂ s₃ t₃ F₃ => ⟨_, Nat.lt_succ_self _, _, os₂, m₂, cm₂, t₁.trans (k₂.tr.trans t₃), F₃, hw⟩

/-- try, when nothing is raised -/
theorem Ex1.try {body : List Stmt} {h₀ : ExceptHandler} {hs : List ExceptHandler} {pos : Pos} {d : T} (h : Ex prog w A g env ow V ρ body (.ret d)) : Ex1 prog w A g env ow V ρ (.Try body (h₀ :: hs) [] [] pos) (.ret d) := fun P os m cm s Q E F hq =>
  wpAny_Try_except (h P os m cm s _ _ F fun v s' t hp hv ti r => hq v s' t hp hv ti r)

/-- isinstance of an int -/
theorem Ev.isinst {pf pt pos : Pos} {e : Expr} {x : Int} {t : Str} {b : Bool} (G : Gr c.g mg mb) (hk : c.env.kindOf "isinstance" = some .globalImplicit) (hkt : c.env.kindOf t = some .globalImplicit) (hu : unstarred e = true)
    (ht : (t = "int" ∧ b = true) ∨ (t = "tuple" ∧ b = false)) (he : Ev prog w A c ρ e (.int x)) : Ev prog w A c ρ (.Call (.Name "isinstance" pf) [e, .Name t pt] [] pos) (.bool b) := fun s Q E F hq => by
  rw [eval_Call_plain rfl]
  obtain ⟨g1, g2⟩ := G.bi "isinstance" (by decide)
  refine wpAny_bind (load_global (v := .builtin "isinstance") G.gnd F hk (by decide) (.inr ⟨g1, g2.trans (by rfl)⟩) ?_)
  refine callWith_machine (keeperOf_builtin "isinstance") (by rw [starEach_cons hu]; rfl) ?_
  rw [starEach_cons hu]
  refine Calls.evalArgs_plain ?_
  refine Calls.spliced_cons (he s _ _ F fun v s1 k1 r1 => ?_)
  refine Calls.spliced_cons ?_
  obtain ⟨tk, rfl⟩ := r1.p
  rcases ht with ⟨rfl, rfl⟩ | ⟨rfl, rfl⟩
  · obtain ⟨g3, g4⟩ := G.bi "int" (by decide)
    refine load_global (v := .type "int") G.gnd (F.keep k1) hkt (by decide) (.inr ⟨g3, g4.trans (by rfl)⟩) ?_
    exact Calls.spliced_nil (IsiPair.int_int (hq _ _ k1 (.bool _)))
  · obtain ⟨g3, g4⟩ := G.bi "tuple" (by decide)
    refine load_global (v := .type "tuple") G.gnd (F.keep k1) hkt (by decide) (.inr ⟨g3, g4.trans (by rfl)⟩) ?_
    exact Calls.spliced_nil (IsiPair.int_tuple (hq _ _ (k1.trans .tok) (.bool _)))

/-- str.replace with literals -/
theorem Ev.replace {o : Expr} {apos pos : Pos} {k1' k2 : Nat} {p1 p2 : Pos} {x y z : Str} (hnc : notCall o = true) (hline : (apos.endLine == pos.line) = true) (hx : x.length ≤ 1048576) (hz : z.length ≤ 14) (hyz : (y == z) = false)
    (ho : Ev prog w A c ρ o (.str x)) : Ev prog w A c ρ (.Call (.Attribute o "replace" apos) [.Constant (.str y) k1' p1, .Constant (.str z) k2 p2] [] pos) (.str (Txt.replace x y z)) := fun s Q E F hq => by
  have hfew : ((backTo pos (starEach [Expr.Constant (.str y) k1' p1, .Constant (.str z) k2 p2] c.env)).all (fun x => !x.1) && (backToKw pos (keywordEach [] c.env)).all (fun x => x.1.isSome)
      && decide (([Expr.Constant (.str y) k1' p1, .Constant (.str z) k2 p2] : List Expr).length + ([] : List Keyword).length + (if ([] : List Keyword).isEmpty then 0 else 1) < 30)) = true := rfl
  refine wpAny_Call_method_late (attributeBase_plain hnc) hfew hline rfl (ho s _ _ F fun v s1 k1 r1 => ?_)
  obtain ⟨hT, hd⟩ := r1.typeIs rfl
  refine ⟨"str", "str.replace", PySem.F.plainAttrs_str, PySem.F.slot_str_replace, PySem.F.type_str_replace, hT, hd, callWith_machine rfl rfl ?_⟩
  refine Calls.evalArgs_plain ?_
  refine Calls.spliced_cons (wpAny_Constant_str (k := k1') (pos := p1) ?_)
  refine Calls.spliced_cons (wpAny_Constant_str (k := k2) (pos := p2) ?_)
  refine Calls.spliced_nil ?_
  have F1 := F.keep k1
  have ht := F1.tk
  obtain ⟨t, rfl⟩ := r1.p
  refine withTok (s := { s1 with toks := s1.toks + 1 + 1 }) (Nat.le_succ_of_le (Nat.le_succ_of_le ht)) (SC.replaceW (Nat.pos_iff_ne_zero.mp ht) (Nat.succ_ne_zero _) (Nat.ne_of_lt (Nat.lt_succ_self _)) hyz hx hz fun t' k htk => ?_)
  exact hq _ _ (k1.trans ⟨.of' (h := s1.heap) (t := k) fun _ _ e => e, fun _ => htk⟩) (.str _ _)

end Mine
set_option maxRecDepth 10000
namespace Mine
open PySem PySem.Calls

/-- contexts in which no decoder holds a buffer -/
def isDec : Code → Bool
  | .builtin id _ => Builtin.Bytes.decodersThatHold.contains id
  | _ => false
def NDs (l : List (Code × Pos)) : Prop := ∀ x ∈ l, isDec x.1 = false

def wpN {α : Type} (M : Model) (A : Around) (t : Sem α) (Q : α → Shared → Prop) (E : Value → Shared → Prop) (s : Shared) : Prop :=
  ∀ Γ p, Γ.In A → isDec Γ.code = false → NDs Γ.below → Sem.wp M Γ t (fun a _ s' => Q a s') (fun e _ s' => E e s') p s
def codeN (M : Model) (A : Around) (c : Code) (R : Result → Shared → Prop) (s : Shared) : Prop :=
  ∀ Γ p, Γ.code = c → Γ.Below A → NDs Γ.below → wpCode M Γ R p s

section
variable {α β : Type} {M : Model} {A : Around} {E : Value → Shared → Prop} {s : Shared}

theorem wpN.of {t : Sem α} {Q : α → Shared → Prop} (h : wpAny M A t Q E s) : wpN M A t Q E s := fun Γ p hΓ _ _ => h Γ p hΓ
theorem codeN.of {c : Code} {R : Result → Shared → Prop} (h : codeAny M A c R s) : codeN M A c R s := fun Γ p hc hΓ _ => h Γ p hc hΓ
theorem wpN.mono {t : Sem α} {Q Q' : α → Shared → Prop} {E' : Value → Shared → Prop} (h : wpN M A t Q E s) (hQ : ∀ a s, Q a s → Q' a s) (hE : ∀ e s, E e s → E' e s) : wpN M A t Q' E' s :=
  fun Γ p hΓ h1 h2 => Sem.wp_mono M Γ t (fun a _ s => hQ a s) (fun e _ s => hE e s) p s (h Γ p hΓ h1 h2)
theorem wpN.bind {m : Sem α} {f : α → Sem β} {Q : β → Shared → Prop} (h : wpN M A m (fun a s' => wpN M A (f a) Q E s') E s) : wpN M A (m >>= f) Q E s := fun Γ p hΓ h1 h2 => by
  rw [Sem.wp_bind']
  exact Sem.wp_mono M Γ m (fun a p' s' h' => h' Γ p' hΓ h1 h2) (fun _ _ _ h' => h') p s (h Γ p hΓ h1 h2)
theorem wpN.bindAny {m : Sem α} {f : α → Sem β} {Q : β → Shared → Prop} (h : wpAny M A m (fun a s' => wpN M A (f a) Q E s') E s) : wpN M A (m >>= f) Q E s := .bind (.of h)
theorem wpN.holding {vs : List Value} {m : Sem α} {Q : α → Shared → Prop} (h : wpN M A m Q E s) : wpN M A (PySem.holding vs m) Q E s := fun Γ p hΓ h1 h2 => by rw [Sem.wp_holding]; exact h Γ p hΓ h1 h2
theorem wpN.onRaise {m : Sem α} {k : Value → Sem Unit} {Q : α → Shared → Prop} (h : wpN M A m Q (fun e s' => wpN M A (k e) (fun _ s'' => E e s'') E s') s) : wpN M A (m.onRaise k) Q E s := fun Γ p hΓ h1 h2 => by
  rw [Sem.wp_onRaise]
  exact Sem.wp_mono M Γ m (fun _ _ _ h' => h') (fun e p' s' h' => h' Γ p' hΓ h1 h2) p s (h Γ p hΓ h1 h2)
theorem wpN.eq {t t' : Sem α} {Q : α → Shared → Prop} (e : t = t') (h : wpN M A t' Q E s) : wpN M A t Q E s := e ▸ h
theorem wpN.pure {a : α} {Q : α → Shared → Prop} (h : Q a s) : wpN M A (Pure.pure a) Q E s := .of (wpAny_pure h)
theorem wpN.standAt {pos : Pos} {f : Unit → Sem β} {Q : β → Shared → Prop} (h : wpN M A (f ()) Q E s) : wpN M A (PySem.standAt pos >>= f) Q E s := .bindAny (wpAny_standAt h)
theorem wpN.map {m : Sem α} {f : α → β} {Q : β → Shared → Prop} (h : wpN M A m (fun a s' => Q (f a) s') E s) : wpN M A (f <$> m) Q E s := fun Γ p hΓ h1 h2 => by rw [Sem.wp_map]; exact h Γ p hΓ h1 h2
theorem wpN.toks {t : Sem α} {Q : α → Shared → Prop} (h1 : 1 ≤ s.toks) (h : wpN M A t (fun a s' => 1 ≤ s'.toks → Q a s') E s) : wpN M A t Q E s := fun Γ p hΓ a b =>
  Sem.wp_mono M Γ t (fun _ _ _ x => x.2 x.1) (fun _ _ _ x => x.2) p s (Sem.wp_toks M Γ 1 t _ _ p s h1 (h Γ p hΓ a b))

theorem codeN.mono {c : Code} {R R' : Result → Shared → Prop} (h : codeN M A c R s) (hR : ∀ r s, R r s → R' r s) : codeN M A c R' s := fun Γ p hc hΓ hN => wpCode_mono hR (h Γ p hc hΓ hN)
theorem wpN.runValue {c : Code} {Q : Value → Shared → Prop} (hc : codeN M A c (fun r s' => match r with | .ok (.ret v) => Q v s' | .ok _ => False | .error e => E e s') s) : wpN M A (PySem.runValue c) Q E s := fun Γ p hΓ h1 h2 => by
  rw [Sem.wp_runValue]
  refine hc _ p rfl (hΓ.enter c none p (by intro x; cases x)) fun x hx => ?_
  rcases List.mem_cons.mp hx with h | h
  · rw [h]; exact h1
  · exact h2 x h
theorem wpN.call {f : Value} {pos : List Value} {kw : List (Str × Value)} {Q : Value → Shared → Prop} (hc : codeN M A (.call f ⟨pos, kw⟩) (fun r s' => match r with | .ok (.ret v) => Q v s' | .ok _ => False | .error e => E e s') s) :
    wpN M A (PySem.call f pos kw) Q E s := .runValue hc
theorem codeN.of_tree {c : Code} {R : Result → Shared → Prop} (hd : isDec c = false)
    (h : wpN M (A.under c) (M.den c) (fun fin s' => match fin with | .done f => R (.ok f) s' | .again c' => c'.quiet = true ∧ codeN M A c' R s') (fun e s' => R (.error e) s') s) : codeN M A c R s := fun Γ p hc hΓ hN => by
  rw [wpCode_iff_wp, hc]
  refine Sem.wp_mono M Γ _ (fun fin p' s' h' => ?_) (fun _ _ _ h' => h') p s (h Γ p (hc ▸ hΓ.in) (hc ▸ hd) hN)
  cases fin with
  | done f => exact h'
  | again c' => exact ⟨h'.1, h'.2 (Γ.goto c') p' rfl (hΓ.goto c') hN⟩
end

section
variable {prog : Program} {w : World} {A : Around} {E : Value → Shared → Prop} {s : Shared} {R : Result → Shared → Prop}

theorem codeN.func {body : List Stmt} {env : Env} (h : wpN (model prog w) (A.deeper env) (execs body env) (fun f s' => R (.ok (.ret (match f with | .ret v => v | _ => .none))) s') (fun _ _ => False) s) :
    codeN (model prog w) A (.func body env) R s := by
  refine codeN.of_tree rfl ?_
  show wpN _ (A.deeper env) (do point; match ← (execs body env).onRaise (leaving env) with | .ret v => ret v | _ => ret .none) _ _ s
  refine .bindAny (wpAny_point (.bind (.onRaise (h.mono (fun f s' h' => ?_) fun _ _ x => x.elim))))
  cases f <;> exact .pure h'

theorem codeN.call_function {a : Addr} {args : Args} {o : Obj} {fd : FuncData} {body : List Stmt} (hroom : A.depth < recursionLimit) (ho : s.heap.get? a = some o) (hd' : o.data = .func fd) (hco : fd.scope.isCoroutine = false)
    (hgen : fd.scope.isGenerator = false) (hbody : fd.body = .stmts body) (hcd : s.heap.CodeRec fd.code fd.qualname)
    (h : wpAny (model prog w) A.in1 (bindArgs fd args) (fun binds s₁ => wpAny (model prog w) A.in1 (newFunctionEnv fd.scope fd.globals fd.closure binds (fd.qualname ++ ".<locals>.") (some a) fd.code none fd.builtins)
        (fun env s₂ => s₂.heap.NoLimit ∧ codeN (model prog w) A (.func body env) R s₂) (fun e s' => R (.error e) s') s₁) (fun e s' => R (.error e) s') s) : codeN (model prog w) A (.call (.ref a) args) R s := by
  refine codeN.of_tree rfl (.of ?_)
  show wpAny _ A.in1 (callAny (.ref a) args) _ _ s
  simp only [callAny]
  refine wpAny_bind (wpAny_load ho ?_)
  obtain ⟨c, oc, vs, tq, hc, hoc, hdc, hq⟩ := hcd
  simp only [hd', callFunction, hco, hgen, hbody, hc]
  rw [hc] at h
  refine wpAny_bind (m := field (.ref c) 1) (wpAny_field hoc hdc hq (wpAny_bind (wpAny_pure ?_)))
  exact wpAny_bind (wpAny_mono h (fun binds s₁ h₁ => wpAny_bind (wpAny_mono h₁ (fun env s₂ h₂ => wpAny_bind (wpAny_enterFrame h₂.1 hroom (wpAny_pure (And.intro rfl h₂.2)))) fun _ _ h' => h')) fun _ _ h' => h')

theorem wpN.exported {self : Value} {Q : Bool → Shared → Prop} (hg : A.guards = some []) (h : Q false s) : wpN (model prog w) A (Builtin.Bytes.exported self) Q E s := fun Γ p hΓ h1 h2 => by
  have key : ∀ {f : Code × Pos → Bool}, (∀ c p, c.isGuard = false → isDec c = false → f (c, p) = false) → ∀ l : List (Code × Pos), guardsOf l = [] → NDs l → l.any f = false := by
    intro f hf l
    induction l with
    | nil => intros; rfl
    | cons x l ih =>
      intro hgl hn
      obtain ⟨c, q⟩ := x
      rw [guardsOf_cons] at hgl
      obtain ⟨g1, g2⟩ := List.append_eq_nil_iff.mp hgl
      have hc : c.isGuard = false := by
        cases hg : c.isGuard with
        | false => rfl
        | true => simp [Code.guards, hg] at g1
      rw [List.any_cons, hf c q hc (hn _ (List.mem_cons_self ..)), ih g2 fun y hy => hn y (List.mem_cons_of_mem _ hy)]; rfl
  have hgl : guardsOf ((Γ.code, p) :: Γ.below) = [] := by rw [guardsOf_cons]; exact hΓ.2.2.2.1 [] hg
  have hn : NDs ((Γ.code, p) :: Γ.below) := fun x hx => by
    rcases List.mem_cons.mp hx with h | h
    · rw [h]; exact h1
    · exact h2 x h
  show Q (((Γ.code, p) :: Γ.below).any _) s
  rw [key ?_ _ hgl hn]
  · exact h
  · intro c q hc hd
    cases c with
    | builtin id args =>
      have ne : ∀ x : String, guardIds.contains x = true → id ≠ x := fun x hx e => by
        have : guardIds.contains id = false := hc
        rw [e, hx] at this; cases this
      have n1 := ne "bytearray.__contains__" (by decide +kernel)
      have n2 := ne "bytearray.__mod__" (by decide +kernel)
      have n3 := ne "bytearray.__rmod__" (by decide +kernel)
      have n4 := ne "_struct.pack_into.held" (by decide +kernel)
      have n5 := ne "bytearray.find.held" (by decide +kernel)
      obtain ⟨pos, kw⟩ := args
      delta Builtin.Bytes.exported.match_1
      refine (dif_neg n1).trans ?_
      refine (dif_neg n2).trans ?_
      refine (dif_neg n3).trans ?_
      refine (dif_neg n4).trans ?_
      refine (dif_neg n5).trans ?_
      cases pos with
      | nil => rfl
      | cons v tail => exact Bool.and_eq_false_imp.mpr fun _ => hd
    | _ => rfl
end

end Mine
set_option maxRecDepth 100000
namespace Mine
open PySem PySem.Calls

theorem ba_mro : mroOf (.type "bytearray") = pure [.type "bytearray", .type "object"] := by rw [mroOf_type]; kernel_rfl
theorem ba_lookup_new : typeLookup (.type "bytearray") "__new__" = pure (some (.builtin "bytearray.__new__")) := by rw [typeLookup_type, builtinLookup_eq_fast]; kernel_rfl
theorem ba_slot_init : Slot "bytearray" "__init__" "bytearray.__init__" :=
  .of (owner := "bytearray") (n := "__init__") (by rw [typeLookup_type, builtinLookup_eq_fast]; kernel_rfl) (by decide +kernel) (by decide +kernel) (by decide +kernel)
    (by first | exact .inl (by decide +kernel) | exact .inr (by decide +kernel)) (by rw [isSubtype_type]; kernel_rfl)
theorem ba_slot_set : Slot "bytearray" "__setitem__" "bytearray.__setitem__" :=
  .of (owner := "bytearray") (n := "__setitem__") (by rw [typeLookup_type, builtinLookup_eq_fast]; kernel_rfl) (by decide +kernel) (by decide +kernel) (by decide +kernel)
    (by first | exact .inl (by decide +kernel) | exact .inr (by decide +kernel)) (by rw [isSubtype_type]; kernel_rfl)
theorem ba_called : TypeCalled "bytearray" "bytearray.__new__" "bytearray.__init__" :=
  ⟨by decide +kernel, by decide +kernel, ⟨_, _, ba_mro⟩, madeBy_type ba_mro ba_lookup_new (by decide +kernel), by decide +kernel, by rw [isSubtype_type]; kernel_rfl, ba_slot_init⟩
theorem ba_typeCall (a : Value) : checkTypeCall "bytearray" ⟨[a], []⟩ = pure () := by kernel_rfl
theorem ba_newCall (a : Value) : checkBuiltinCall "bytearray.__new__" ⟨[.type "bytearray", a], []⟩ = pure () := by kernel_rfl
theorem ba_plain_new : plainId "bytearray.__new__" = true := by decide +kernel
theorem ba_plain_init : plainId "bytearray.__init__" = true := by decide +kernel
theorem ba_entry_new : entryFor table "bytearray.__new__" = some Builtin.«list.__new__» :=
  entryFor_alias (id' := "list.__new__") (by rw [fastTable_eq_tree]; kernel_rfl) (by first | rfl | decide +kernel | (unfold String.splitOn; simp +decide [String.splitOnAux])) (by decide +kernel) (by rw [fastTable_eq_tree]; kernel_rfl)
theorem ba_entry_init : entryFor table "bytearray.__init__" = some Builtin.«bytearray.__init__» := entryFor_of_tree (by kernel_rfl)
theorem ba_entry_set : entryFor table "bytearray.__setitem__" = some Builtin.«bytearray.__setitem__» := entryFor_of_tree (by kernel_rfl)
set_option maxRecDepth 1000000 in
set_option maxHeartbeats 4000000 in
theorem owner_ba_new : ("bytearray.__new__".splitOn ".__new__").headD "" = "bytearray" := by simp +decide [String.splitOn, String.splitOnAux]
theorem ba_sub : isSubtype (.type "bytearray") (.type "bytearray") = pure true := by rw [isSubtype_type]; kernel_rfl
theorem ba_slot_release : Slot "bytearray" "__release_buffer__" "bytearray.__release_buffer__" :=
  .of (owner := "bytearray") (n := "__release_buffer__") (by rw [typeLookup_type, builtinLookup_eq_fast]; kernel_rfl) (by decide +kernel) (by decide +kernel) (by decide +kernel)
    (by first | exact .inl (by decide +kernel) | exact .inr (by decide +kernel)) (by rw [isSubtype_type]; kernel_rfl)
theorem ba_release_ends : ("bytearray.__release_buffer__".endsWith ("." ++ "__release_buffer__")) = true := by decide +kernel
theorem ba_release_drop : "bytearray.__release_buffer__".dropRight ("__release_buffer__".length + 1) = "bytearray" := by decide +kernel
theorem ba_bind (v : Value) : Builtin.Bytes.bindOptional "bytearray.__init__" "bytearray" ["source", "encoding", "errors"] [v] [] = pure [some v, none, none] := by kernel_rfl

section
variable {prog : Program} {w : World} {A : Around} {E : Value → Shared → Prop} {s : Shared}
theorem code_ba_new (a : Value) {Q₁ : Value → Shared → Prop}
    (h : Q₁ (.ref s.heap.objs.size) { s with heap := s.heap.push { cls := .type "bytearray", data := .bytearray #[] } }) :
    codeAny (model prog w) A (.call (.builtin "bytearray.__new__") ⟨[.type "bytearray", a], []⟩) (wants Q₁ E) s := by
  refine codeAny_of_tree ?_
  show wpAny _ A.in1 (do checkBuiltinCall "bytearray.__new__" ⟨[.type "bytearray", a], []⟩; again (.builtin "bytearray.__new__" ⟨[.type "bytearray", a], []⟩)) _ _ s
  refine wpAny_bind (wpAny_of_eq (ba_newCall a) (wpAny_pure ⟨plainId_quiet ba_plain_new _, codeAny_builtin_stack ba_entry_new rfl fun p st => ?_⟩))
  rw [Around.under_plainId ba_plain_new _]
  have hsub := ba_sub
  have hown := owner_ba_new
  obtain ⟨hp, g, d, tk, os⟩ := s
  simp only [hown]
  wp_walk
  exact h
end
end Mine
namespace Mine
open PySem PySem.Calls
section
variable {prog : Program} {w : World} {A : Around} {E : Value → Shared → Prop} {s : Shared}
theorem wpN.ifF {α : Type} {M : Model} {c : Bool} {a b : Sem α} {Q : α → Shared → Prop} (hc : c = false) (h : wpN M A b Q E s) : wpN M A (if c = true then a else b) Q E s := by subst hc; exact h
theorem wpN.ifT {α : Type} {M : Model} {c : Bool} {a b : Sem α} {Q : α → Shared → Prop} (hc : c = true) (h : wpN M A a Q E s) : wpN M A (if c = true then a else b) Q E s := by subst hc; exact h
theorem wpN.bindEq {α β : Type} {M : Model} {m : Sem α} {a : α} {f : α → Sem β} {Q : β → Shared → Prop} (e : m = Pure.pure a) (h : wpN M A (f a) Q E s) : wpN M A (m >>= f) Q E s := by
  subst e; exact .bind (.pure h)

theorem upd_barr {M : Model} {a : Addr} {b : Array UInt8} {f : Array UInt8 → Array UInt8} {Q : Unit → Shared → Prop} (hb : Barr s.heap a b) (hz : (f b).size ≤ sizeLine)
    (h : ∀ h', Barr h' a (f b) → Heap.SameBut a s.heap h' → Q () { s with heap := h' }) : wpAny M A (updateBytearray a f) Q E s := by
  unfold updateBytearray
  refine wpAny_bind (wpAny_load hb ?_)
  show wpAny _ _ (update a (Obj.mapBytearray f) >>= fun _ => lookBehind a) _ _ _
  refine wpAny_bind (wpAny_update hb ?_)
  have hS : (s.heap.update a (Obj.mapBytearray f)).get? a = some { cls := .type "bytearray", data := .bytearray (f b) 0 } := Heap.get?_update_self (Obj.mapBytearray f) hb rfl
  refine wpAny_lookBehind hS ?_ (h _ hS (Heap.SameBut.update ..))
  show (if (f b).size > sizeLine then some "bytearray:memory" else none) = none
  rw [if_neg (Nat.not_lt.mpr hz)]

theorem ba_init {a : Addr} {n : Nat} {t : Tok} {Q : Fin → Shared → Prop} (hg : A.guards = some []) (hb : Barr s.heap a #[]) (hn : n ≤ 1000000)
    (h : ∀ h', Barr h' a (Array.replicate n 0) → Heap.SameBut a s.heap h' → Q (.done (.ret .none)) { s with heap := h' }) :
    wpN (model prog w) A (Builtin.«bytearray.__init__» ⟨[.ref a, .int (n : Int) t], []⟩) Q E s := by
  unfold Builtin.«bytearray.__init__»
  dsimp only
  have hT : s.TypeIs (.ref a) "bytearray" := ⟨_, hb, rfl⟩
  refine wpN.bindAny (m := Builtin.Bytes.ownRelease (.ref a)) ?_
  unfold Builtin.Bytes.ownRelease Builtin.Bytes.slotIsOwn
  refine wpAny_bind (wpAny_bind (wpAny_specialOf hT ba_slot_release.lookup ?_))
  dsimp only
  rw [ba_release_ends]
  simp only [Bool.not_true, Bool.false_eq_true, if_false]
  rw [ba_release_drop]
  refine wpAny_isInstance hT ba_sub ?_
  refine wpAny_pure ?_
  refine wpN.ifF rfl ?_
  refine wpN.bindEq (ba_bind _) ?_
  dsimp only
  refine wpN.bindEq (a := ()) rfl ?_
  refine wpN.bindEq (a := ()) rfl ?_
  have hor : ∀ (Q' : Bool → Shared → Prop), Q' false s → wpN (model prog w) A (Builtin.Bytes.exported (.ref a) <||> do
      let __do_lift ← Builtin.Bytes.exportsOf (.ref a)
      pure (decide (__do_lift > 0))) Q' E s := fun Q' hq => by
    refine wpN.bind (wpN.exported hg ?_)
    show wpN _ A (do
      let __do_lift ← Builtin.Bytes.exportsOf (.ref a)
      pure (decide (__do_lift > 0))) Q' E s
    refine wpN.bindAny (m := Builtin.Bytes.exportsOf (.ref a)) ?_
    unfold Builtin.Bytes.exportsOf
    dsimp only
    refine wpAny_bind (wpAny_load hb ?_)
    exact wpAny_pure (wpN.pure hq)
  refine wpN.bind (hor _ ?_)
  refine wpN.ifF rfl (wpN.of ?_)
  refine wpAny_bind ?_
  unfold Builtin.Bytes.write
  dsimp only
  refine upd_barr hb (Nat.zero_le _) fun h₁ hb₁ hs₁ => ?_
  have hstr : asStr? (.int (n : Int) t) = pure none := rfl
  rw [hstr, pure_bind]
  simp only [Option.isSome_none, Bool.false_eq_true, if_false]
  rw [pure_bind]
  refine wpAny_bind ?_
  have hTi : ({ s with heap := h₁ } : Shared).TypeIs (.int (n : Int) t) "int" := typeIs_int _ (n : Int) t
  have hl := PySem.F.slot_int_index.lookup
  generalize hQQ : (fun (a_1 : Option Value) s' => _) = QQ
  refine wpAny_specialOf hTi hl ?_
  rw [← hQQ]
  change wpAny (model prog w) A _ Q E { s with heap := h₁ }
  rw [if_pos (show (some (Value.builtin "int.__index__")).isSome = true from rfl)]
  refine wpAny_bind ?_
  generalize hQQ2 : (fun (a_1 : Except Value Int) s' => _) = QQ2
  refine wpAny_attempt (wpAny_of_eq (rfl : asIndex (.int (n : Int) t) = pure (n : Int)) ?_)
  rw [← hQQ2]
  change wpAny (model prog w) A _ Q E { s with heap := h₁ }
  dsimp only
  refine bm_if_false ?_ ?_
  · unfold Builtin.Bytes.fitsIndex
    simp
    omega
  rw [if_neg (by omega)]
  refine bm_if_false ?_ ?_
  · simp; omega
  have hz : n ≤ sizeLine := Nat.le_trans hn (by decide)
  refine bm_if_false ?_ ?_
  · unfold Builtin.Bytes.tooLong
    exact decide_eq_false (by rw [Int.toNat_natCast]; exact Nat.not_lt.mpr hz)
  refine wpAny_bind (wpAny_rule ?_)
  have fin : ∀ h', Barr h' a (Array.replicate n 0) → Heap.SameBut a h₁ h' → Q (.done (.ret .none)) { s with heap := h' } := fun h' h1 h2 => h h' h1 (hs₁.trans h2)
  by_cases h0 : (n : Int) > 0
  · rw [if_pos h0]
    refine wpAny_bind (upd_barr hb₁ (by simpa using hz) fun h₂ hb₂ hs₂ => wpAny_pure (fin h₂ ?_ hs₂))
    simpa using hb₂
  · rw [if_neg h0]
    have : n = 0 := by omega
    subst this
    exact wpAny_pure (fin h₁ (by simpa using hb₁) (Heap.SameBut.refl ..))
end
end Mine
set_option maxRecDepth 100000
namespace Mine
open PySem PySem.Calls

section
variable {prog : Program} {w : World} {A : Around} {E : Value → Shared → Prop} {s : Shared} {R : Result → Shared → Prop}

theorem codeN.builtin {id : String} {args : Args} {b : Builtin} (hd : Builtin.Bytes.decodersThatHold.contains id = false) (hb : entryFor table id = some b)
    (h : wpN (model prog w) (A.under (.builtin id args)) (b args) (fun fin s' => match fin with | .done f => R (.ok f) s' | .again c' => c'.quiet = true ∧ codeN (model prog w) A c' R s') (fun e s' => R (.error e) s') s) :
    codeN (model prog w) A (.builtin id args) R s := by
  refine codeN.of_tree hd ?_
  show wpN _ _ (match entryFor table id with | some b => b args | none => unsupported ((withoutEnding? id "#data").getD id)) _ _ s
  rw [hb]; exact h

theorem ba_args (a b : Value) : argsOk "bytearray.__init__" ⟨[a, b], []⟩ := by
  unfold argsOk; kernel_rfl

theorem call_ba {n : Nat} {t : Tok} {Q : Value → Shared → Prop} (hg : A.guards = some []) (hn : n ≤ 1000000)
    (h : ∀ h', Barr h' s.heap.objs.size (Array.replicate n 0) → (∀ b o, s.heap.get? b = some o → h'.get? b = some o) → Q (.ref s.heap.objs.size) { s with heap := h' }) :
    wpN (model prog w) A (call (.type "bytearray") [.int (n : Int) t]) Q E s := by
  refine wpN.call (codeN.of_tree rfl ?_)
  show wpN _ A.in1 (callAny (.type "bytearray") _) _ _ _
  refine wpN.pure ⟨Code.quiet_builtin _ (by decide +kernel), codeN.builtin (by decide +kernel) F.entry_type_call ?_⟩
  rw [Around.under_plain (weight_type_call_type "bytearray" [.int (n : Int) t] []) rfl]
  unfold Builtin.«type.__call__»
  dsimp only
  refine wpN.ifF (by decide +kernel) ?_
  refine wpN.ifF ba_called.canCreate ?_
  refine wpN.bindEq (ba_typeCall _) ?_
  refine wpN.bindEq ba_mro ?_
  refine wpN.ifF rfl ?_
  refine wpN.bindEq ba_called.made ?_
  dsimp only
  refine wpN.bindEq rfl ?_
  refine wpN.bindAny (wpAny_holding (wpAny_call (codeAny_mono (code_ba_new (E := E) (.int (n : Int) t) (Q₁ := fun v s' => v = .ref s.heap.objs.size ∧ s' = { s with heap := s.heap.push { cls := .type "bytearray", data := .bytearray #[] } }) ⟨rfl, rfl⟩) fun r s' hr => ?_)))
  cases r with
  | error e => exact hr
  | ok fl =>
    cases fl with
    | ret v =>
      obtain ⟨rfl, rfl⟩ := hr
      have hb : Barr (s.heap.push { cls := .type "bytearray", data := .bytearray #[] }) s.heap.objs.size #[] := Heap.get?_push_size _ rfl
      have hT : ({ s with heap := s.heap.push { cls := .type "bytearray", data := .bytearray #[] } } : Shared).TypeIs (.ref s.heap.objs.size) "bytearray" := ⟨_, hb, rfl⟩
      dsimp only
      refine wpN.bindAny (wpAny_isInstance hT ba_sub ?_)
      refine wpN.ifF rfl ?_
      refine wpN.bind (wpN.holding ?_)
      unfold callSpecial?
      refine wpN.bindAny (wpAny_specialOf hT ba_slot_init.lookup ?_)
      dsimp only
      refine wpN.holding (wpN.bindEq (ba_slot_init.bind _) ?_)
      dsimp only
      refine wpN.bind (wpN.call (codeN.of_tree rfl ?_))
      show wpN _ A.in1.in1 (do checkBuiltinCall "bytearray.__init__" ⟨[.ref s.heap.objs.size, .int (n : Int) t], []⟩; again (.builtin "bytearray.__init__" ⟨[.ref s.heap.objs.size, .int (n : Int) t], []⟩)) _ _ _
      refine wpN.bindAny (ba_slot_init.check _ _ _ _ _ _ _ _ hT (ba_args _ _) ?_)
      refine wpN.pure ⟨plainId_quiet ba_plain_init _, codeN.builtin (by decide +kernel) ba_entry_init ?_⟩
      rw [Around.under_plainId ba_plain_init _]
      refine ba_init hg hb hn fun h' hb' hs' => ?_
      refine wpN.pure ?_
      dsimp only
      refine wpN.ifF rfl ?_
      refine wpN.pure ?_
      refine h h' hb' fun b o e => ?_
      have hne : b ≠ s.heap.objs.size := fun e' => Nat.lt_irrefl _ (e' ▸ Heap.lt_size e)
      exact (hs'.2 b hne).trans (Heap.get?_push_of_some _ e)
    | next => exact hr
    | brk => exact hr
    | cont => exact hr
end
end Mine
set_option maxRecDepth 100000
namespace Mine
open PySem PySem.Calls

section
variable {prog : Program} {w : World} {A : Around} {E : Value → Shared → Prop} {s : Shared} {R : Result → Shared → Prop}

theorem ba_args_set (a b c : Value) : argsOk "bytearray.__setitem__" ⟨[a, b, c], []⟩ := by unfold argsOk; kernel_rfl

theorem ba_set {a : Addr} {b : Array UInt8} {k : Nat} {x : Int} {t u : Tok} {Q : Unit → Shared → Prop} (hb : Barr s.heap a b) (hk : k < b.size) (hz : b.size ≤ 1000000) (hx : 0 ≤ x ∧ x < 256)
    (hQ : ∀ h', Barr h' a (b.setIfInBounds k x.toNat.toUInt8) → Heap.SameBut a s.heap h' → Q () { s with heap := h' }) : wpAny (model prog w) A (setItem (.ref a) (.int (k : Int) t) (.int x u)) Q E s := by
  have hT : s.TypeIs (.ref a) "bytearray" := ⟨_, hb, rfl⟩
  have hz' : b.size ≤ sizeLine := Nat.le_trans hz (by decide)
  unfold setItem
  try with_reducible refine wpAny_holding ?_
  refine wpAny_bind (wpAny_sequenceKey hT (by decide) ?_)
  refine wpAny_bind (wpAny_callSpecial?_slot (name := Str.ofString "__setitem__") hT ba_slot_set
    (wpAny_call_entry ba_slot_set hT ba_entry_set ?_ (ba_args_set _ _ _)))
  unfold Builtin.«bytearray.__setitem__»
  dsimp only
  generalize hFin : (fun (fin : Fin) s' => _) = QF
  rw [if_neg (show ¬ ((!([] : List (Str × Value)).isEmpty) = true) from Bool.false_ne_true)]
  refine wpAny_bind ?_
  unfold Builtin.Bytes.subscript?
  refine wpAny_bind ?_
  have hTi : s.TypeIs (.int (k : Int) t) "int" := typeIs_int _ (k : Int) t
  have hl := PySem.F.slot_int_index.lookup
  generalize hQQ : (fun (a_1 : Option Value) s' => _) = QQ
  refine wpAny_specialOf hTi hl ?_
  rw [← hQQ]
  change wpAny (model prog w) _ _ _ E s
  rw [if_neg (show ¬ ((some (Value.builtin "int.__index__")).isNone = true) from Bool.false_ne_true)]
  have e1 : asIndex (.int (k : Int) t) = pure (k : Int) := rfl
  rw [e1, pure_bind]
  have hfit : (!Builtin.Bytes.fitsIndex (k : Int)) = false := by
    have hk' : k < 16777216 := Nat.lt_of_lt_of_le hk hz'
    unfold Builtin.Bytes.fitsIndex
    simp
    omega
  rw [if_neg (show ¬ ((!Builtin.Bytes.fitsIndex (k : Int)) = true) from by rw [hfit]; exact Bool.false_ne_true)]
  refine wpAny_pure ?_
  dsimp only
  refine wpAny_bind ?_
  unfold Builtin.Bytes.byteValue
  have e2 : asIndex (.int x u) = pure x := rfl
  rw [e2, pure_bind]
  rw [if_neg (show ¬ ((decide (x < 0) || decide (x ≥ 256)) = true) from by simp only [Bool.or_eq_true, decide_eq_true_eq, not_or]; omega)]
  refine wpAny_pure ?_
  refine wpAny_bind ?_
  unfold Builtin.Bytes.payload Builtin.Bytes.payload?
  refine wpAny_bind (wpAny_bind (wpAny_load hb ?_))
  refine wpAny_pure (wpAny_pure ?_)
  rw [seqIndex_pos (Int.natCast_nonneg k) (by exact_mod_cast hk)]
  dsimp only
  refine wpAny_bind ?_
  unfold Builtin.Bytes.write
  dsimp only
  rw [Int.toNat_natCast]
  refine upd_barr hb (by simpa using hz') fun h' hb' hs' => ?_
  refine wpAny_pure ?_
  rw [← hFin]
  exact ⟨_, rfl, wpAny_pure (hQ h' hb' hs')⟩

/-- bytes of a bytearray -/
theorem ba_no_bytes : typeLookup (.type "bytearray") "__bytes__" = pure none := by rw [typeLookup_type, builtinLookup_eq_fast]; kernel_rfl
theorem ba_no_index : typeLookup (.type "bytearray") "__index__" = pure none := by rw [typeLookup_type, builtinLookup_eq_fast]; kernel_rfl
theorem ba_buffer : typeLookup (.type "bytearray") "__buffer__" = pure (some (.builtin "bytearray.__buffer__")) := by rw [typeLookup_type, builtinLookup_eq_fast]; kernel_rfl
theorem ba_buffer_ends : ("bytearray.__buffer__".endsWith ("." ++ "__buffer__")) = true := by decide +kernel
theorem ba_buffer_drop : "bytearray.__buffer__".dropRight ("__buffer__".length + 1) = "bytearray" := by decide +kernel

theorem ba_slotIsOwn {M : Model} {v : Value} {name id : String} {Q : Bool → Shared → Prop} (hT : s.TypeIs v "bytearray") (hl : typeLookup (.type "bytearray") (name : Str) = pure (some (.builtin id))) (he : (id.endsWith ("." ++ name)) = true)
    (hd : id.dropRight (name.length + 1) = "bytearray") (h : Q true s) : wpAny M A (Builtin.Bytes.slotIsOwn v name) Q E s := by
  unfold Builtin.Bytes.slotIsOwn
  refine wpAny_bind (wpAny_specialOf hT hl ?_)
  dsimp only
  rw [he]
  simp only [Bool.not_true, Bool.false_eq_true, if_false]
  rw [hd]
  exact wpAny_isInstance hT ba_sub h

theorem ba_bytes {a : Addr} {b : Array UInt8} {Q : Value → Shared → Prop} (hb : Barr s.heap a b) (hz : b.size ≤ 1000000)
    (hQ : ∀ t k, Q (.bytes b t) { s with toks := k }) : wpAny (model prog w) A (call (.type "bytes") [.ref a]) Q E s := by
  have hT : s.TypeIs (.ref a) "bytearray" := ⟨_, hb, rfl⟩
  have hz' : b.size ≤ sizeLine := Nat.le_trans hz (by decide)
  have hnew : codeAny (model prog w) A.in1 (.call (.builtin "bytes.__new__") ⟨[.type "bytes", .ref a], []⟩) (wants (fun obj s₁ => s₁.TypeIs obj "bytes" ∧ Q obj s₁) E) s := by
    refine codeAny_of_tree ?_
    show wpAny _ A.in1.in1 (do checkBuiltinCall "bytes.__new__" ⟨[.type "bytes", .ref a], []⟩; again (.builtin "bytes.__new__" ⟨[.type "bytes", .ref a], []⟩)) _ _ s
    refine wpAny_bind (wpAny_of_eq (F.bm_newCall _) (wpAny_pure ⟨plainId_quiet F.bm_plain _, codeAny_builtin F.bm_entry ?_⟩))
    rw [Around.under_plainId F.bm_plain _]
    unfold Builtin.«bytes.__new__»
    refine wpAny_bind (wpAny_of_eq (a := true) rfl ?_)
    refine bm_if_false rfl ?_
    refine wpAny_bind (wpAny_of_eq F.bm_sub ?_)
    refine bm_if_false rfl ?_
    refine wpAny_bind (wpAny_of_eq (F.bm_bind _) ?_)
    refine wpAny_bind (wpAny_of_eq (a := ()) rfl ?_)
    refine wpAny_bind (wpAny_of_eq (a := ()) rfl ?_)
    refine bm_if_false rfl ?_
    refine wpAny_bind (wpAny_specialOf hT ba_no_bytes ?_)
    refine wpAny_bind (wpAny_bind ?_)
    show wpAny _ _ (load a >>= _) _ _ _
    refine wpAny_bind (wpAny_load hb ?_)
    refine wpAny_pure (wpAny_pure ?_)
    refine bm_if_false rfl ?_
    refine wpAny_bind (wpAny_specialOf hT ba_no_index ?_)
    refine bm_if_true rfl ?_
    first
      | show wpAny _ _ (Builtin.Bytes.buffer? "bytes.__new__" (.ref a) true >>= _) _ _ _
      | (refine wpAny_bind ?_; show wpAny _ _ (Builtin.Bytes.buffer? "bytes.__new__" (.ref a) true >>= _) _ _ _)
    refine wpAny_bind ?_
    unfold Builtin.Bytes.buffer?
    refine wpAny_bind (wpAny_specialOf hT ba_buffer ?_)
    try dsimp only
    refine wpAny_bind (ba_slotIsOwn hT ba_buffer ba_buffer_ends ba_buffer_drop ?_)
    refine bm_if_false rfl ?_
    refine wpAny_bind (wpAny_specialOf hT ba_buffer ?_)
    try dsimp only
    refine wpAny_bind ?_
    unfold Builtin.Bytes.ownRelease
    refine wpAny_bind (ba_slotIsOwn hT ba_slot_release.lookup ba_release_ends ba_release_drop ?_)
    refine wpAny_pure ?_
    refine bm_if_false rfl ?_
    refine wpAny_bind ?_
    unfold Builtin.Bytes.payload Builtin.Bytes.payload?
    refine wpAny_bind (wpAny_bind (wpAny_load hb ?_))
    refine wpAny_pure (wpAny_pure (wpAny_pure ?_))
    refine wpAny_bind (wpAny_rule ?_)
    refine wpAny_bind (wpAny_mkBytes ?_ hz')
    show wpAny _ _ (if (Value.type "bytes" == Value.type "bytes") = true then _ else _) _ _ _
    refine bm_if_true (by decide) ?_
    first
      | exact wpAny_pure ⟨PySem.W.typeIs_bytes _ _ _, hQ _ _⟩
      | exact wpAny_bind (wpAny_pure (wpAny_pure ⟨PySem.W.typeIs_bytes _ _ _, hQ _ _⟩))
  refine callType_codes F.bm_called (F.bm_typeCall _) F.entry_object_init hnew fun obj s₁ h₁ => ?_
  exact ⟨h₁.1, F.args_object_init_2 obj _, object_init_meets F.bm_called.init.lookup F.bm_called.made (by decide) prog w A.in1 _ s₁ ⟨h₁.1, rfl, h₁.2⟩⟩
end
end Mine
set_option maxRecDepth 100000
namespace Mine
open PySem PySem.Calls

theorem by_len : typeLookup (.type "bytes") "__len__" = pure (some (.builtin "bytes.__len__")) := by rw [typeLookup_type, builtinLookup_eq_fast]; kernel_rfl

section
variable {prog : Program} {w : World} {A : Around} {E : Value → Shared → Prop} {s : Shared}

abbrev ByteAt (b : Array UInt8) (i : Nat) (v : Value) : Prop := ∃ c u, b[i]? = some c ∧ v = .int (c.toNat : Int) u

theorem extend_bytes {R : Result → Shared → Prop} (hh : A.handled = none) (b : Array UInt8) (t : Tok) (S : Addr) (res : Value) (c₀ : Nat) (hS : s.heap.get? S = some { cls := .type "list", data := .seq #[] c₀ }) (hn : b.size ≤ sizeLine)
    (hR : ∀ h' tk acc' c', (∀ b o, b ≠ S → s.heap.get? b = some o → h'.get? b = some o) → h'.get? S = some { cls := .type "list", dict := none, data := .seq acc' c', slots := #[] } →
      ItemsOf (ByteAt b) acc' b.size → R (.ok (.ret res)) { s with heap := h', toks := tk }) :
    wpAny (model prog w) A.in1 (Builtin.List.listExtendWith (.ref S) (.bytes b t) res)
      (fun fin s' => match fin with | .done f => R (.ok f) s' | .again c' => c'.quiet = true ∧ codeAny (model prog w) A c' R s') (fun e s' => R (.error e) s') s := by
  have hSI : S ≠ s.heap.objs.size := Nat.ne_of_lt (Heap.lt_size hS)
  have hSf : S ∉ [s.heap.objs.size] := fun hm => hSI (List.mem_singleton.mp hm)
  have hTb := PySem.W.typeIs_bytes s b t
  unfold Builtin.List.listExtendWith
  refine wpAny_bind (wpAny_typeOf (T := "bytes") (v := .bytes b t) hTb ?_)
  have h1 : Builtin.List.listSameRef (.ref S) (.bytes b t) = false := rfl
  have h2 : (Value.type "bytes" == Value.type "list") = false := by decide
  have h3 : (Value.type "bytes" == Value.type "tuple") = false := by decide
  simp only [h1, h2, h3, Bool.or_false, Bool.false_eq_true, if_false]
  refine wpAny_bind (PySem.W.KBw.pyIter_bytes ?_)
  refine wpAny_bind (wpAny_holding ?_)
  unfold Builtin.List.listLengthHint
  have hTb₁ : ({ s with heap := s.heap.push { cls := .type "bytes_iterator", data := .fields #[.bytes b t, .int 0 0] } } : Shared).TypeIs (.bytes b t) "bytes" := PySem.W.typeIs_bytes _ b t
  refine wpAny_bind (wpAny_specialOf (T := "bytes") (v := .bytes b t) hTb₁ by_len ?_)
  wp_delta
  refine wpAny_bind (wpAny_isInstance (T := "bytes") (v := .bytes b t) (b := true) hTb₁ (by rw [isSubtype_type]; kernel_rfl) ?_)
  show wpAny _ _ (typeOf (Value.bytes b t) >>= _) _ _ _
  refine wpAny_bind (wpAny_typeOf (T := "bytes") (v := .bytes b t) hTb₁ ?_)
  refine wpAny_pure ?_
  rw [if_neg (by decide)]
  have W := (PySem.W.KBw.walks (prog := prog) (w := w) (A := A.in1) hh s.heap.objs.size b t).toS
  have hst : PySem.W.KBw.IsBytesIter (s.heap.push { cls := .type "bytes_iterator", data := .fields #[.bytes b t, .int 0 0] }) s.heap.objs.size b t 0 := ⟨_, Heap.get?_push_size _ rfl, rfl, rfl⟩
  refine wpAny_pure ⟨plainId_quiet F.plain_extend_loop _, codeAny_extend_loopS W hn _ hSf _ b.size 0 _ _ _ rfl (Nat.zero_le _) hst (Heap.get?_push_of_some _ hS) (ItemsOf.nil _) fun s' acc' c' hm hS' hacc => ?_⟩
  rw [Moved.eq_with hm]
  refine hR s'.heap s'.toks acc' c' (fun b ob hb e => hm.heap b ob (fun hmem => ?_) (Heap.get?_push_of_some _ e)) hS' hacc
  rcases List.mem_cons.mp hmem with e' | hmem
  · exact hb e'
  · exact absurd (Heap.lt_size e) (by rw [List.mem_singleton.mp hmem]; exact Nat.lt_irrefl _)

theorem list_init_bytes {R : Result → Shared → Prop} (hh : A.handled = none) (x : Array UInt8) (t : Tok) (S : Addr) (hS : s.heap.get? S = some { cls := .type "list", data := .seq #[] }) (hn : x.size ≤ sizeLine)
    (hR : ∀ h' tk acc' c', (∀ b o, b ≠ S → s.heap.get? b = some o → h'.get? b = some o) → h'.get? S = some { cls := .type "list", dict := none, data := .seq acc' c', slots := #[] } →
      ItemsOf (ByteAt x) acc' x.size → R (.ok (.ret .none)) { s with heap := h', toks := tk }) :
    wpAny (model prog w) A.in1 (Builtin.«list.__init__» ⟨[.ref S, .bytes x t], []⟩)
      (fun fin s' => match fin with | .done f => R (.ok f) s' | .again c' => c'.quiet = true ∧ codeAny (model prog w) A c' R s') (fun e s' => R (.error e) s') s := by
  show wpAny _ _ (do let old ← Builtin.List.listItems (.ref S); Builtin.List.listUpdate (.ref S) (fun _ => #[]); letGo old.toList.reverse; Builtin.List.listExtendWith (.ref S) (.bytes x t) .none) _ _ s
  refine wpAny_bind ?_
  unfold Builtin.List.listItems
  refine wpAny_bind (wpAny_seqItems hS rfl (wpAny_pure ?_))
  show wpAny _ _ (updateSeq S (fun _ => #[]) >>= fun _ => letGo (#[] : Array Value).toList.reverse >>= fun _ => Builtin.List.listExtendWith (.ref S) (.bytes x t) .none) _ _ s
  refine wpAny_bind (wpAny_updateSeq hS rfl ?_)
  have hS₂ := Heap.get?_update_self (Obj.mapSeq (fun _ => (#[] : Array Value))) hS rfl
  have oth : ∀ b o, b ≠ S → s.heap.get? b = some o → (s.heap.update S (Obj.mapSeq (fun _ => (#[] : Array Value)))).get? b = some o :=
    fun b o hb e => (Heap.get?_update_other _ _ (Ne.symm hb)).trans e
  refine wpAny_bind (wpAny_letGo ?_)
  refine extend_bytes hh x t S .none _ hS₂ hn fun h' tk acc' c' hk hS' hacc => ?_
  exact hR h' tk acc' c' (fun b o hb e => hk b o hb (oth b o hb e)) hS' hacc

theorem call_list_bytes {Q : Value → Shared → Prop} (hh : A.handled = none) (x : Array UInt8) (t : Tok) (hn : x.size ≤ sizeLine)
    (hQ : ∀ h' tk acc' c', (∀ b o, s.heap.get? b = some o → h'.get? b = some o) →
      h'.get? s.heap.objs.size = some { cls := .type "list", dict := none, data := .seq acc' c', slots := #[] } → ItemsOf (ByteAt x) acc' x.size → Q (.ref s.heap.objs.size) { s with heap := h', toks := tk }) :
    wpAny (model prog w) A (call (.type "list") [.bytes x t]) Q E s := by
  refine callType_codes (Q₁ := fun obj s₁ => obj = .ref s.heap.objs.size ∧ s₁ = { s with heap := s.heap.push { cls := .type "list", data := .seq #[] } }) F.called_list (F.typeCall_list_1 _) F.entry_list_init
    (code_list_new _ ⟨rfl, rfl⟩) fun obj s₁ h₁ => ?_
  obtain ⟨rfl, rfl⟩ := h₁
  have hS : (s.heap.push { cls := .type "list", data := .seq #[] }).get? s.heap.objs.size = some { cls := .type "list", data := .seq #[] } := Heap.get?_push_size _ rfl
  refine ⟨⟨_, hS, rfl⟩, F.args_list_init_2 _ _, list_init_bytes (A := A.in1) hh x t _ hS hn fun h' tk acc' c' hk hS' hacc => ?_⟩
  exact ⟨rfl, hQ h' tk acc' c' (fun b o e => hk b o (Nat.ne_of_lt (Heap.lt_size e)) (Heap.get?_push_of_some _ e)) hS' hacc⟩
end
end Mine
set_option maxRecDepth 10000
namespace Mine
open PySem PySem.Calls

variable {prog : Program} {w : World} {A : Around} {g : Heap} {env : Env} {ow : List (Str × Addr)} {V : List Addr} {ρ : Str → Option B} {c : Cx} {mg mb : Str → Option Value}

theorem Op.of1 {t : List Value → Sem Value} {a d : T} (h : ∀ (s : Shared) (X : List Addr) (u : Value) (Q : Value → Shared → Prop) (E : Value → Shared → Prop), R prog w s.heap X u a → (∀ b ∈ X, ∃ o, s.heap.get? b = some o ∧ XO o) →
    (∀ v s', Kp0 s s' → R prog w s'.heap X v d → Q v s') → wpAny (model prog w) A (t [u]) Q E s) : Op prog w A t [a] d := fun s X vs Q E r hX hq => by
  cases r with
  | cons r1 r2 => cases r2; exact h s X _ Q E r1 hX hq
theorem Rs.of_get {h : Heap} {X : List Addr} : ∀ {vs : List Value} {ds : List T}, vs.length = ds.length → (∀ (i : Nat) (v : Value), vs[i]? = some v → ∃ d, ds[i]? = some d ∧ R prog w h X v d) → Rs prog w h X vs ds
  | [], [], _, _ => .nil
  | v :: vs, d :: ds, hl, hg => by
    obtain ⟨d', e, r⟩ := hg 0 v (by simp)
    simp at e
    subst e
    exact .cons r (Rs.of_get (by simpa using hl) fun i v' e => by simpa using hg (i + 1) v' (by simpa using e))
  | [], _ :: _, hl, _ => by simp at hl
  | _ :: _, [], hl, _ => by simp at hl

/-- the same judgements, in contexts without a decoder -/
def Ex1N (prog : Program) (w : World) (A : Around) (g : Heap) (env : Env) (ow : List (Str × Addr)) (V : List Addr) (ρ : Str → Option B) (st : Stmt) (o : Out) : Prop :=
  ∀ P os m cm s (Q : Flow → Shared → Prop) (E : Value → Shared → Prop), InF prog w ⟨g, P, env, ow, V, os, m, cm⟩ ρ s → Post prog w g P env ow V s o Q → wpN (model prog w) A (exec st env) Q E s
def ExN (prog : Program) (w : World) (A : Around) (g : Heap) (env : Env) (ow : List (Str × Addr)) (V : List Addr) (ρ : Str → Option B) (ss : List Stmt) (o : Out) : Prop :=
  ∀ P os m cm s (Q : Flow → Shared → Prop) (E : Value → Shared → Prop), InF prog w ⟨g, P, env, ow, V, os, m, cm⟩ ρ s → Post prog w g P env ow V s o Q → wpN (model prog w) A (execs ss env) Q E s
theorem Ex1N.of {st : Stmt} {o : Out} (h : Ex1 prog w A g env ow V ρ st o) : Ex1N prog w A g env ow V ρ st o := fun P os m cm s Q E F hq => .of (h P os m cm s Q E F hq)
theorem ExN.of {ss : List Stmt} {o : Out} (h : Ex prog w A g env ow V ρ ss o) : ExN prog w A g env ow V ρ ss o := fun P os m cm s Q E F hq => .of (h P os m cm s Q E F hq)
theorem ExN.cons_next {st : Stmt} {rest : List Stmt} {ρ' : Str → Option B} {o : Out} (h1 : Ex1N prog w A g env ow V ρ st (.next ρ')) (h2 : ExN prog w A g env ow V ρ' rest o) : ExN prog w A g env ow V ρ (st :: rest) o :=
  fun P os m cm s Q E F h => by
    rw [execs_cons]
    refine wpN.bind (h1 P os m cm s _ E F fun os' m' cm' s' t F' => ?_)
    exact h2 P os' m' cm' s' Q E F' (h.mono t)
theorem ExN.cons {st : Stmt} {rest : List Stmt} {ρ' : Str → Option B} {o : Out} (h1 : Ex1 prog w A g env ow V ρ st (.next ρ')) (h2 : ExN prog w A g env ow V ρ' rest o) : ExN prog w A g env ow V ρ (st :: rest) o := .cons_next (.of h1) h2
theorem Ex1N.ofDis {st : Stmt} {o : Out} (h : Ex1N prog w A g env ow V (dis ρ) st o) : Ex1N prog w A g env ow V ρ st o := fun P os m cm s Q E F hq => h P [] m cm s Q E F.dis hq

def EvN (prog : Program) (w : World) (A : Around) (c : Cx) (ρ : Str → Option B) (e : Expr) (d : T) : Prop :=
  ∀ (s : Shared) (Q : Value → Shared → Prop) (E : Value → Shared → Prop), InF prog w c ρ s → (∀ v s', Kp s s' → R prog w s'.heap c.X v d → Q v s') → wpN (model prog w) A (eval e c.env) Q E s
theorem Ex1N.assign {x : Str} {px pos : Pos} {e : Expr} {d : T} (hc : notComp e = true) (hk : canStore ow env x) (he : ∀ c : Cx, c.env = env → c.g = g → EvN prog w A c ρ e d) :
    Ex1N prog w A g env ow V ρ (.Assign [.Name x px] e pos) (.next (upd ρ x (.v d))) := fun P os m cm s Q E F h => by
  rw [exec_Assign_Name env x px e pos (swapsWith_plain hc)]
  refine wpN.standAt (wpN.bind (he ⟨g, P, env, ow, V, os, m, cm⟩ rfl rfl s _ _ F fun v s1 k1 r1 => ?_))
  refine wpN.of (wpAny_bind (wpAny_standAt (wpAny_bind (wpAny_bindName ((F.keep k1).store hk r1 fun m' cm' s2 t2 F2 => wpAny_pure ?_)))))
  exact h os m' cm' s2 (k1.tr.trans t2) F2


/-- a new object, in contexts without a decoder -/
def EvNewN (prog : Program) (w : World) (A : Around) (c : Cx) (ρ : Str → Option B) (e : Expr) (d : T) : Prop :=
  ∀ (s : Shared) (Q : Value → Shared → Prop) (E : Value → Shared → Prop), InF prog w c ρ s →
    (∀ s₁ a s', Kp s s₁ → Kp s₁ s' → s₁.heap.objs.size ≤ a → (∃ o, s'.heap.get? a = some o ∧ XO o) → (∀ X, RO prog w s'.heap X a d) → Q (.ref a) s') → wpN (model prog w) A (eval e c.env) Q E s
theorem Ex1N.assignNew {x : Str} {px pos : Pos} {e : Expr} {d : T} (hc : notComp e = true) (hk : canStore ow env x) (he : ∀ c : Cx, c.env = env → c.g = g → EvNewN prog w A c ρ e d) :
    Ex1N prog w A g env ow V ρ (.Assign [.Name x px] e pos) (.next (upd ρ x (.o d))) := fun P os m cm s Q E F h => by
  rw [exec_Assign_Name env x px e pos (swapsWith_plain hc)]
  refine wpN.standAt (wpN.bind (he ⟨g, P, env, ow, V, os, m, cm⟩ rfl rfl s _ _ F fun s₁ a s' k1 k2 ha hg hr => ?_))
  have F₁ := (F.keep k1).own k2 x ha hg
  refine wpN.of (wpAny_bind (wpAny_standAt (wpAny_bind (wpAny_bindName (F₁.storeB (b₀ := .o d) hk ⟨a, rfl, by simp, hr _⟩ fun m' cm' s2 t2 _ F2 => wpAny_pure ?_)))))
  rw [upd_del] at F2
  exact h _ m' cm' s2 (k1.tr.trans (k2.tr.trans t2)) F2

theorem callWith_machineN {M : Model} {E : Value → Shared → Prop} {s : Shared} {pos : Pos} {f : Value} {first : List Value} {args : List (Bool × Sem Value)} {Q : Value → Shared → Prop} (hk : keeperOf f = pure .machine) (hplain : args.any (·.1) = false)
    (h : wpAny M A (evalArgs f true args []) (fun a s₁ => wpN M A (call f (first ++ a.pos) a.kw) Q E s₁) E s) : wpN M A (callWith pos f first args []) Q E s := by
  unfold callWith
  refine wpN.bindAny (wpAny_holding (wpAny_mono h (fun a s₁ h₁ => wpN.standAt ?_) fun _ _ x => x))
  simp only [hplain, List.any_nil, Bool.or_false]
  rw [hk]
  refine wpN.bindEq rfl ?_
  exact wpN.bind (h₁.mono (fun r s₂ hr => wpN.of (wpAny_bind (wpAny_holding (wpAny_point (wpAny_pure hr))))) fun _ _ x => x)

/-- bytearray(n) -/
theorem EvNewN.bytearray {p pos : Pos} {e : Expr} {n : Nat} (G : Gr c.g mg mb) (hg : A.guards = some []) (hn : n ≤ 1000000) (hk : c.env.kindOf "bytearray" = some .globalImplicit) (hu : unstarred e = true) (he : Ev prog w A c ρ e (.int n)) :
    EvNewN prog w A c ρ (.Call (.Name "bytearray" p) [e] [] pos) (.barr (Array.replicate n 0)) := fun s Q E F hq => by
  rw [eval_Call_plain rfl]
  obtain ⟨g1, g2⟩ := G.bi "bytearray" (by decide)
  refine wpN.bindAny (load_global (v := .type "bytearray") G.gnd F hk (by decide) (.inr ⟨g1, g2.trans (by rfl)⟩) ?_)
  refine callWith_machineN (keeperOf_type "bytearray") (by rw [starEach_cons hu]; rfl) ?_
  rw [starEach_cons hu]
  refine Calls.evalArgs_plain (Calls.spliced_cons (he s _ _ F fun v s1 k1 r1 => Calls.spliced_nil ?_))
  obtain ⟨t, rfl⟩ := r1.p
  exact call_ba hg hn fun h' hb hk => hq s1 _ _ k1 ⟨.of' hk, id⟩ (Nat.le_refl _) ⟨_, hb, .cls rfl⟩ fun X => hb

/-- x[i] = e of an owned bytearray -/
theorem Ex1.setBarr {x : Str} {px p pos : Pos} {i e : Expr} {b : Array UInt8} {k : Nat} {y : Int} (hc : notComp e = true) (hx : ρ x = some (.o (.barr b))) (hn : plainName x = true)
    (he : EvE prog w A g env ρ e (.int y)) (hi : EvE prog w A g env ρ i (.int k)) (hk : k < b.size) (hy : 0 ≤ y ∧ y < 256) (hz : b.size ≤ 1000000) :
    Ex1 prog w A g env ow V ρ (.Assign [.Subscript (.Name x px) i p] e pos) (.next (upd ρ x (.o (.barr (b.setIfInBounds k y.toNat.toUInt8))))) := fun P os m cm s Q E F h => by
  refine wpAny_Assign_Subscript ?_ (swapsWith_plain hc)
  refine he _ rfl rfl s _ _ F fun v1 s1 k1 r1 => ?_
  have F1 := F.keep k1
  obtain ⟨a, X, hb, e2, r, rr, hX⟩ := F1.readO hx
  refine wpAny_Name (load_bd F1 hb (plainName_2 hn) ?_) (plainName_1 hn)
  refine hi _ rfl rfl s1 _ _ F1 fun v2 s2 k2 r2 => ?_
  have F2 := F1.keep k2
  have hba : Barr s2.heap a b := k2.heap a _ (.cls rfl) r
  obtain ⟨u, rfl⟩ := r1.p
  obtain ⟨t, rfl⟩ := r2.p
  refine ba_set hba hk hz hy fun h' hb' hsb => ?_
  exact h os m cm _ ((k1.trans k2).tr.trans ⟨_, _, rfl⟩) (F2.mutate hx e2 hb hsb F2.tk hb' ⟨_, hb', .cls rfl⟩)

theorem bytes_barr_ok {b : Array UInt8} (hz : b.size ≤ 1000000) : Op prog w A (fun vs => call (.type "bytes") vs) [.barr b] (.bytes b) :=
  .of1 fun s X v Q E r hX hq => by
    cases r with
    | barr ha hb => exact ba_bytes hb hz fun t k => hq _ _ .toks (.bytes _ _)

def byteT (b : Array UInt8) : List T := b.toList.map fun c => T.int (c.toNat : Int)
theorem list_bytes_ok {b : Array UInt8} (hh : A.handled = none) (hz : b.size ≤ 1000000) : Op prog w A (fun vs => call (.type "list") vs) [.bytes b] (.list (byteT b)) :=
  .of1 fun s X v Q E r hX hq => by
    obtain ⟨t, rfl⟩ := r.p
    refine call_list_bytes hh b t (Nat.le_trans hz (by decide)) fun h' tk acc' c' hk hl hit => ?_
    have hrs : Rs prog w h' X acc'.toList (byteT b) := by
      refine Rs.of_get ?_ fun i v e => ?_
      · simp [byteT, hit.1]
      · obtain ⟨c, u, e1, rfl⟩ := hit.2 i v (by simpa using e)
        exact ⟨_, by simp [byteT]; exact ⟨c, by simpa using e1, rfl⟩, .int _ _⟩
    exact hq _ _ (.of hk) (.list (fresh_notin hX) ⟨c', by simpa using hl⟩ (by simpa using hrs))

end Mine
set_option maxRecDepth 10000
namespace Mine
open PySem PySem.Calls PySem.W

variable {prog : Program} {w : World} {A : Around} {g : Heap} {env : Env} {ow : List (Str × Addr)} {V : List Addr} {ρ : Str → Option B} {c : Cx} {mg mb : Str → Option Value}

theorem CodeHd.keepN {h h' : Heap} {c P : Addr} (x : CodeHd h c P) (k : ∀ b o, NT b o → h.get? b = some o → h'.get? b = some o) : CodeHd h' c P :=
  x.elim fun o x => x.elim fun vs x => x.elim fun file x => x.elim fun tf x => x.elim fun flags x => x.elim fun tg x => x.elim fun inF x => x.elim fun text x => x.elim fun tt x => ⟨o, vs, file, tf, flags, tg, inF, text, tt, k _ _ (.cls x.2.1) x.1, x.2⟩

theorem codeO_of {h : Heap} {c P : Addr} {ps : Array Value} {q : Str} (x : h.CodeRec (.ref c) q) (t : h.TableAt c P ps) : ∃ oc, h.get? c = some oc ∧ CodeO oc q := by
  obtain ⟨c', o, vs, tk, e1, e2, e3, e4⟩ := x
  cases e1
  obtain ⟨⟨o', vs', f1, f2, f3, f4⟩, _⟩ := t
  rw [e2] at f1; cases f1
  exact ⟨o, e2, f2, vs, tk, e3, e4⟩

theorem tab_ne : ∀ {e e' : Addr × Nat × Nat × Str}, e ∈ tlG → e' ∈ tlG → e.1 = e'.1 → e = e' := by
  intro e e' h h' he
  simp only [tlG, List.mem_cons, List.not_mem_nil, or_false] at h h'
  rcases h with rfl | rfl <;> rcases h' with rfl | rfl <;> first | rfl | (simp at he)

abbrev fnO (name qual : Str) (params : Arguments) (body : List Stmt) (scope : Scope) (clos : List (Str × Addr)) (doc pm cv ctv : Value) : Obj :=
  { cls := .type "function", data := .func (fnX name qual params body scope clos .none .none doc pm none cv ctv) }

theorem make_nest {M : Model} {E : Value → Shared → Prop} {s : Shared} {name qual : Str} {params : Arguments} {body : List Stmt} {scope : Scope} {c P : Addr} {pos : Pos} {firstLine : Nat} {clos : List (Str × Addr)} {Q : Value → Shared → Prop}
    (hcl : closureFor scope env = pure clos) (hcne : clos ≠ []) (hge0 : env.globals = mainGlobals) (hg : s.heap.Ns mainGlobals mg) (hcode : env.code = .ref c) (C : CodeHd s.heap c P) (hmem : (P, pos.line, pos.col, qual) ∈ tlG) (ti : TI s.heap)
    (hb : s.heap.BuiltinsAt mg P)
    (h : ∀ c' ctv doc pm h' tk, (∀ b o, NT b o → s.heap.get? b = some o → h'.get? b = some o) → TI h' → s.heap.objs.size ≤ h'.objs.size → (∃ oc, h'.get? c' = some oc ∧ CodeO oc qual) →
      Q (.ref h'.objs.size) { s with heap := h'.push (fnO name qual params body scope clos doc pm (.ref c') ctv), toks := tk }) :
    wpAny M A (makeFunction name qual params (.stmts body) scope env [] [] [] pos firstLine) Q E s := by
  rcases ti _ hmem with hP | ⟨cv, hP, hcv⟩
  · have hgP : mainGlobals ≠ P := fun q => by
      obtain ⟨o, es, ep, e, hd, _⟩ := hg
      rw [q, hP] at e; cases e; cases hd
    rw [makeFunction_eq]
    simp only [List.zip_nil_right, List.filterMap_nil, List.isEmpty_nil, if_true, pure_bind]
    obtain ⟨bm, ob, hbm, hne0, _, hneP, hbo, hcls, hdict, hdata⟩ := hb
    unfold makeTail
    rw [hcl, hge0]
    refine wpAny_bind (wpAny_pure ?_)
    cases clos with
    | nil => exact absurd rfl hcne
    | cons q r =>
      simp only [List.isEmpty_cons, Bool.false_eq_true, if_false]
      refine wpAny_bind (wpAny_newTextTuple ?_)
      refine wpAny_bind (wpAny_functionCodeX hcode ((C.keeps fun b o e => Heap.get?_push_of_some _ e).code (Heap.get?_push_of_some _ hP) trivial) ((C.keeps fun b o e => Heap.get?_push_of_some _ e).tab (Heap.get?_push_of_some _ hP)) rfl fun c' h' tk hx hge hlt _ hrec htb hnew => ?_)
      have hg' := (hg.push _).extBut hx hgP
      have hx' : Heap.ExtBut P s.heap h' := fun b o hb' e => hx b o hb' (Heap.get?_push_of_some _ e)
      obtain ⟨P', _, _, htab'⟩ := hnew
      have hco := codeO_of hrec htab'
      have hkN : ∀ b o, NT b o → s.heap.get? b = some o → h'.get? b = some o := fun b o n e => hx' b o (fun q => by
        rw [q] at e n; rw [hP] at e; cases e
        exact not_nt_tab' (by
          simp only [tlG, List.mem_cons, Prod.mk.injEq, List.not_mem_nil, or_false] at hmem
          rcases hmem with h | h
          · exact .inl h.1
          · exact .inr h.1) n) e
      have hti : TI h' := fun e he => by
        by_cases hq : e.1 = P
        · have : e = (P, pos.line, pos.col, qual) := tab_ne he hmem hq
          subst this
          refine .inr ⟨c', htb.2, ?_⟩
          obtain ⟨oc, e1, k1, vs, t, d1, v1⟩ := hco
          exact ⟨c', oc, vs, t, rfl, e1, k1, d1, v1⟩
        · rcases ti e he with h1 | ⟨c2, h1, h2⟩
          · exact .inl (hx' _ _ hq h1)
          · exact .inr ⟨c2, hx' _ _ hq h1, h2.keep hkN⟩
      have hsz : s.heap.objs.size ≤ h'.objs.size := Nat.le_trans (Nat.le_trans (by rw [Heap.size_push]; omega) hge) (Nat.le_of_lt hlt)
      refine wpAny_bind (wpAny_builtinsFor hg' hbm hne0 (hx' _ _ hneP hbo) hcls hdict hdata ?_)
      refine wpAny_bind (wpAny_nsGet hg' ?_)
      cases hdoc : docOf body with
      | none => exact wpAny_bind (wpAny_pure (wpAny_newObj_type (h c' _ .none _ h' tk hkN hti hsz hco) (by size_fits)))
      | some t => exact wpAny_bind (wpAny_mkText (wpAny_newObj_type (h c' _ _ _ h' _ hkN hti hsz hco) (by size_fits)))
  · have ht : TriplesOk [rawInt (pos.line : Int), rawInt (pos.col : Int), Value.ref cv] := trivial
    have hf : codeAmong pos [rawInt (pos.line : Int), rawInt (pos.col : Int), Value.ref cv] = some (.ref cv) := by
      simp [codeAmong, rawInt]
    refine makeFunction_hit hcl hge0 hg hcode C hP ht hf hb fun ctv doc h' tk hk hsz => ?_
    refine h cv ctv doc _ h' tk (fun b o _ e => hk b o e) (ti.keep hk) hsz ?_
    obtain ⟨c0, o, vs, t, e0, e1, k1, d1, v1⟩ := hcv
    cases e0
    exact ⟨o, hk _ _ e1, k1, vs, t, d1, v1⟩

end Mine
set_option maxRecDepth 10000
namespace Mine
open PySem PySem.Calls PySem.W

variable {prog : Program} {w : World} {A : Around} {g : Heap} {env : Env} {ow : List (Str × Addr)} {V : List Addr} {ρ : Str → Option B} {c : Cx} {mg mb : Str → Option Value}

/-- a def within a def -/
theorem Ex.cons_nest {name qual : Str} {params : Arguments} {body : List Stmt} {scope : Scope} {pos : Pos} {cc P : Addr} {clos : List (Str × Addr)} {rest : List Stmt} {o : Out} (G : Gr g mg mb)
    (hcl : closureFor scope env = pure clos) (hcne : clos ≠ []) (hd0 : params.defaults = []) (hk0 : params.kw_defaults = []) (ha : annTrees params none env = []) (hq : qualnameIn env name name = qual)
    (hcode : env.code = .ref cc) (C : CodeHd g cc P) (hmem : (P, pos.line, pos.col, qual) ∈ tlG) (hk : canStore ow env name)
    (h : ∀ c' ctv doc pm, Ex prog w A g env ow V (upd ρ name (.v (.obj (fnO name qual params body scope clos doc pm (.ref c') ctv)))) rest o) :
    Ex prog w A g env ow V ρ (.FunctionDef name params body [] none [] scope none name pos :: rest) o := fun Pp os m cm s Q E F hq' => by
  refine wpAny_execs_cons (nestDef_K hd0 hk0 ha ?_)
  rw [hq]
  have hns : s.heap.Ns mainGlobals mg := NsN G.gnd.G (F.ground _)
  obtain ⟨bm, ob, b1, b2, b3, b4, b5, b6⟩ := G.bm
  have hbg := F.ground _ _ (.cls b4) b3
  have hbP : bm ≠ P := fun q => by
    subst q
    rcases F.ti _ hmem with hP | ⟨_, hP, _⟩ <;> (rw [hbg] at hP; cases hP; cases b4)
  have hbM : bm ≠ mainGlobals := fun q => by
    obtain ⟨o, es, ep, e, hd, _⟩ := hns
    rw [← q, hbg] at e; cases e; rw [b6] at hd; cases hd
  refine withTok F.tk (make_nest hcl hcne F.eg hns hcode (CodeHd.keepN C F.ground) hmem F.ti ⟨bm, ob, b1, b2, hbM, hbP, hbg, b4, b5, b6⟩ fun c' ctv doc pm h' tk hkN hti hsz hco htk => ?_)
  have k : Kp s { s with heap := h'.push (fnO name qual params body scope clos doc pm (.ref c') ctv), toks := tk } :=
    ⟨⟨_, _, rfl, fun b o n e => Heap.get?_push_of_some _ (hkN b o n e), fun _ => hti.keep fun b o e => Heap.get?_push_of_some _ e⟩, fun _ => htk⟩
  have F₁ := F.keep k
  obtain ⟨oc, hoc, hcq⟩ := hco
  have hf : h'.objs.size ∉ Cx.X ⟨g, Pp, env, ow, V, os, m, cm⟩ := fun hm => by
    obtain ⟨o, e, _⟩ := F.ex _ hm
    exact Nat.lt_irrefl _ (Nat.lt_of_lt_of_le (Heap.lt_size e) hsz)
  have hc' : c' ∉ Cx.X ⟨g, Pp, env, ow, V, os, m, cm⟩ := fun hm => by
    obtain ⟨o, e, x⟩ := F.ex _ hm
    have e' := hkN _ _ x.1 e
    rw [hoc] at e'; cases e'
    obtain ⟨k1, vs, t, d1, _⟩ := hcq
    rcases x.2 with n | n
    · exact n k1
    · exact n vs d1
  have r : R prog w (h'.push (fnO name qual params body scope clos doc pm (.ref c') ctv)) (Cx.X ⟨g, Pp, env, ow, V, os, m, cm⟩) (.ref h'.objs.size) (.obj (fnO name qual params body scope clos doc pm (.ref c') ctv)) :=
    .obj hf (Heap.get?_push_size _ rfl) rfl hc' rfl (Heap.get?_push_of_some _ hoc) hcq
  exact F₁.store hk r fun m' cm' s2 t2 F2 => h c' ctv doc pm Pp os m' cm' s2 Q E F2 (hq'.mono (k.tr.trans t2))

/-- the names of a frame that come from outside -/
def InC (prog : Program) (w : World) (h : Heap) (X : List Addr) (cl : List (Str × Addr)) (ρc : Str → Option T) : Prop :=
  ∀ n d, ρc n = some d → ∃ a v, cl.lookup n = some a ∧ h.IsCell a (some v) ∧ R prog w h X v d

def cenvI (name qual : Str) (scope : Scope) (clos : List (Str × Addr)) (cv : Value) (L a : Addr) : Env := newEnv scope L mainGlobals clos (qual ++ ".<locals>.") (some a) cv none builtinsNs

theorem lookup_notin : ∀ {l : List (Str × Value)} {y : Str}, y ∉ l.map (·.1) → l.lookup y = none
  | [], _, _ => rfl
  | (k, v) :: r, y, h => by
    simp only [List.map_cons, List.mem_cons, not_or] at h
    rw [List.lookup_cons, beq_eq_false_iff_ne.mpr h.1]
    exact lookup_notin h.2
theorem lookup_appV : ∀ (l l' : List (Str × Value)) (x : Str), (l ++ l').lookup x = match l.lookup x with | some a => some a | none => l'.lookup x
  | [], l', x => rfl
  | (k, v) :: r, l', x => by
    rw [List.cons_append, List.lookup_cons, List.lookup_cons]
    cases x == k
    · exact lookup_appV r l' x
    · rfl
theorem lookup_reverse : ∀ {l : List (Str × Value)} {y : Str}, (l.map (·.1)).Nodup → l.reverse.lookup y = l.lookup y
  | [], _, _ => rfl
  | (k, v) :: r, y, h => by
    simp only [List.map_cons, List.nodup_cons] at h
    rw [List.reverse_cons, lookup_appV, lookup_reverse h.2, List.lookup_cons, List.lookup_cons]
    cases hb : y == k with
    | true =>
      have := beq_iff_eq.mp hb; subst this
      rw [lookup_notin h.1]
    | false =>
      cases r.lookup y <;> rfl

def cellNow (h : Heap) (clos : List (Str × Addr)) : Str → Option Value := fun n => match clos.lookup n with
  | some a => (match h.get? a with
    | some o => (match o.data with
      | .cell v => v
      | _ => none)
    | none => none)
  | none => none
theorem cellNow_eq {h : Heap} {clos : List (Str × Addr)} {n : Str} {a : Addr} {v : Option Value} (e : clos.lookup n = some a) (hc : h.IsCell a v) : cellNow h clos n = v := by
  obtain ⟨o, e1, e2⟩ := hc
  unfold cellNow
  rw [e]; simp only [e1, e2]

def mix (names : List Str) (ds : List T) (ρf : Str → Option B) : Str → Option B := fun y => if y ∈ names then pz names ds y else ρf y

theorem InF.startC {name qual : Str} {scope : Scope} {clos : List (Str × Addr)} {cv : Value} {fa : Addr} {names : List Str} {ds : List T} {ρf : Str → Option B} {s : Shared} {X : List Addr} {os : List (Str × Addr)} {vs : List Value} {h' : Heap}
    (hlen : names.length = ds.length) (hnd : names.Nodup) (hloc : ∀ n ∈ names, scope.names.lookup n = some .local) (hk : scope.kind = .function)
    (hg : ∀ b o, NT b o → g.get? b = some o → s.heap.get? b = some o ∧ b ∉ os.map (·.2)) (hr : Rs prog w s.heap (os.map (·.2) ++ X) vs ds) (hX : (os.map (·.2) ++ X).Nodup) (hXe : ∀ b ∈ os.map (·.2) ++ X, ∃ o, s.heap.get? b = some o ∧ XO o) (htk : 1 ≤ s.toks) (hti : TI s.heap)
    (hcells : ∀ n a, clos.lookup n = some a → (∃ v, s.heap.IsCell a v) ∧ a ∉ os.map (·.2)) (hcd : (clos.map (·.2)).Nodup)
    (hfree : ∀ n b, ρf n = some b → n ∉ names ∧ scope.names.lookup n = some .free ∧ ∃ a v, clos.lookup n = some a ∧ s.heap.IsCell a (some v) ∧ match b with
      | .v d => R prog w s.heap (os.map (·.2) ++ X) v d
      | .o d => ∃ ad, v = .ref ad ∧ os.lookup n = some ad ∧ RO prog w s.heap (os.map (·.2) ++ X) ad d)
    (hns : h'.Ns s.heap.objs.size (fun x => (names.zip vs).reverse.lookup x)) (hsb : Heap.SameBut s.heap.objs.size (s.heap.push { cls := .type "frame", data := .dict #[] }) h') {tk : Nat} (htk' : 1 ≤ tk) :
    InF prog w ⟨g, fun b o => NT b o ∧ s.heap.get? b = some o ∧ b ∉ os.map (·.2), cenvI name qual scope clos cv s.heap.objs.size fa, [], X, os, fun x => (names.zip vs).reverse.lookup x, cellNow s.heap clos⟩ (mix names ds ρf) { s with heap := h', toks := tk } := by
  have keep : ∀ b o, s.heap.get? b = some o → h'.get? b = some o := fun b o e => (hsb.2 b (Nat.ne_of_lt (Heap.lt_size e))).trans (Heap.get?_push_of_some _ e)
  have hkeys : ((names.zip vs).map (·.1)).Nodup := by rw [zip_keys (hlen.trans hr.length.symm)]; exact hnd
  have fresh : s.heap.objs.size ∉ os.map (·.2) ++ X := fun hm => by
    obtain ⟨o, e, _⟩ := hXe _ hm
    exact Nat.lt_irrefl _ (Heap.lt_size e)
  have hup : ∀ b o, b ∉ os.map (·.2) ++ X → NT b o → s.heap.get? b = some o → b ∉ s.heap.objs.size :: (([] : List Addr) ++ os.map (·.2)) ++ X := fun b o hb _ e hm => by
    simp only [List.nil_append, List.cons_append, List.mem_cons] at hm
    rcases hm with h | h
    · have h' : @Eq Nat b s.heap.objs.size := h
      have hlt : @LT.lt Nat _ b s.heap.objs.size := Heap.lt_size e
      omega
    · exact hb h
  refine { tk := htk', ek := hk, eg := rfl, eb := rfl, gP := fun b o n e => ⟨n, hg b o n e⟩, Pn := fun b o h => h.1, Ph := fun b o h => keep b o h.2.1, PW := fun b o h hm => ?_, nd := ?_, ex := fun b hb => ?_, ns := hns, ti := hti.keep keep, cl := fun n a e => ?_, ce := fun n a e => ⟨?_, (hcells n a e).2⟩, cd := hcd, nm := fun y b hy => ?_ }
  · rcases List.mem_cons.mp hm with h1 | h1
    · have h' : @Eq Nat b s.heap.objs.size := h1
      have hlt : @LT.lt Nat _ b s.heap.objs.size := Heap.lt_size h.2.1
      omega
    · exact h.2.2 (by simpa using h1)
  · show (s.heap.objs.size :: (([] : List Addr) ++ os.map (·.2)) ++ X).Nodup
    simp only [List.nil_append, List.cons_append]
    exact List.nodup_cons.mpr ⟨fresh, hX⟩
  · have hb' : b ∈ s.heap.objs.size :: (([] : List Addr) ++ os.map (·.2)) ++ X := hb
    simp only [List.nil_append, List.cons_append, List.mem_cons] at hb'
    rcases hb' with h | h
    · obtain ⟨o, _, _, e, d, _⟩ := hns; exact ⟨o, h ▸ e, .dict d⟩
    · obtain ⟨o, e, x⟩ := hXe b h; exact ⟨o, keep b o e, x⟩
  · obtain ⟨⟨v, hv⟩, _⟩ := hcells n a e
    show h'.IsCell a (cellNow s.heap clos n)
    have e' : clos.lookup n = some a := e
    rw [cellNow_eq e' hv]
    exact hv.keeps keep
  · obtain ⟨⟨v, hv⟩, _⟩ := hcells n a e
    intro e'
    have h' : @Eq Nat a s.heap.objs.size := e'
    have hlt : @LT.lt Nat _ a s.heap.objs.size := hv.lt
    omega
  · unfold mix at hy
    by_cases hn : y ∈ names
    · rw [if_pos hn] at hy
      unfold pz at hy
      obtain ⟨d', e1, e2⟩ := Option.map_eq_some_iff.mp hy
      subst e2
      obtain ⟨v, hv, r⟩ := zip_lookup hr e1
      refine ⟨v, .inl ⟨hloc y hn, (lookup_reverse hkeys).trans hv⟩, R.monoN (fun b o _ _ e => keep b o e) hup r⟩
    · rw [if_neg hn] at hy
      obtain ⟨_, hkf, a, v, e1, hc, hd⟩ := hfree y b hy
      refine ⟨v, .inr ⟨.inr hkf, ⟨a, e1⟩, cellNow_eq e1 hc⟩, ?_⟩
      cases b with
      | v d => exact R.monoN (fun b o _ _ e => keep b o e) hup hd
      | o d =>
        obtain ⟨ad, rfl, e2, ro⟩ := hd
        exact ⟨ad, rfl, e2, RO.monoN (fun b o _ _ e => keep b o e) hup (fun o _ e => keep _ o e) ro⟩

end Mine
set_option maxRecDepth 10000
namespace Mine
open PySem PySem.Calls PySem.W

variable {prog : Program} {w : World} {A : Around} {g : Heap} {env : Env} {ow : List (Str × Addr)} {V : List Addr} {ρ : Str → Option B} {c : Cx} {mg mb : Str → Option Value}

theorem Room.deeper {A : Around} {n : Nat} {env : Env} (r : Room A (n + 1)) : Room (A.deeper env) n := ⟨r.h, by have := r.d; show A.depth + 1 + n < 600; omega, by have := r.u; show A.units + 3 + 20 * n < 9000; omega⟩
theorem Room.limit {A : Around} {n : Nat} (r : Room A n) : A.depth < recursionLimit := by have := r.d; show A.depth < 1000; omega

theorem Loop.inv {step : T → (Str → Option B) → Out → Prop} {Iv : List T → (Str → Option B) → Prop} (hs : ∀ d rest ρ, Iv (d :: rest) ρ → ∃ ρ', step d ρ (.next ρ') ∧ Iv rest ρ') :
    ∀ {ds : List T} {ρ : Str → Option B}, Iv ds ρ → ∃ ρ', Loop step ds ρ (.next ρ') ∧ Iv [] ρ'
  | [], ρ, h => ⟨ρ, .nil, h⟩
  | d :: ds, ρ, h => by
    obtain ⟨ρ', h1, h2⟩ := hs d ds ρ h
    obtain ⟨ρ'', h3, h4⟩ := Loop.inv hs h2
    exact ⟨ρ'', .next h1 h3, h4⟩

def notTup : T → Bool
  | .tuple _ => false
  | _ => true
theorem hn_of {ds : List T} (h : ∀ d ∈ ds, notTup d = true) : ∀ (h : Heap) X v d, d ∈ ds → ItR prog w h h X v d → R prog w h X v d := fun _ _ _ d hd r => by
  rcases r with r | ⟨_, _, _, _, _, _, _, e, _⟩
  · exact r
  · have := h d hd
    rw [e] at this; cases this
theorem intsOf_all : ∀ {ds : List T} {ns : List Int}, intsOf ds = some ns → ds = ns.map T.int
  | [], ns, h => by cases h; rfl
  | d :: ds, ns, h => by
    cases d <;> first | (cases h; done) | skip
    simp only [intsOf, Option.map_eq_some_iff] at h
    obtain ⟨l, e, rfl⟩ := h
    simp [intsOf_all e]

theorem Ex.for_inv {tgt iter : Expr} {body rest : List Stmt} {pos : Pos} {ds : List T} {o : Out} (Iv : List T → (Str → Option B) → Prop) (hh : A.handled = none) (hg : Gives prog w A g env ρ tgt iter ds) (h0 : Iv ds ρ)
    (hstep : ∀ d rest ρ, Iv (d :: rest) ρ → ∃ ρ₁ ρ', bindT tgt d ρ = some ρ₁ ∧ (∀ V, Ex prog w A g env ow V ρ₁ body (.next ρ')) ∧ Iv rest ρ') (hrest : ∀ ρ', Iv [] ρ' → Ex prog w A g env ow V ρ' rest o)
    (hk : tgtOk ow env tgt) (hn : (∃ x p, tgt = .Name x p) → ∀ d ∈ ds, notTup d = true) (hs : ∀ x, foldedSetIterable iter env x = pure x := by intro _; rfl) : Ex prog w A g env ow V ρ (.For tgt iter body [] pos :: rest) o := by
  obtain ⟨ρ', hL, hI⟩ := Loop.inv (step := Step prog w A g env ow tgt body) (Iv := Iv) (fun d rest ρ h => by
    obtain ⟨ρ₁, ρ', h1, h2, h3⟩ := hstep d rest ρ h
    exact ⟨ρ', ⟨ρ₁, h1, h2⟩, h3⟩) h0
  exact Ex.cons_next (Ex1.for hh hk hs hg (fun x p e X h v d hd ir => hn_of (hn ⟨x, p, e⟩) h X v d hd ir) hL) (hrest ρ' hI)
theorem notTup_ints {ns : List Int} : ∀ d ∈ ns.map T.int, notTup d = true := fun d hd => by obtain ⟨i, _, rfl⟩ := List.mem_map.mp hd; rfl

theorem count_calls_ok {n : Nat} {es : List (Int × T)} {ns : List Int} (G : Gr g mg mb) (r : Room A (n + 1)) (hi : intsOf (es.map (·.2)) = some ns) : Fn prog w g mg A (nameAt 2) [.dict es] (.int ns.sum) := by
  refine Fn.of (names := ["callers"]) G (by decide) r.limit (fun pm code doc vs hl => ?_) rfl (by decide) ?_ (by decide) rfl rfl rfl fun pm code doc L a V hc => ?_
  · obtain ⟨_, rfl⟩ := len1 hl; rfl
  · intro n hn; rw [List.mem_singleton.mp hn]; exact .inl rfl
  · conv => arg 9; whnf
    have hds := intsOf_all hi
    refine Ex.cons_next (Ex1.assign (d := .int 0) (swapsWith_plain rfl) (.inl rfl) fun c _ _ => Ev.int) ?_
    refine Ex.for_inv (fun rest ρ => ∃ (l : List Int) (x : Int), rest = l.map T.int ∧ ρ "nc" = some (.v (.int x)) ∧ x + l.sum = ns.sum) r.h (Gives.values r.h rfl rfl fun c _ _ => Ev.name rfl rfl) ⟨ns, 0, hds, rfl, by simp⟩ ?_ ?_ (.inl rfl) (fun _ => hds ▸ notTup_ints)
    · rintro d rest ρ ⟨l, x, h1, h2, h3⟩
      cases l with
      | nil => cases h1
      | cons y l =>
        simp only [List.map_cons, List.cons.injEq] at h1
        obtain ⟨rfl, rfl⟩ := h1
        refine ⟨_, _, rfl, fun V => Ex.cons_next (Ex1.aug (a := .int x) (b := .int y) h2 rfl (.inl rfl) (fun c _ _ => Ev.name rfl rfl) rfl) Ex.nil, l, x + y, rfl, rfl, ?_⟩
        simp at h3; omega
    · rintro ρ' ⟨l, x, h1, h2, h3⟩
      have hl0 : l = [] := by cases l with | nil => rfl | cons => cases h1
      subst hl0
      have : ns.sum = x := by simpa using h3.symm
      rw [this]
      exact Ex.cons_ret (Ex1.ret fun c _ _ => Ev.name (by unfold dis; rw [h2]) rfl)

end Mine
set_option maxRecDepth 10000
namespace Mine
open PySem PySem.Calls PySem.W

variable {prog : Program} {w : World} {A : Around} {g : Heap} {env : Env} {ow : List (Str × Addr)} {V : List Addr} {ρ : Str → Option B} {c : Cx} {mg mb : Str → Option Value}

/-- dicts of ints -/
def iat (es : List (Int × Int)) (k : Int) : Option Int := (es.find? fun e => decide (e.1 = k)).map (·.2)
def iput (es : List (Int × Int)) (k : Int) (v : Int) : List (Int × Int) :=
  if es.any (fun e => decide (e.1 = k)) then es.map (fun e => if e.1 = k then (e.1, v) else e) else es ++ [(k, v)]
def dInt (es : List (Int × Int)) : List (Int × T) := es.map fun p => (p.1, .int p.2)
theorem dInt_put (es : List (Int × Int)) (k v : Int) : vput (dInt es) k (.int v) = dInt (iput es k v) := by
  unfold vput iput dInt
  have : (es.map fun p => (p.1, T.int p.2)).any (fun e => decide (e.1 = k)) = es.any (fun e => decide (e.1 = k)) := by simp [List.any_map, Function.comp_def]
  rw [this]
  split
  · simp only [List.map_map]
    refine List.map_congr_left fun p _ => ?_
    by_cases h : p.1 = k <;> simp [h]
  · simp
theorem dInt_at : ∀ (es : List (Int × Int)) (k : Int), vat (dInt es) k = (iat es k).map T.int
  | [], k => rfl
  | p :: es, k => by
    have ih := dInt_at es k
    unfold vat iat dInt at *
    simp only [List.map_cons, List.find?_cons]
    by_cases h : p.1 = k
    · simp [h]
    · simp only [h, decide_false]
      exact ih
theorem iput_length (es : List (Int × Int)) (k v : Int) : (iput es k v).length ≤ es.length + 1 := by
  unfold iput
  split <;> simp
def addC (t s : List (Int × Int)) : List (Int × Int) :=
  s.foldl (fun acc p => match iat acc p.1 with
    | some o => iput acc p.1 (o + p.2)
    | none => iput acc p.1 p.2) (t.foldl (fun acc p => iput acc p.1 p.2) [])


def itemsT (es : List (Int × Int)) : List T := es.map fun p => .tuple [.int p.1, .int p.2]
theorem itemsT_eq (es : List (Int × Int)) : ((dInt es).map fun p => T.tuple [.int p.1, p.2]) = itemsT es := by simp [dInt, itemsT]

theorem add_callers_ok {n : Nat} {t s : List (Int × Int)} (G : Gr g mg mb) (r : Room A (n + 1)) (hz : t.length + s.length ≤ 100000) : Fn prog w g mg A (nameAt 1) [.dict (dInt t), .dict (dInt s)] (.dict (dInt (addC t s))) := by
  refine Fn.of (names := ["target", "source"]) G (by decide) r.limit (fun pm code doc vs hl => ?_) rfl (by decide) ?_ (by decide) rfl rfl rfl fun pm code doc L a V hc => ?_
  · obtain ⟨_, _, rfl⟩ := len2 hl; rfl
  · intro n hn; simp only [List.mem_cons, List.not_mem_nil, or_false] at hn; rcases hn with rfl | rfl <;> exact .inl rfl
  · conv => arg 9; whnf
    refine Ex.cons_next (Ex1.assignNew (d := .dict []) rfl (.inl rfl) fun c _ h => EvNew.dict (by rw [h]; exact G.mn)) ?_
    refine Ex.for_inv (ds := itemsT t) (fun rest ρ => ∃ (l acc : List (Int × Int)), rest = itemsT l ∧ ρ "new_callers" = some (.o (.dict (dInt acc))) ∧ ρ "source" = some (.v (.dict (dInt s))) ∧ l.foldl (fun acc p => iput acc p.1 p.2) acc = t.foldl (fun acc p => iput acc p.1 p.2) [] ∧ acc.length + l.length ≤ t.length)
      r.h (itemsT_eq t ▸ Gives.items r.h rfl rfl fun c _ _ => Ev.name rfl rfl) ⟨t, [], rfl, rfl, rfl, rfl, by simp⟩ ?_ ?_ ?_ (fun ⟨x, p, e⟩ => by cases e)
    · rintro d rest ρ ⟨l, acc, h1, h2, h3, h4, h5⟩
      cases l with
      | nil => cases h1
      | cons p l =>
        simp only [itemsT, List.map_cons, List.cons.injEq] at h1
        obtain ⟨rfl, rfl⟩ := h1
        refine ⟨_, _, rfl, fun V => Ex.cons_next (Ex1.setDict (k := p.1) (d := .int p.2) rfl h2 rfl (fun c _ _ => Ev.name rfl rfl) (fun c _ _ => Ev.name rfl rfl) ?_) Ex.nil, l, iput acc p.1 p.2, rfl, ?_, h3, h4, ?_⟩
        · simp only [dInt, List.length_map]
          simp at h5; omega
        · rw [dInt_put]; rfl
        · have := iput_length acc p.1 p.2
          simp at h5; omega
    · rintro ρ₁ ⟨l, acc, h1, h2, h3, h4, h5⟩
      have hl0 : l = [] := by cases l with | nil => rfl | cons => cases h1
      subst hl0
      have h4' : acc = t.foldl (fun acc p => iput acc p.1 p.2) [] := h4
      refine Ex.for_inv (ds := itemsT s) (fun rest ρ => ∃ (l acc : List (Int × Int)), rest = itemsT l ∧ ρ "new_callers" = some (.o (.dict (dInt acc))) ∧ l.foldl (fun acc p => match iat acc p.1 with
          | some o => iput acc p.1 (o + p.2)
          | none => iput acc p.1 p.2) acc = addC t s ∧ acc.length + l.length ≤ t.length + s.length)
        r.h (itemsT_eq s ▸ Gives.items r.h rfl rfl fun c _ _ => Ev.name h3 rfl) ⟨s, acc, rfl, h2, by rw [h4']; rfl, by simp at h5; omega⟩ ?_ ?_ ?_ (fun ⟨x, p, e⟩ => by cases e)
      · rintro d rest ρ ⟨l, acc, h1, h2, h4, h5⟩
        cases l with
        | nil => cases h1
        | cons p l =>
          simp only [itemsT, List.map_cons, List.cons.injEq] at h1
          obtain ⟨rfl, rfl⟩ := h1
          have hat := dInt_at acc p.1
          simp only [List.foldl_cons] at h4
          cases ha : iat acc p.1 with
          | none =>
            rw [ha] at hat h4
            refine ⟨_, _, rfl, fun V => Ex.cons_next (Ex1.ite (b := false) (fun c _ _ => ?_) (fun h => by cases h) fun _ =>
              Ex.cons_next (Ex1.setDict (k := p.1) (d := .int p.2) rfl h2 rfl (fun c _ _ => Ev.name rfl rfl) (fun c _ _ => Ev.name rfl rfl) ?_) Ex.nil) Ex.nil, l, iput acc p.1 p.2, rfl, ?_, h4, ?_⟩
            · have e : (vat (dInt acc) p.1).isSome = false := by rw [hat]; rfl
              rw [← e]
              exact EvT.inO h2 rfl (Ev.name rfl rfl)
            · simp only [dInt, List.length_map]
              simp at h5; omega
            · rw [dInt_put]; rfl
            · have := iput_length acc p.1 p.2
              simp at h5; omega
          | some o =>
            rw [ha] at hat h4
            refine ⟨_, _, rfl, fun V => Ex.cons_next (Ex1.ite (b := true) (fun c _ _ => ?_) (fun _ =>
              Ex.cons_next (Ex1.ite (b := false) (fun c hc hg => EvT.value (fun _ => rfl) (Ev.isinst (t := "tuple") (x := p.2) (G := hg ▸ G) (by rw [hc]; rfl) (by rw [hc]; rfl) rfl (.inr ⟨rfl, rfl⟩) (Ev.name rfl rfl)) (truthT_ok rfl (fun _ e => by cases e))) (fun h => by cases h) fun _ =>
                Ex.cons_next (Ex1.augDict (k := p.1) (old := .int o) (d := .int p.2) (new := .int (o + p.2)) h2 rfl (fun c _ _ => Ev.name rfl rfl) (fun c _ _ => Ev.name rfl rfl) hat rfl rfl ?_ (fun _ _ _ => rfl)) Ex.nil) Ex.nil) (fun h => by cases h)) Ex.nil, l, iput acc p.1 (o + p.2), rfl, ?_, h4, ?_⟩
            · have e : (vat (dInt acc) p.1).isSome = true := by rw [hat]; rfl
              rw [← e]
              exact EvT.inO h2 rfl (Ev.name rfl rfl)
            · simp only [dInt, List.length_map]
              simp at h5; omega
            · rw [dInt_put]; rfl
            · have := iput_length acc p.1 (o + p.2)
              simp at h5; omega
      · rintro ρ' ⟨l, acc, h1, h2, h4, h5⟩
        have hl0 : l = [] := by cases l with | nil => rfl | cons => cases h1
        subst hl0
        have h4' : acc = addC t s := h4
        rw [← h4']
        exact Ex.cons_ret (Ex1.ret fun c _ _ => Ev.name (by unfold dis; rw [h2]) rfl)
      · intro xs e x hx
        cases e
        simp only [List.mem_cons, List.not_mem_nil, or_false] at hx
        rcases hx with rfl | rfl <;> exact .inl rfl
    · intro xs e x hx
      cases e
      simp only [List.mem_cons, List.not_mem_nil, or_false] at hx
      rcases hx with rfl | rfl <;> exact .inl rfl

end Mine
set_option maxRecDepth 10000
namespace Mine
open PySem PySem.Calls PySem.W

variable {prog : Program} {w : World} {A : Around} {g : Heap} {env : Env} {ow : List (Str × Addr)} {V : List Addr} {ρ : Str → Option B} {c : Cx} {mg mb : Str → Option Value}

/-- the built-ins by name -/
theorem Ev.callG {f : Str} {p pos : Pos} {fv : Value} {args : List Expr} {ds : List T} {d : T} (G : Gr c.g mg mb) (hm : f ∈ biNames) (hk : c.env.kindOf f = some .globalImplicit) (hn : plainName f = true) (hb : bootBuiltins f = some fv) (hkp : keeperOf fv = pure .machine)
    (hu : args.all unstarred = true) (hL : EvL prog w A c ρ pos args ds) (ho : Op prog w A (fun vs => call fv vs) ds d) : Ev prog w A c ρ (.Call (.Name f p) args [] pos) d :=
  Ev.callB G.gnd hk hn (G.bi f hm).1 ((G.bi f hm).2.trans hb) hkp hu hL ho
theorem Ev.gconst {p : Pos} (G : Gr c.g mg mb) (hk : c.env.kindOf "_DIV_LIMIT" = some .globalImplicit) : Ev prog w A c ρ (.Name "_DIV_LIMIT" p) (.int 4000) := fun s Q E F hq => by
  obtain ⟨t, e⟩ := G.dl
  exact load_global G.gnd F hk (by decide) (.inl e) (hq _ s (.refl s) (.int _ _))
theorem Ev.bitlen {o : Expr} {apos pos : Pos} {x : Int} (hnc : notCall o = true) (hline : (apos.endLine == pos.line) = true) (ho : Ev prog w A c ρ o (.int x)) : Ev prog w A c ρ (.Call (.Attribute o "bit_length" apos) [] [] pos) (.int (bits x)) :=
  Ev.meth hnc hline rfl (by decide) PySem.F.plainAttrs_int PySem.F.slot_int_bit_length PySem.F.type_int_bit_length rfl ho .nil bit_length_ok

theorem div2n1n_ok {m : Nat} {a b n : Int} (G : Gr g mg mb) (r : Room A (m + 5)) (h : (bits a : Int) - n ≤ 4000) (hb : b ≠ 0 ∧ bits b ≤ 5000) : Fn prog w g mg A (nameAt 5) [.int a, .int b, .int n] (.tuple [.int (a.fdiv b), .int (a.fmod b)]) := by
  refine Fn.of (names := ["a", "b", "n"]) G (by decide) r.limit (fun pm code doc vs hl => ?_) rfl (by decide) ?_ (by decide) rfl rfl rfl fun pm code doc L fa V hc => ?_
  · obtain ⟨_, _, _, rfl⟩ := len3 hl; rfl
  · intro n hn; simp only [List.mem_cons, List.not_mem_nil, or_false] at hn; rcases hn with rfl | rfl | rfl <;> exact .inl rfl
  · conv => arg 9; whnf
    refine Ex.cons_ret (Ex1.ite (b := true) (fun c hc hg => ?_) (fun _ => Ex.cons_ret (Ex1.ret fun c hc hg => ?_)) fun h => by cases h)
    · refine EvT.cmp rfl (a := .int ((bits a : Int) - n)) (b := .int 4000) (Ev.bin (Ev.bitlen rfl rfl (Ev.name rfl rfl)) (Ev.name rfl rfl) (binop_ok rfl)) (Ev.gconst (hg ▸ G) (by rw [hc]; rfl)) (intCmp_ok ?_)
      simp [intCmp, h]
    · exact Ev.callG (hg ▸ G) (by decide) (by rw [hc]; rfl) rfl rfl rfl rfl (EvL.cons rfl (Ev.name rfl rfl) (.cons rfl (Ev.name rfl rfl) .nil)) (divmod_ok hb)
end Mine
set_option maxRecDepth 10000
namespace Mine
open PySem PySem.Calls PySem.W

variable {prog : Program} {w : World} {A : Around} {g : Heap} {env : Env} {ow : List (Str × Addr)} {V : List Addr} {ρ : Str → Option B} {c : Cx} {mg mb : Str → Option Value}

/-- what a def within a def does that writes nothing -/
def CallC (prog : Program) (w : World) (g : Heap) (A : Around) (O : Obj) (clos : List (Str × Addr)) (ρc : Str → Option T) (args : List T) (d : T) : Prop :=
  ∀ (s : Shared) (X : List Addr) (vs : List Value) (a : Addr) (Q : Value → Shared → Prop) (E : Value → Shared → Prop), (∀ b o, NT b o → g.get? b = some o → s.heap.get? b = some o) → R prog w s.heap X (.ref a) (.obj O) → InC prog w s.heap X clos ρc →
    (∀ n a, clos.lookup n = some a → ∃ v, s.heap.IsCell a v) → Rs prog w s.heap X vs args → X.Nodup → (∀ b ∈ X, ∃ o, s.heap.get? b = some o ∧ XO o) → 1 ≤ s.toks → TI s.heap → (∀ v s', Kp0 s s' → R prog w s'.heap X v d → Q v s') → wpAny (model prog w) A (call (.ref a) vs) Q E s

theorem CallC.of {name qual : Str} {params : Arguments} {body : List Stmt} {scope : Scope} {clos : List (Str × Addr)} {doc pm cv ctv : Value} {names : List Str} {ds : List T} {d : T} {ρc : Str → Option T} (hnl : g.NoLimit) (hroom : A.depth < recursionLimit)
    (hbind : ∀ (vs : List Value), vs.length = ds.length → bindArgs (fnX name qual params body scope clos .none .none doc pm none cv ctv) ⟨vs, []⟩ = pure (names.zip vs)) (hlen : names.length = ds.length) (hnd : names.Nodup)
    (hloc : ∀ n ∈ names, scope.names.lookup n = some .local) (hnc : ∀ y ∈ scope.names, y.2 ≠ .cell) (hk : scope.kind = .function) (hco : scope.isCoroutine = false) (hgen : scope.isGenerator = false) (hcd : (clos.map (·.2)).Nodup)
    (hfree : ∀ n d, ρc n = some d → n ∉ names ∧ scope.names.lookup n = some .free)
    (hbody : ∀ L fa V, Ex prog w (A.deeper (cenvI name qual scope clos cv L fa)) g (cenvI name qual scope clos cv L fa) [] V (mix names ds fun n => (ρc n).map .v) body (.ret d)) :
    CallC prog w g A (fnO name qual params body scope clos doc pm cv ctv) clos ρc ds d := fun s X vs a Q E hg ra hin hcells hr hX hXe htk hti hQ => by
  cases ra with
  | obj ha ho hod hc hcd' hoc hq =>
  rename_i c oc fd
  have hfd : fd = fnX name qual params body scope clos .none .none doc pm none cv ctv := by
    have : (fnO name qual params body scope clos doc pm cv ctv).data = .func (fnX name qual params body scope clos .none .none doc pm none cv ctv) := rfl
    rw [this] at hod; cases hod; rfl
  subst hfd
  have hrec : s.heap.CodeRec cv qual := by
    obtain ⟨k1, vs', t, d1, v1⟩ := hq
    exact ⟨c, oc, vs', t, hcd', hoc, d1, v1⟩
  refine wpAny_call (codeAny_call_function hroom ho hod hco hgen rfl hrec ?_)
  rw [hbind vs hr.length]
  refine wpAny_pure ?_
  refine wpAny_newFunctionEnv hnc ?_ (fun h' hns hsb => ?_) hk
  · rintro ⟨n, v⟩ hm
    exact hloc n (List.of_mem_zip hm).1
  have keep : ∀ b o, s.heap.get? b = some o → h'.get? b = some o := fun b o e => (hsb.2 b (Nat.ne_of_lt (Heap.lt_size e))).trans (Heap.get?_push_of_some _ e)
  refine ⟨(LimN hnl hg).keeps keep, codeAny_func ?_⟩
  have F := InF.startC (prog := prog) (w := w) (g := g) (name := name) (qual := qual) (scope := scope) (clos := clos) (cv := cv) (fa := a) (names := names) (ds := ds) (ρf := fun n => (ρc n).map .v) (s := s) (X := X) (os := []) (vs := vs) (h' := h') hlen hnd hloc hk
    (fun b o n e => ⟨hg b o n e, List.not_mem_nil⟩) hr hX hXe htk hti (fun n a e => ⟨hcells n a e, List.not_mem_nil⟩) hcd (fun n b hb => by
      obtain ⟨d, e1, rfl⟩ := Option.map_eq_some_iff.mp hb
      obtain ⟨a, v, e2, hc, r⟩ := hin n d e1
      exact ⟨(hfree n d e1).1, (hfree n d e1).2, a, v, e2, hc, r⟩) hns hsb (tk := s.toks + (names.zip vs).length) (by omega)
  refine hbody s.heap.objs.size a X _ _ _ _ _ _ _ F fun v s'' t hp hv ti r => ?_
  refine hQ v s'' ?_ r
  obtain ⟨h2, t2, rfl⟩ := t
  exact ⟨h2, t2, rfl, fun b o n e => hp b o ⟨n, e, List.not_mem_nil⟩, fun _ => ti⟩

theorem Ev.callO {f : Str} {p pos : Pos} {args : List Expr} {O : Obj} {clos : List (Str × Addr)} {ρc : Str → Option T} {ds : List T} {d : T} (hf : ρ f = some (.v (.obj O))) (hn : plainName f = true) (hu : args.all unstarred = true)
    (hρ : ∀ n d, ρc n = some d → ρ n = some (.v d) ∧ ¬ c.env.kindOf n = some .local ∧ ∀ a, c.env.cells.lookup n = some a → clos.lookup n = some a) (hcl : ∀ n a, clos.lookup n = some a → c.env.cells.lookup n = some a)
    (hL : EvL prog w A c ρ pos args ds) (ho : CallC prog w c.g A O clos ρc ds d) : Ev prog w A c ρ (.Call (.Name f p) args [] pos) d := fun s Q E F hq => by
  rw [eval_Call_plain rfl]
  refine wpAny_bind ?_
  obtain ⟨v, hb, r⟩ := F.nm f _ hf
  refine wpAny_Name (load_bd F hb (plainName_2 hn) ?_) (plainName_1 hn)
  cases r with
  | obj ha hob hod hc hcd hoc hqq =>
  rename_i a c' oc fd
  refine Calls.callWith_function (o := O) (fd := fd) (evalArgs_L hu hL F fun vs s1 k1 r1 => ⟨⟨k1.heap _ _ (.func hod) hob, hod⟩, ?_⟩)
  have F1 := F.keep k1
  refine withTok F1.tk (ho s1 c.X vs a _ E F1.ground (R.keep k1.heap (.obj ha hob hod hc hcd hoc hqq)) (fun n d e => ?_) (fun n a e => ⟨_, F1.cl n a (hcl n a e)⟩) r1 F1.nd F1.ex F1.tk F1.ti fun v s2 k2 r2 t2 => hq v s2 (k1.trans (k2.up t2)) r2)
  obtain ⟨e1, e2, e3⟩ := hρ n d e
  obtain ⟨v, hb, r⟩ := F1.nm n _ e1
  rcases hb with ⟨h1, _⟩ | ⟨_, ⟨a, h2⟩, h3⟩
  · exact absurd h1 e2
  · have hcell := F1.cl n a h2
    rw [h3] at hcell
    exact ⟨a, v, e3 a h2, hcell, r⟩

end Mine
set_option maxRecDepth 10000
namespace Mine
open PySem PySem.Calls PySem.W

variable {prog : Program} {w : World} {A : Around} {g : Heap} {env : Env} {ow : List (Str × Addr)} {V : List Addr} {ρ : Str → Option B} {c : Cx} {mg mb : Str → Option Value}

def nestAt (i k : Nat) : Arguments × List Stmt × Scope := match (bodyAt i)[k]? with
  | some (.FunctionDef _ p b _ _ _ sc _ _ _) => (p, b, sc)
  | _ => (⟨[], [], none, [], [], none, []⟩, [], scopeAt i)

/-- the number that digits make -/
def dval (n : Nat) : List Int → Int
  | [] => 0
  | x :: l => x + 2 ^ n * dval n l
theorem dval_append (n : Nat) : ∀ (l l' : List Int), dval n (l ++ l') = dval n l + 2 ^ (n * l.length) * dval n l'
  | [], l' => by simp [dval]
  | x :: l, l' => by
    rw [List.cons_append, dval, dval, dval_append n l l', List.length_cons, Nat.mul_add, Nat.mul_one, Int.pow_add]
    grind
theorem dval_nonneg {n : Nat} : ∀ {l : List Int}, (∀ x ∈ l, 0 ≤ x ∧ x < 2 ^ n) → 0 ≤ dval n l ∧ dval n l < 2 ^ (n * l.length)
  | [], _ => by simp [dval]
  | x :: l, h => by
    obtain ⟨h1, h2⟩ := h x (.head _)
    obtain ⟨h3, h4⟩ := dval_nonneg (n := n) (l := l) fun y hy => h y (.tail _ hy)
    have hp : (0 : Int) < 2 ^ n := Int.pow_pos (by decide)
    rw [dval, List.length_cons, Nat.mul_add, Nat.mul_one, Int.pow_add]
    have h5 : dval n l + 1 ≤ 2 ^ (n * l.length) := h4
    have h6 := Int.mul_le_mul_of_nonneg_left h5 (Int.le_of_lt hp)
    have h7 := Int.mul_nonneg (Int.le_of_lt hp) h3
    refine ⟨by omega, ?_⟩
    rw [Int.mul_comm (2 ^ (n * l.length))]
    rw [Int.mul_add, Int.mul_one] at h6
    omega
def dpart (ds : List Int) (l r : Nat) : List Int := (ds.drop l).take (r - l)
theorem dpart_split {ds : List Int} {l m r : Nat} (h : l ≤ m) (h' : m ≤ r) : dpart ds l r = dpart ds l m ++ dpart ds m r := by
  unfold dpart
  have e : r - l = (m - l) + (r - m) := by rw [Nat.add_comm]; exact (Nat.sub_add_sub_cancel h' h).symm
  rw [e, List.take_add, List.drop_drop]
  congr 3; omega
theorem dpart_len {ds : List Int} {l r : Nat} (h : l ≤ r) (h' : r ≤ ds.length) : (dpart ds l r).length = r - l := by
  unfold dpart
  rw [List.length_take, List.length_drop]
  exact Nat.min_eq_left (Nat.sub_le_sub_right h' l)
theorem dpart_mem {ds : List Int} {l r : Nat} {x : Int} (h : x ∈ dpart ds l r) : x ∈ ds := List.mem_of_mem_drop (List.mem_of_mem_take h)
theorem bits_of_dval {n : Nat} {l : List Int} {k : Nat} (h : ∀ x ∈ l, 0 ≤ x ∧ x < 2 ^ n) (hk : n * l.length ≤ k) : bits (dval n l) ≤ k := by
  obtain ⟨h1, h2⟩ := dval_nonneg h
  refine Nat.le_trans (bits_le (k := n * l.length) ?_) hk
  have : ((dval n l).natAbs : Int) < ((2 ^ (n * l.length) : Nat) : Int) := by
    rw [Int.natAbs_of_nonneg h1]; push_cast; exact h2
  exact_mod_cast this

theorem item_listN {xs : List T} {l : Nat} (h : l < 1000000) : item (.list xs) (.int l) = xs[l]? := by
  show (if 0 ≤ (l : Int) ∧ (l : Int) < 1000000 then xs[(l : Int).toNat]? else none) = _
  rw [if_pos (by omega)]; rfl
theorem shr1N {l r : Nat} : binop .RShift (.int ((l : Int) + r)) (.int 1) = some (.int (((l + r) / 2 : Nat) : Int)) := by
  show (if (0 : Int) ≤ 1 then some (T.int (((l : Int) + r).fdiv (2 ^ (1 : Int).toNat))) else none) = _
  rw [if_pos (by decide)]
  have : ((l : Int) + r).fdiv (2 ^ (1 : Int).toNat) = (((l + r) / 2 : Nat) : Int) := by
    rw [Int.fdiv_eq_ediv_of_nonneg _ (by decide)]; push_cast; rfl
  rw [this]
theorem bitsN_le {n k : Nat} (h : n < 2 ^ k) : bits (n : Int) ≤ k := bits_le (by simpa using h)
theorem mulN {x y : Int} (h : bits x ≤ 100000 ∧ bits y ≤ 100000) : binop .Mult (.int x) (.int y) = some (.int (x * y)) := by
  show (if _ then _ else _) = _
  rw [if_pos h]
theorem shlN {x : Int} {n : Nat} (h : n ≤ 100000 ∧ bits x ≤ 100000) : binop .LShift (.int x) (.int n) = some (.int (x * 2 ^ n)) := by
  show (if _ then _ else _) = _
  rw [if_pos (by omega)]; rfl

def look3 (k1 k2 k3 : Str) (d1 d2 d3 : T) : Str → Option T := fun n => [(k1, d1), (k2, d2), (k3, d3)].lookup n
theorem look3_mem {k1 k2 k3 : Str} {d1 d2 d3 : T} {n : Str} {d : T} (h : look3 k1 k2 k3 d1 d2 d3 n = some d) : (n = k1 ∧ d = d1) ∨ (n = k2 ∧ d = d2) ∨ (n = k3 ∧ d = d3) := by
  have := mem_of_lookup h
  simp only [List.mem_cons, List.not_mem_nil, or_false, Prod.mk.injEq] at this
  exact this

abbrev d2iO (clos : List (Str × Addr)) (doc pm cv ctv : Value) : Obj := fnO "inner" "_digits2int.<locals>.inner" (nestAt 8 0).1 (nestAt 8 0).2.1 (nestAt 8 0).2.2 clos doc pm cv ctv
def d2iRho (n : Nat) (ds : List Int) (O : Obj) : Str → Option T := look3 "digits" "n" "inner" (.list (ds.map .int)) (.int n) (.obj O)

theorem predInd {P : Nat → Prop} (h : ∀ k, (∀ k', k' + 1 = k → P k') → P k) : ∀ k, P k
  | 0 => h 0 fun _ e => nomatch e
  | k + 1 => h (k + 1) fun k' e => Nat.succ.inj e ▸ predInd h k
theorem half_l {l r : Nat} (h : l < r) (h1 : ¬ l + 1 = r) : l < (l + r) / 2 := by omega
theorem half_r {l r : Nat} (h : l < r) : (l + r) / 2 < r := by omega
theorem half_n {l r k : Nat} (h : r - l ≤ 2 ^ (k + 1)) : (l + r) / 2 - l ≤ 2 ^ k := by rw [Nat.pow_succ] at h; omega
theorem half_n' {l r k : Nat} (h : r - l ≤ 2 ^ (k + 1)) : r - (l + r) / 2 ≤ 2 ^ k := by rw [Nat.pow_succ] at h; omega
theorem half_0 {l r : Nat} (h : l < r) (h1 : ¬ l + 1 = r) (hk : r - l ≤ 2 ^ 0) : False := by rw [Nat.pow_zero] at hk; omega
theorem sub_split {l m r : Nat} (h1 : l < m) (h2 : m < r) : r - l = (m - l) + (r - m) := by rw [Nat.add_comm]; exact (Nat.sub_add_sub_cancel (Nat.le_of_lt h2) (Nat.le_of_lt h1)).symm
theorem le_sub {r l D : Nat} (h : r ≤ D) : r - l ≤ D := Nat.le_trans (Nat.sub_le ..) h
theorem castsub {m l : Nat} (h : l ≤ m) : ((m : Int) - l) = ((m - l : Nat) : Int) := (Int.ofNat_sub h).symm
theorem one_sub {l r : Nat} (h : l + 1 = r) : r - l = 1 := by omega
theorem neCmp {l r : Nat} (h : ¬ l + 1 = r) : intCmp .Eq ((l : Int) + 1) r = some false := by simp [intCmp]; omega
theorem eqCmp {l r : Nat} (h : l + 1 = r) : intCmp .Eq ((l : Int) + 1) r = some true := by simp [intCmp]; omega
theorem ne_add (L : Nat) : ∀ i j : Nat, i ≠ j → @HAdd.hAdd Nat Nat Nat _ L i ≠ @HAdd.hAdd Nat Nat Nat _ L j := fun _ _ h e => h (Nat.add_left_cancel e)
theorem lt17 {x D : Nat} (h : x ≤ D) (hD : D ≤ 100000) : x < 2 ^ 17 := Nat.lt_of_le_of_lt (Nat.le_trans h hD) (by decide)
theorem le_mul_sub {n l r : Nat} (h : l < r) : n ≤ n * (r - l) := Nat.le_mul_of_pos_right n (Nat.sub_pos_of_lt h)

theorem d2i_inner {n : Nat} {ds : List Int} {L : Addr} {doc pm cv ctv : Value} (hnl : g.NoLimit) (hd : ∀ x ∈ ds, 0 ≤ x ∧ x < 2 ^ n) (hz : n * ds.length ≤ 20000) (hz' : ds.length ≤ 100000) (clos : List (Str × Addr)) (hclos : clos = [(("n" : Str), L + 2), (("inner" : Str), L + 3), (("digits" : Str), L + 1)]) :
    ∀ (k : Nat) (A : Around) (m l r : Nat), Room A (m + k + 1) → l < r → r ≤ ds.length → r - l ≤ 2 ^ k →
      CallC prog w g A (d2iO clos doc pm cv ctv) clos (d2iRho n ds (d2iO clos doc pm cv ctv)) [.int l, .int r] (.int (dval n (dpart ds l r))) :=
  predInd fun k IH => by
    intro A m l r hr hlr hrl hk
    refine CallC.of (names := ["L", "R"]) hnl hr.limit (fun vs hl => ?_) rfl (by decide) ?_ ?_ rfl rfl rfl ?_ ?_ fun La fa V => ?_
    · obtain ⟨_, _, rfl⟩ := len2 hl; rfl
    · intro n hn; simp only [List.mem_cons, List.not_mem_nil, or_false] at hn; rcases hn with rfl | rfl <;> rfl
    · decide
    · subst hclos; simp only [List.map_cons, List.map_nil, List.nodup_cons, List.mem_cons, List.not_mem_nil, or_false, not_false_eq_true, List.nodup_nil, and_true]
      have e := ne_add L
      exact ⟨fun h => h.elim (e 2 3 (by decide)) (e 2 1 (by decide)), e 3 1 (by decide)⟩
    · intro y d hy
      rcases look3_mem hy with ⟨rfl, _⟩ | ⟨rfl, _⟩ | ⟨rfl, _⟩ <;> exact ⟨by decide, rfl⟩
    · conv => arg 9; whnf
      by_cases h1 : l + 1 = r
      · refine Ex.cons_ret (Ex1.ite (b := true) (fun c hc hg => EvT.cmp rfl (a := .int ((l : Int) + 1)) (b := .int r) (Ev.bin (Ev.name rfl rfl) Ev.int (binop_ok rfl)) (Ev.name rfl rfl) (intCmp_ok (eqCmp h1))) (fun _ => Ex.cons_ret (Ex1.ret fun c hc hg => ?_)) fun h => by cases h)
        refine Ev.sub (a := .list (ds.map .int)) rfl (Ev.name rfl rfl) (Ev.name rfl rfl) (item_ok ?_)
        have hl : l < ds.length := Nat.lt_of_lt_of_le hlr hrl
        rw [item_listN (by omega)]
        have e : r - l = 1 := one_sub h1
        have e2 : dpart ds l r = [ds[l]] := by
          unfold dpart; rw [e, List.drop_eq_getElem_cons hl]; rfl
        rw [e2]
        simp [dval, hl]
      · have hm1 : l < (l + r) / 2 := half_l hlr h1
        have hm2 : (l + r) / 2 < r := half_r hlr
        cases k with
        | zero => exact (half_0 hlr h1 hk).elim
        | succ k =>
        have hsplit := dpart_split (ds := ds) (Nat.le_of_lt hm1) (Nat.le_of_lt hm2)
        have hlen1 := dpart_len (ds := ds) (Nat.le_of_lt hm1) (Nat.le_trans (Nat.le_of_lt hm2) hrl)
        have hlen2 := dpart_len (ds := ds) (Nat.le_of_lt hm2) hrl
        have hmul : n * (r - (l + r) / 2) ≤ 20000 := Nat.le_trans (Nat.mul_le_mul_left _ (le_sub hrl)) hz
        have hmul1 : n * ((l + r) / 2 - l) ≤ 20000 := Nat.le_trans (Nat.mul_le_mul_left _ (le_sub (Nat.le_trans (Nat.le_of_lt hm2) hrl))) hz
        have hmul2 : n ≤ 20000 := Nat.le_trans (le_mul_sub hm1) hmul1
        have hb : bits (dval n (dpart ds ((l + r) / 2) r)) ≤ 20000 := bits_of_dval (fun x hx => hd x (dpart_mem hx)) (by rw [hlen2]; exact hmul)
        refine Ex.cons_next (Ex1.ite (b := false) (fun c hc hg => EvT.cmp rfl (a := .int ((l : Int) + 1)) (b := .int r) (Ev.bin (Ev.name rfl rfl) Ev.int (binop_ok rfl)) (Ev.name rfl rfl) (intCmp_ok (neCmp h1))) (fun h => by cases h) fun _ => Ex.nil) ?_
        refine Ex.cons_next (Ex1.assign (d := .int (((l + r) / 2 : Nat) : Int)) (swapsWith_plain rfl) (.inl rfl) fun c hc hg => Ev.bin (a := .int ((l : Int) + r)) (b := .int 1) (Ev.bin (Ev.name rfl rfl) (Ev.name rfl rfl) (binop_ok rfl)) Ev.int (binop_ok shr1N)) ?_
        refine Ex.cons_next (Ex1.assign (d := .int ((n * ((l + r) / 2 - l) : Nat) : Int)) (swapsWith_plain rfl) (.inl rfl) fun c hc hg => Ev.bin (a := .int ((((l + r) / 2 : Nat) : Int) - l)) (b := .int n) (Ev.bin (Ev.name rfl rfl) (Ev.name rfl rfl) (binop_ok rfl)) (Ev.name rfl rfl) (binop_ok ?_)) ?_
        · have e1 := castsub (Nat.le_of_lt hm1)
          rw [e1, mulN ⟨Nat.le_trans (bitsN_le (k := 17) (lt17 (le_sub (Nat.le_trans (Nat.le_of_lt hm2) hrl)) hz')) (by decide), Nat.le_trans (bitsN_le (k := 17) (lt17 hmul2 (by decide))) (by decide)⟩]
          congr 2; push_cast; rw [Int.mul_comm]
        refine Ex.cons_ret (Ex1.ret fun c hc hg => ?_)
        have A1 := fun (A' : Around) hr' => IH k rfl A' (m) l ((l + r) / 2) hr' hm1 (Nat.le_trans (Nat.le_of_lt hm2) hrl) (half_n hk)
        have A2 := fun (A' : Around) hr' => IH k rfl A' (m) ((l + r) / 2) r hr' hm2 hrl (half_n' hk)
        have hρ : ∀ (c : Cx) (ρ' : Str → Option B) (_ : c.env = cenvI "inner" "_digits2int.<locals>.inner" (nestAt 8 0).2.2 clos cv La fa) y d, d2iRho n ds (d2iO clos doc pm cv ctv) y = some d → (y ∈ (["digits", "n", "inner"] : List Str) → ρ' y = (d2iRho n ds (d2iO clos doc pm cv ctv) y).map .v) →
            dis ρ' y = some (.v d) ∧ ¬ c.env.kindOf y = some .local ∧ ∀ a, c.env.cells.lookup y = some a → clos.lookup y = some a := fun c ρ' hc y d hy hr => by
          have hr' : ρ' y = some (.v d) := by
            rw [hr (by rcases look3_mem hy with ⟨rfl, _⟩ | ⟨rfl, _⟩ | ⟨rfl, _⟩ <;> decide), hy]; rfl
          refine ⟨by unfold dis; rw [hr'], ?_, fun a h => by rw [hc] at h; exact h⟩
          rw [hc]
          rcases look3_mem hy with ⟨rfl, _⟩ | ⟨rfl, _⟩ | ⟨rfl, _⟩ <;> exact fun h => nomatch (show some NameKind.free = some NameKind.local from h)
        have hS : ∀ (f : Str → Option B) (a b : B) y, y ∈ (["digits", "n", "inner"] : List Str) → upd (upd (mix ["L", "R"] [.int l, .int r] f) "mid" a) "shift" b y = f y := fun f a b y hy => by
          simp only [List.mem_cons, List.not_mem_nil, or_false] at hy
          rcases hy with rfl | rfl | rfl <;> rfl
        refine Ev.bin (a := .int (dval n (dpart ds ((l + r) / 2) r) * 2 ^ (n * ((l + r) / 2 - l)))) (b := .int (dval n (dpart ds l ((l + r) / 2)))) (Ev.bin (a := .int (dval n (dpart ds ((l + r) / 2) r))) (b := .int ((n * ((l + r) / 2 - l) : Nat) : Int)) ?_ (Ev.name rfl rfl) (binop_ok (shlN ⟨by omega, by omega⟩))) ?_ (binop_ok ?_)
        · refine Ev.callO (clos := clos) (ρc := d2iRho n ds (d2iO clos doc pm cv ctv)) rfl rfl rfl (fun y d hy => hρ c _ hc y d hy (fun h => hS _ _ _ y h)) (fun y a h => by rw [hc]; exact h) (EvL.cons rfl (Ev.name rfl rfl) (.cons rfl (Ev.name rfl rfl) .nil)) (hg ▸ A2 _ (hr.deeper))
        · refine Ev.callO (clos := clos) (ρc := d2iRho n ds (d2iO clos doc pm cv ctv)) rfl rfl rfl (fun y d hy => hρ c _ hc y d hy (fun h => hS _ _ _ y h)) (fun y a h => by rw [hc]; exact h) (EvL.cons rfl (Ev.name rfl rfl) (.cons rfl (Ev.name rfl rfl) .nil)) (hg ▸ A1 _ (hr.deeper))
        · show some (T.int _) = some (T.int _)
          rw [hsplit, dval_append, hlen1, Int.mul_comm, Int.add_comm]
end Mine
set_option maxRecDepth 10000
namespace Mine
open PySem PySem.Calls PySem.W

variable {prog : Program} {w : World} {A : Around} {g : Heap} {env : Env} {ow : List (Str × Addr)} {V : List Addr} {ρ : Str → Option B} {c : Cx} {mg mb : Str → Option Value}

theorem digits2int_ok {m n k : Nat} {ds : List Int} (G : Gr g mg mb) (r : Room A (m + k + 2)) (hd : ∀ x ∈ ds, 0 ≤ x ∧ x < 2 ^ n) (hz : n * ds.length ≤ 20000) (hz' : ds.length ≤ 100000) (hk : ds.length ≤ 2 ^ k) :
    Fn prog w g mg A (nameAt 8) [.list (ds.map .int), .int n] (.int (dval n ds)) := by
  refine Fn.of (names := ["digits", "n"]) G (by decide) r.limit (fun pm code doc vs hl => ?_) rfl (by decide) ?_ (by decide) rfl rfl rfl fun pm code doc L fa V hc => ?_
  · obtain ⟨_, _, rfl⟩ := len2 hl; rfl
  · intro n hn; simp only [List.mem_cons, List.not_mem_nil, or_false] at hn; rcases hn with rfl | rfl <;> exact .inr ⟨rfl, fun _ => rfl⟩
  · conv => arg 9; whnf
    obtain ⟨cc, rfl, C⟩ := hc.2 rfl
    refine Ex.cons_nest (qual := "_digits2int.<locals>.inner") (P := 51) (clos := [(("n" : Str), L + 2), (("inner" : Str), L + 3), (("digits" : Str), L + 1)]) G rfl (by simp) rfl rfl rfl rfl rfl C (by decide) ?_ fun c' ctv doc' pm' => ?_
    · exact .inr ⟨rfl, _, rfl, rfl⟩
    · refine Ex.cons_ret (Ex1.ret fun c hc hg => ?_)
      have hT : EvT prog w (A.deeper (fenv 8 pm (.ref cc) doc L fa)) c (dis (upd (pz ["digits", "n"] [.list (ds.map .int), .int n]) "inner" (.v (.obj (d2iO [(("n" : Str), L + 2), (("inner" : Str), L + 3), (("digits" : Str), L + 1)] doc' pm' (.ref c') ctv))))) (.Name "digits" { line := 72, col := 36, endLine := 72, endCol := 42 }) (!(ds.map T.int).isEmpty) :=
        EvT.value (fun _ => rfl) (Ev.name rfl rfl) (truthT_ok rfl fun xs e => by cases e; simp; omega)
      refine Ev.ifexp hT (fun hb => ?_) fun hb => ?_
      · have hpos : 0 < ds.length := by cases ds with | nil => simp at hb | cons => simp
        have e : dpart ds 0 ds.length = ds := by unfold dpart; simp
        have K := d2i_inner (prog := prog) (w := w) (g := g) (L := L) (doc := doc') (pm := pm') (cv := .ref c') (ctv := ctv) G.gnd.nl hd hz hz' _ rfl k (A.deeper (fenv 8 pm (.ref cc) doc L fa)) m 0 ds.length r.deeper hpos (Nat.le_refl _) (by omega)
        rw [e] at K
        have hl : ((ds.map T.int).length : Int) = ds.length := by simp
        refine Ev.callO (clos := [(("n" : Str), L + 2), (("inner" : Str), L + 3), (("digits" : Str), L + 1)]) (ρc := d2iRho n ds (d2iO [(("n" : Str), L + 2), (("inner" : Str), L + 3), (("digits" : Str), L + 1)] doc' pm' (.ref c') ctv)) rfl rfl rfl (fun y d hy => ?_) (fun y a h => ?_) (EvL.cons rfl Ev.int (.cons rfl (Ev.callG (hg ▸ G) (by decide) (by rw [hc]; rfl) rfl rfl rfl rfl (EvL.cons rfl (Ev.name rfl rfl) .nil) (hl ▸ len_list_ok (by simp; omega))) .nil)) (hg ▸ K)
        · rcases look3_mem hy with ⟨rfl, rfl⟩ | ⟨rfl, rfl⟩ | ⟨rfl, rfl⟩
          · exact ⟨rfl, fun h => by rw [hc] at h; exact (nomatch (show some NameKind.cell = some NameKind.local from h)), fun a h => by rw [hc] at h; exact h⟩
          · exact ⟨rfl, fun h => by rw [hc] at h; exact (nomatch (show some NameKind.cell = some NameKind.local from h)), fun a h => by rw [hc] at h; exact h⟩
          · exact ⟨rfl, fun h => by rw [hc] at h; exact (nomatch (show some NameKind.cell = some NameKind.local from h)), fun a h => by rw [hc] at h; exact h⟩
        · rw [hc]
          have hm := mem_of_lookup h
          simp only [List.mem_cons, List.not_mem_nil, or_false, Prod.mk.injEq] at hm
          rcases hm with ⟨rfl, rfl⟩ | ⟨rfl, rfl⟩ | ⟨rfl, rfl⟩ <;> rfl
      · have : ds = [] := by cases ds with | nil => rfl | cons => simp at hb
        subst this
        exact Ev.int
end Mine
set_option maxRecDepth 10000
namespace Mine
open PySem PySem.Calls PySem.W

variable {prog : Program} {w : World} {A : Around} {g : Heap} {env : Env} {ow : List (Str × Addr)} {V : List Addr} {ρ : Str → Option B} {c : Cx} {mg mb : Str → Option Value}

theorem Rs_zeros {h : Heap} {X : List Addr} {t : Tok} : ∀ k : Nat, Rs prog w h X (List.replicate k (.int 0 t)) (List.replicate k (.int 0))
  | 0 => .nil
  | k + 1 => .cons (.int _ _) (Rs_zeros k)
set_option maxRecDepth 100000 in
theorem mul_zeros {l : Addr} {t u : Tok} {n : Nat} {k : Nat} {s : Shared} {Q : Value → Shared → Prop} {E : Value → Shared → Prop} (hl : s.heap.get? l = some { cls := .type "list", dict := none, data := .seq #[.int 0 t] n, slots := #[] }) (hk : k ≤ 100000)
    (h : Q (.ref s.heap.objs.size) { s with heap := s.heap.push { cls := .type "list", data := .seq (List.replicate k (.int 0 t)).toArray } }) : wpAny (model prog w) A (binaryOp .Mult (.ref l) (.int k u)) Q E s := by
  have c0 : ¬(!Builtin.List.listFitsIndex (k : Int)) = true := by simp [Builtin.List.listFitsIndex]; omega
  have c1 : ¬(#[Value.int 0 t]).size * (k : Int).toNat > (2 ^ 63 - 1) / 8 := by
    have : (#[Value.int 0 t]).size * (k : Int).toNat = k := by simp
    rw [this]; omega
  have c2 : ¬Builtin.List.listTooLong ((#[Value.int 0 t]).size * (k : Int).toNat) = true := by
    have : (#[Value.int 0 t]).size * (k : Int).toNat = k := by simp
    rw [this]; simp [Builtin.List.listTooLong, sizeLine]; omega
  have e : (List.foldl (fun x1 x2 => x1 ++ x2) #[] (List.replicate (if (#[Value.int 0 t]).isEmpty = true then 0 else (k : Int).toNat) #[Value.int 0 t])) = (List.replicate k (.int 0 t)).toArray := by
    rw [PyProof.Rows.listMul_foldl]
    simp [PyProof.Rows.lm_rep_flat_one]
  generalize hits : #[Value.int 0 t] = items at *
  generalize hx : (k : Int) = x at *
  have M1 := AutoListH.list___mul___list_int_3 l items n x u c0 c1 c2
  rw [e] at M1
  clear c0 c1 c2 e
  refine wpAny_binaryOp_repeat_ref (T := "list") (U := "int") (by decide) ⟨_, hl, rfl⟩ (fun s' => typeIs_int s' x u) noFill_list_mul F.fills_int_mul F.slot_int_rmul repeat_list F.slot_int_index.lookup ?_
  refine call_meets F.slot_int_rmul (typeIs_int s x u) F.entry_int_rmul (F.args_int_rmul_2 _ _) (int___rmul___int_list x u l _ n) ⟨hl, rfl, ⟨_, hl, rfl⟩, ?_⟩
  exact call_meets F.slot_list_mul ⟨_, hl, rfl⟩ F.entry_list_mul (F.args_list_mul_2 _ _) M1 ⟨hl, h⟩

theorem EvNew.zeros {p p' pos : Pos} {e : Expr} {k z : Nat} (hk : k ≤ 100000) (he : Ev prog w A c ρ e (.int k)) : EvNew prog w A c ρ (.BinOp (.List [.Constant (.int 0) z p] p') .Mult e pos) (.list (List.replicate k (.int 0))) := fun s Q E F h => by
  refine wpAny_BinOp (wpAny_List (wpAny_items_cons (wpAny_Constant_int (wpAny_items_nil ⟨by show (1 : Nat) ≤ sizeLine; decide, ?_⟩)) rfl))
  have k0 : Kp s { s with heap := s.heap.push { cls := .type "list", data := .seq #[.int 0 s.toks] }, toks := s.toks + 1 } := Kp.trans .tok .push
  refine he _ _ _ (F.keep k0) fun v s1 k1 r1 => ?_
  obtain ⟨u, rfl⟩ := r1.p
  have hl := k1.heap s.heap.objs.size _ (.cls rfl) (Heap.get?_push_size s.heap rfl)
  refine mul_zeros hl hk ?_
  refine h s1 _ _ (k0.trans k1) .push (Nat.le_refl _) ⟨_, Heap.get?_push_size _ rfl, .cls rfl⟩ fun X => ⟨List.replicate k (.int 0 s.toks), ⟨0, Heap.get?_push_size _ rfl⟩, ?_⟩
  exact Rs_zeros k
end Mine
set_option maxRecDepth 10000
namespace Mine
open PySem PySem.Calls PySem.W

variable {prog : Program} {w : World} {A : Around} {g : Heap} {env : Env} {ow : List (Str × Addr)} {V : List Addr} {ρ : Str → Option B} {c : Cx} {mg mb : Str → Option Value}

theorem fitsN {j : Nat} (h : j < 1000000) : Builtin.List.listFitsIndex (j : Int) = true := by
  unfold Builtin.List.listFitsIndex
  simp only [Bool.and_eq_true, decide_eq_true_eq]
  omega
theorem plain_set {h : Heap} {l : Addr} {vs : List Value} {n j : Nat} {v : Value} (ho : h.get? l = some { cls := .type "list", data := .seq vs.toArray n }) : (h.update l (Obj.mapSeq (·.setIfInBounds j v))).PlainList l (vs.set j v).toArray := by
  have hd : ({ cls := .type "list", data := .seq vs.toArray n } : Obj).data = .seq vs.toArray n := rfl
  obtain ⟨n', hd'⟩ := Obj.data_mapSeq hd (·.setIfInBounds j v)
  have e := Heap.get?_update_self (Obj.mapSeq (·.setIfInBounds j v)) ho (Obj.isFreed_of_seq hd')
  have q : ∀ d, (Obj.mapSeq (·.setIfInBounds j v) { cls := .type "list", data := .seq vs.toArray n }).data = d → Obj.mapSeq (·.setIfInBounds j v) { cls := .type "list", data := .seq vs.toArray n } = { cls := .type "list", data := d } := fun d h => by
    subst h; rfl
  exact ⟨n', e.trans (congrArg some (q _ (hd'.trans (by simp))))⟩
theorem set_plainI {l : Addr} {items : Array Value} {n : Nat} {k : Int} {t : Tok} {v : Value} {s : Shared} {Q : Unit → Shared → Prop} {E : Value → Shared → Prop} (ho : s.heap.get? l = some { cls := .type "list", data := .seq items n }) (h0 : 0 ≤ k) (hfit : Builtin.List.listFitsIndex k = true) (hn : k < items.size)
    (hQ : Q () { s with heap := s.heap.update l (Obj.mapSeq (·.setIfInBounds k.toNat v)) }) : wpAny (model prog w) A (setItem (.ref l) (.int k t) v) Q E s := by
  have hd : ({ cls := .type "list", data := .seq items n } : Obj).data = .seq items n := rfl
  have ty : s.TypeIs (.ref l) "list" := ⟨_, ho, rfl⟩
  unfold setItem
  try with_reducible refine wpAny_holding ?_
  first | refine wpAny_bind (wpAny_pure ?_) | skip
  refine wpAny_bind (wpAny_sequenceKey ty (by decide) ?_)
  refine wpAny_bind (wpAny_callSpecial?_slot (name := Str.ofString "__setitem__") ty slot_list_setitem (wpAny_call_entry slot_list_setitem ty entry_list_setitem ?_ (args_list_setitem _ _ _)))
  show wpAny _ _ (Builtin.List.listSubscript? (.int k t) >>= _) _ _ s
  refine wpAny_bind (wpAny_listSubscript_int hfit ?_)
  clear hfit
  obtain ⟨j, rfl⟩ := Int.eq_ofNat_of_zero_le h0
  have hj : j < items.size := by omega
  have hx' : items[j]? = some items[j] := Array.getElem?_eq_getElem hj
  show wpAny _ _ ((seqItemAt l j >>= fun r => pure (r.map (j, ·))) >>= _) _ _ s
  refine wpAny_bind (wpAny_bind (wpAny_seqItemAt ho hd (wpAny_pure ?_)))
  rw [hx']
  show wpAny _ _ (setSeqItemAt l j v >>= _) _ _ s
  refine wpAny_bind (wpAny_setSeqItemAt ho hd ?_)
  first
    | exact wpAny_bind (wpAny_pure (wpAny_pure ⟨.none, rfl, wpAny_pure hQ⟩))
    | exact wpAny_pure ⟨.none, rfl, wpAny_pure hQ⟩
theorem set_plain {l : Addr} {vs : List Value} {j : Nat} {t : Tok} {v : Value} {s : Shared} {Q : Unit → Shared → Prop} {E : Value → Shared → Prop} (hl : s.heap.PlainList l vs.toArray) (hj : j < vs.length) (hz : vs.length ≤ 1000000)
    (hQ : ∀ h', h'.PlainList l (vs.set j v).toArray → Heap.SameBut l s.heap h' → Q () { s with heap := h' }) : wpAny (model prog w) A (setItem (.ref l) (.int j t) v) Q E s := by
  obtain ⟨n, ho⟩ := hl
  exact set_plainI ho (Int.natCast_nonneg j) (fitsN (by omega)) (by simp; exact hj) (hQ _ (plain_set ho) (Heap.SameBut.update ..))
end Mine
set_option maxRecDepth 10000
namespace Mine
open PySem PySem.Calls PySem.W

variable {prog : Program} {w : World} {A : Around} {g : Heap} {env : Env} {ow : List (Str × Addr)} {V : List Addr} {ρ : Str → Option B} {c : Cx} {mg mb : Str → Option Value}

theorem Rs.set {h : Heap} {X : List Addr} {v : Value} {d : T} (r : R prog w h X v d) : ∀ {vs : List Value} {ds : List T} {j : Nat}, Rs prog w h X vs ds → Rs prog w h X (vs.set j v) (ds.set j d)
  | _, _, _, .nil => .nil
  | _, _, 0, .cons a b => .cons r b
  | _, _, j + 1, .cons a b => .cons a (Rs.set r b)

/-- x[i] = e of an owned list -/
theorem Ex1.setList {x : Str} {px p pos : Pos} {i e : Expr} {ds : List T} {j : Nat} {d : T} (hc : notComp e = true) (hx : ρ x = some (.o (.list ds))) (hn : plainName x = true)
    (he : EvE prog w A g env ρ e d) (hi : EvE prog w A g env ρ i (.int j)) (hj : j < ds.length) (hz : ds.length ≤ 1000000) :
    Ex1 prog w A g env ow V ρ (.Assign [.Subscript (.Name x px) i p] e pos) (.next (upd ρ x (.o (.list (ds.set j d))))) := fun P os m cm s Q E F h => by
  refine wpAny_Assign_Subscript ?_ (swapsWith_plain hc)
  refine he _ rfl rfl s _ _ F fun v1 s1 k1 r1 => ?_
  have F1 := F.keep k1
  obtain ⟨a, X, hb, e2, r, rr, hX⟩ := F1.readO hx
  refine wpAny_Name (load_bd F1 hb (plainName_2 hn) ?_) (plainName_1 hn)
  refine hi _ rfl rfl s1 _ _ F1 fun v2 s2 k2 r2 => ?_
  have F2 := F1.keep k2
  obtain ⟨vs, ⟨n, hd⟩, hk⟩ := r
  obtain ⟨t, rfl⟩ := r2.p
  have haW := InF.os_in (c := ⟨g, P, env, ow, V, os, m, cm⟩) e2
  refine set_plain (vs := vs) ⟨n, k2.heap a _ (.cls rfl) hd⟩ (by rw [hk.length]; exact hj) (by rw [hk.length]; exact hz) fun h' hp hsb => ?_
  refine h os m cm _ ((k1.trans k2).tr.trans ⟨_, _, rfl⟩) (F2.mutate hx e2 hb hsb F2.tk ⟨_, hp, Rs.set (R.turned haW hsb (r1.keep k2.heap)) ?_⟩ (let ⟨n, e⟩ := hp; ⟨_, e, .cls rfl⟩))
  exact Rs.monoN (fun b o hbX n e => (hsb.2 b (notin_X haW hbX)).trans (k2.heap b o n e)) (fun _ _ h _ _ => h) hk

theorem CellK {h h' : Heap} {a D : Addr} {v : Option Value} (k : ∀ b o, NT b o → b ≠ D → h.get? b = some o → h'.get? b = some o) (hD : a ≠ D) (hc : h.IsCell a v) : h'.IsCell a v := by
  obtain ⟨o, e, d⟩ := hc
  exact ⟨o, k a o (XO.cell d).1 hD e, d⟩

/-- another has written the owned object D -/
theorem InF.mutateK {s s' : Shared} {x : Str} {d d' : T} {D : Addr} (F : InF prog w c ρ s) (hx : ρ x = some (.o d)) (ha : c.os.lookup x = some D) (hb : c.Bd x (.ref D))
    (k : ∀ b o, NT b o → b ≠ D → s.heap.get? b = some o → s'.heap.get? b = some o) (tk : 1 ≤ s'.toks) (ti : TI s'.heap) (r : RO prog w s'.heap c.X D d') (hg : ∃ o, s'.heap.get? D = some o ∧ XO o) : InF prog w c (upd ρ x (.o d')) s' := by
  have hD : D ∈ c.W := InF.os_in ha
  have hX : ∀ b, b ∉ c.X → b ≠ D := fun b hb => notin_X hD hb
  refine { tk := tk, ek := F.ek, eg := F.eg, eb := F.eb, gP := F.gP, Pn := F.Pn, Ph := fun b o e => k b o (F.Pn b o e) (fun q => F.PW b o e (q ▸ hD)) (F.Ph b o e), PW := F.PW, nd := F.nd, ex := fun b hb' => ?_, ns := ?_, cl := fun n b e => CellK k (fun q => (F.ce n b e).2 (q ▸ mem_cells ha)) (F.cl n b e), ce := F.ce, cd := F.cd, ti := ti, nm := fun y b hy => ?_ }
  · by_cases e : b = D
    · subst e; exact hg
    · obtain ⟨o, e1, xo⟩ := F.ex b hb'; exact ⟨o, k b o xo.1 e e1, xo⟩
  · obtain ⟨o, es, ep, e, hd, r⟩ := F.ns
    exact ⟨o, es, ep, k _ o (XO.dict hd).1 (Ne.symm (F.os_ne ha) |> fun q => fun e => by first | exact q e | exact q e.symm) e, hd, r⟩
  · unfold upd at hy
    by_cases hyx : y = x
    · subst hyx
      rw [if_pos rfl] at hy; cases hy
      exact ⟨_, hb, D, rfl, ha, r⟩
    · rw [if_neg hyx] at hy
      obtain ⟨v, hb', hd⟩ := F.nm y b hy
      refine ⟨v, hb', ?_⟩
      cases b with
      | v d1 => exact R.monoN (fun a o ha' n e => k a o n (hX a ha') e) (fun _ _ h _ _ => h) hd
      | o d1 =>
        obtain ⟨a1, e1, e2, r1⟩ := hd
        have hne : a1 ≠ D := fun e => hyx (lookup_inj F.os_nd e2 (e ▸ ha))
        exact ⟨a1, e1, e2, RO.monoN (fun a o ha' n e => k a o n (hX a ha') e) (fun _ _ h _ _ => h) (fun o n e => k a1 o n hne e) r1⟩
end Mine
set_option maxRecDepth 10000
namespace Mine
open PySem PySem.Calls PySem.W

variable {prog : Program} {w : World} {A : Around} {g : Heap} {env : Env} {ow : List (Str × Addr)} {V : List Addr} {ρ : Str → Option B} {c : Cx} {mg mb : Str → Option Value}

/-- statements that end with nothing and leave an owned object -/
def ExW (prog : Program) (w : World) (A : Around) (g : Heap) (env : Env) (ow : List (Str × Addr)) (V : List Addr) (ρ : Str → Option B) (ss : List Stmt) (x : Str) (d : T) : Prop :=
  ∀ P os m cm s (Q : Flow → Shared → Prop) (E : Value → Shared → Prop), InF prog w ⟨g, P, env, ow, V, os, m, cm⟩ ρ s →
    (∀ fl os m cm ρ' s', (fl = .next ∨ fl = .ret .none) → Tr s s' → InF prog w ⟨g, P, env, ow, V, os, m, cm⟩ ρ' s' → ρ' x = some (.o d) → Q fl s') → wpAny (model prog w) A (execs ss env) Q E s

theorem ExW.nil {x : Str} {d : T} (h : ρ x = some (.o d)) : ExW prog w A g env ow V ρ [] x d := fun P os m cm s Q E F hq => wpAny_execs_nil (hq _ os m cm ρ s (.inl rfl) (.refl s) F h)
theorem ExW.ret {x : Str} {d : T} {pos : Pos} {rest : List Stmt} (h : ρ x = some (.o d)) : ExW prog w A g env ow V ρ (.Return none pos :: rest) x d := fun P os m cm s Q E F hq =>
  wpAny_execs_cons (wpAny_Return_none (hq _ os m cm ρ s (.inr rfl) (.refl s) F h))
theorem ExW.cons_next {st : Stmt} {rest : List Stmt} {ρ' : Str → Option B} {x : Str} {d : T} (h1 : Ex1 prog w A g env ow V ρ st (.next ρ')) (h2 : ExW prog w A g env ow V ρ' rest x d) : ExW prog w A g env ow V ρ (st :: rest) x d :=
  fun P os m cm s Q E F hq => wpAny_execs_cons (h1 P os m cm s _ E F fun os' m' cm' s' t F' => h2 P os' m' cm' s' Q E F' fun fl os m cm ρ'' s'' hf t' F'' e => hq fl os m cm ρ'' s'' hf (t.trans t') F'' e)
/-- `if` whose true branch returns -/
theorem ExW.ite_ret {t : Expr} {y : List Stmt} {pos rp : Pos} {st : Stmt} {rest : List Stmt} {ρ' : Str → Option B} {x : Str} {d : T} (ht : EvTE prog w A g env ρ t true) (h1 : Ex1 prog w A g env ow V ρ st (.next ρ')) (h : ρ' x = some (.o d)) :
    ExW prog w A g env ow V ρ (.If t [st, .Return none rp] y pos :: rest) x d := fun P os m cm s Q E F hq => by
  refine wpAny_execs_cons (wpAny_If (ht _ rfl rfl s _ _ F fun s1 k1 => ?_))
  refine wpAny_execs_cons (h1 P os m cm s1 _ E (F.keep k1) fun os' m' cm' s' t F' => ?_)
  exact wpAny_execs_cons (wpAny_Return_none (hq _ os' m' cm' ρ' s' (.inr rfl) (k1.tr.trans t) F' h))

/-- what a def within a def does that writes one list of the outer frame -/
def CallW (prog : Program) (w : World) (g : Heap) (A : Around) (O : Obj) (clos : List (Str × Addr)) (ρc : Str → Option T) (x : Str) (ds : List T) (args : List T) (ds' : List T) : Prop :=
  ∀ (s : Shared) (X : List Addr) (vs : List Value) (a D : Addr) (Q : Value → Shared → Prop) (E : Value → Shared → Prop), (∀ b o, NT b o → g.get? b = some o → s.heap.get? b = some o ∧ b ≠ D) → R prog w s.heap (D :: X) (.ref a) (.obj O) →
    InC prog w s.heap (D :: X) clos ρc → (∃ ca, clos.lookup x = some ca ∧ s.heap.IsCell ca (some (.ref D))) → (∀ n a, clos.lookup n = some a → (∃ v, s.heap.IsCell a v) ∧ a ≠ D) → RO prog w s.heap (D :: X) D (.list ds) → Rs prog w s.heap (D :: X) vs args →
    (D :: X).Nodup → (∀ b ∈ D :: X, ∃ o, s.heap.get? b = some o ∧ XO o) → 1 ≤ s.toks → TI s.heap →
    (∀ s', Tr s s' → (∀ b o, NT b o → b ≠ D → s.heap.get? b = some o → s'.heap.get? b = some o) → TI s'.heap → RO prog w s'.heap (D :: X) D (.list ds') → (∃ o, s'.heap.get? D = some o ∧ XO o) → Q .none s') → wpAny (model prog w) A (call (.ref a) vs) Q E s

theorem CallW.of {name qual : Str} {params : Arguments} {body : List Stmt} {scope : Scope} {clos : List (Str × Addr)} {doc pm cv ctv : Value} {names : List Str} {args : List T} {x : Str} {ds ds' : List T} {ρc : Str → Option T} (hnl : g.NoLimit) (hroom : A.depth < recursionLimit)
    (hbind : ∀ (vs : List Value), vs.length = args.length → bindArgs (fnX name qual params body scope clos .none .none doc pm none cv ctv) ⟨vs, []⟩ = pure (names.zip vs)) (hlen : names.length = args.length) (hnd : names.Nodup)
    (hloc : ∀ n ∈ names, scope.names.lookup n = some .local) (hnc : ∀ y ∈ scope.names, y.2 ≠ .cell) (hk : scope.kind = .function) (hco : scope.isCoroutine = false) (hgen : scope.isGenerator = false) (hcd : (clos.map (·.2)).Nodup)
    (hfree : ∀ n d, ρc n = some d → n ∉ names ∧ scope.names.lookup n = some .free) (hx : x ∉ names ∧ scope.names.lookup x = some .free ∧ ρc x = none)
    (hbody : ∀ L fa V, ExW prog w (A.deeper (cenvI name qual scope clos cv L fa)) g (cenvI name qual scope clos cv L fa) [] V (mix names args fun n => if n = x then some (.o (.list ds)) else (ρc n).map .v) body x (.list ds')) :
    CallW prog w g A (fnO name qual params body scope clos doc pm cv ctv) clos ρc x ds args ds' := fun s X vs a D Q E hg ra hin hcell hcells hro hr hX hXe htk hti hQ => by
  obtain ⟨ca, hca, hcv⟩ := hcell
  have hcaD : ca ≠ D := (hcells x ca hca).2
  cases ra with
  | obj ha ho hod hc hcd' hoc hq =>
  rename_i c oc fd
  have hfd : fd = fnX name qual params body scope clos .none .none doc pm none cv ctv := by
    have : (fnO name qual params body scope clos doc pm cv ctv).data = .func (fnX name qual params body scope clos .none .none doc pm none cv ctv) := rfl
    rw [this] at hod; cases hod; rfl
  subst hfd
  have hrec : s.heap.CodeRec cv qual := by
    obtain ⟨k1, vs', t, d1, v1⟩ := hq
    exact ⟨c, oc, vs', t, hcd', hoc, d1, v1⟩
  refine wpAny_call (codeAny_call_function hroom ho hod hco hgen rfl hrec ?_)
  rw [hbind vs hr.length]
  refine wpAny_pure ?_
  refine wpAny_newFunctionEnv hnc ?_ (fun h' hns hsb => ?_) hk
  · rintro ⟨n, v⟩ hm
    exact hloc n (List.of_mem_zip hm).1
  have keep : ∀ b o, s.heap.get? b = some o → h'.get? b = some o := fun b o e => (hsb.2 b (Nat.ne_of_lt (Heap.lt_size e))).trans (Heap.get?_push_of_some _ e)
  refine ⟨(LimN hnl fun b o n e => (hg b o n e).1).keeps keep, codeAny_func ?_⟩
  have F := InF.startC (prog := prog) (w := w) (g := g) (name := name) (qual := qual) (scope := scope) (clos := clos) (cv := cv) (fa := a) (names := names) (ds := args) (ρf := fun n => if n = x then some (.o (.list ds)) else (ρc n).map .v) (s := s) (X := X) (os := [(x, D)]) (vs := vs) (h' := h') hlen hnd hloc hk
    (fun b o n e => ⟨(hg b o n e).1, by simpa using (hg b o n e).2⟩) hr hX hXe htk hti (fun n a e => ⟨(hcells n a e).1, by simpa using (hcells n a e).2⟩) hcd (fun n b hb => by
      by_cases hn : n = x
      · subst hn
        rw [if_pos rfl] at hb; cases hb
        exact ⟨hx.1, hx.2.1, ca, _, hca, hcv, D, rfl, by simp, hro⟩
      · rw [if_neg hn] at hb
        obtain ⟨d, e1, rfl⟩ := Option.map_eq_some_iff.mp hb
        obtain ⟨a, v, e2, hc, r⟩ := hin n d e1
        exact ⟨(hfree n d e1).1, (hfree n d e1).2, a, v, e2, hc, r⟩) hns hsb (tk := s.toks + (names.zip vs).length) (by omega)
  refine hbody s.heap.objs.size a X _ _ _ _ _ _ _ F fun fl os m cm ρ' s' hf t F' e => ?_
  have hQ' : Q .none s' := by
    obtain ⟨v, hb, a', rfl, e2, ro⟩ := F'.nm x _ e
    obtain ⟨oc', q1, q2⟩ := hcv
    have hPc := F'.Ph ca oc' ⟨(XO.cell q2).1, q1, by simpa using hcaD⟩
    have hcl := F'.cl x ca hca
    have hDD : a' = D := by
      rcases hb with ⟨h1, _⟩ | ⟨_, _, h3⟩
      · have h1' : scope.names.lookup x = some .local := h1
        rw [hx.2.1] at h1'; cases h1'
      · rw [h3] at hcl
        obtain ⟨o2, z1, z2⟩ := hcl
        rw [hPc] at z1; cases z1
        rw [q2] at z2; cases z2; rfl
    subst hDD
    have hin' : a' ∈ Cx.W ⟨g, fun b o => NT b o ∧ s.heap.get? b = some o ∧ b ∉ [(x, a')].map (·.2), cenvI name qual scope clos cv s.heap.objs.size a, [], X, os, m, cm⟩ := InF.os_in e2
    refine hQ s' ?_ (fun b o n hne h => F'.Ph b o ⟨n, h, by simpa using hne⟩) F'.ti ?_ (F'.ex a' (List.mem_append_left _ hin'))
    · obtain ⟨h2, t2, rfl⟩ := t
      exact ⟨h2, t2, rfl⟩
    · refine RO.monoN (fun _ _ _ _ e => e) (fun b o hb _ _ hm => ?_) (fun _ _ e => e) ro
      rcases List.mem_cons.mp hm with h | h
      · exact hb (by rw [h]; exact List.mem_append_left _ hin')
      · exact hb (List.mem_append_right _ h)
  rcases hf with rfl | rfl
  · exact hQ'
  · exact hQ'
end Mine
set_option maxRecDepth 10000
namespace Mine
open PySem PySem.Calls PySem.W

variable {prog : Program} {w : World} {A : Around} {g : Heap} {env : Env} {ow : List (Str × Addr)} {V : List Addr} {ρ : Str → Option B} {c : Cx} {mg mb : Str → Option Value}

/-- a call, for its writing -/
theorem Ex1.callW {f x : Str} {p pos pos' : Pos} {args : List Expr} {O : Obj} {clos : List (Str × Addr)} {ρc : Str → Option T} {ds as ds' : List T} (hf : ρ f = some (.v (.obj O))) (hx : ρ x = some (.o (.list ds))) (hxk : ¬ env.kindOf x = some .local) (hn : plainName f = true) (hu : args.all unstarred = true)
    (hρ : ∀ n d, ρc n = some d → ρ n = some (.v d) ∧ ¬ env.kindOf n = some .local) (hce : ∀ n a, env.cells.lookup n = some a ↔ clos.lookup n = some a)
    (hL : ∀ c : Cx, c.env = env → c.g = g → EvL prog w A c ρ pos args as) (ho : CallW prog w g A O clos ρc x ds as ds') : Ex1 prog w A g env ow V ρ (.Expr (.Call (.Name f p) args [] pos) pos') (.next (upd ρ x (.o (.list ds')))) := fun P os m cm s Q E F h => by
  refine wpAny_Expr ?_ (interactive_fn F.ek) rfl
  rw [eval_Call_plain rfl]
  refine wpAny_bind ?_
  obtain ⟨v, hb, r⟩ := F.nm f _ hf
  refine wpAny_Name (load_bd F hb (plainName_2 hn) ?_) (plainName_1 hn)
  cases r with
  | obj ha hob hod hc hcd hoc hqq =>
  rename_i a c' oc fd
  refine Calls.callWith_function (o := O) (fd := fd) (evalArgs_L hu (hL _ rfl rfl) F fun vs s1 k1 r1 => ⟨⟨k1.heap _ _ (.func hod) hob, hod⟩, ?_⟩)
  have F1 := F.keep k1
  obtain ⟨D, X0, hbD, e2, ro, _, _⟩ := F1.readO hx
  have hDW := InF.os_in (c := ⟨g, P, env, ow, V, os, m, cm⟩) e2
  have hDX : D ∈ Cx.X ⟨g, P, env, ow, V, os, m, cm⟩ := List.mem_append_left _ hDW
  have hperm := List.perm_cons_erase hDX
  have hX : ∀ b, b ∉ Cx.X ⟨g, P, env, ow, V, os, m, cm⟩ → b ∉ D :: (Cx.X ⟨g, P, env, ow, V, os, m, cm⟩).erase D := fun b hb hm => hb (hperm.mem_iff.mpr hm)
  have hX' : ∀ b, b ∉ D :: (Cx.X ⟨g, P, env, ow, V, os, m, cm⟩).erase D → b ∉ Cx.X ⟨g, P, env, ow, V, os, m, cm⟩ := fun b hb hm => hb (hperm.mem_iff.mp hm)
  refine withTok F1.tk (ho s1 ((Cx.X ⟨g, P, env, ow, V, os, m, cm⟩).erase D) vs a D _ E (fun b o n e => ⟨F1.ground b o n e, fun q => F1.PW b o (F1.gP b o n e) (q ▸ hDW)⟩)
    (R.monoN (fun b o _ n e => k1.heap b o n e) (fun b o hb _ _ => hX b hb) (.obj ha hob hod hc hcd hoc hqq)) (fun n d e => ?_) ?_ (fun n b e => ?_)
    (RO.monoN (fun _ _ _ _ e => e) (fun b o hb _ _ => hX b hb) (fun _ _ e => e) ro) (Rs.monoN (fun _ _ _ _ e => e) (fun b o hb _ _ => hX b hb) r1) (hperm.nodup_iff.mp F1.nd) (fun b hb => F1.ex b (hperm.mem_iff.mpr hb)) F1.tk F1.ti fun s2 t k ti ro' hg t2 => ?_)
  · obtain ⟨e1, e3⟩ := hρ n d e
    obtain ⟨v, hb, r⟩ := F1.nm n _ e1
    rcases hb with ⟨h1, _⟩ | ⟨_, ⟨b, h2⟩, h3⟩
    · exact absurd h1 e3
    · have hcell := F1.cl n b h2
      rw [h3] at hcell
      exact ⟨b, v, (hce n b).mp h2, hcell, R.monoN (fun _ _ _ _ e => e) (fun b o hb _ _ => hX b hb) r⟩
  · rcases hbD with ⟨h1, _⟩ | ⟨_, ⟨b, h2⟩, h3⟩
    · exact absurd h1 hxk
    · have hcell := F1.cl x b h2
      rw [h3] at hcell
      exact ⟨b, (hce x b).mp h2, hcell⟩
  · have h2 := (hce n b).mpr e
    exact ⟨⟨_, F1.cl n b h2⟩, fun q => (F1.ce n b h2).2 (q ▸ mem_cells e2)⟩
  · exact h os m cm s2 (k1.tr.trans t) (F1.mutateK hx e2 hbD k t2 ti (RO.monoN (fun _ _ _ _ e => e) (fun b o hb _ _ => hX' b hb) (fun _ _ e => e) ro') hg)
end Mine
set_option maxRecDepth 10000
namespace Mine
open PySem PySem.Calls PySem.W

/-- the digits of a number -/
def dig (n : Nat) : Nat → Nat → List Int
  | _, 0 => []
  | x, c + 1 => ((x % 2 ^ n : Nat) : Int) :: dig n (x / 2 ^ n) c
theorem dig_len (n : Nat) : ∀ (c x : Nat), (dig n x c).length = c
  | 0, x => rfl
  | c + 1, x => by rw [dig, List.length_cons, dig_len n c]
theorem dig_split (n : Nat) : ∀ (p q x : Nat), dig n x (p + q) = dig n (x % 2 ^ (n * p)) p ++ dig n (x / 2 ^ (n * p)) q
  | 0, q, x => by simp [dig]
  | p + 1, q, x => by
    have e : p + 1 + q = (p + q) + 1 := by omega
    rw [e, dig, dig_split n p q (x / 2 ^ n), dig, List.cons_append]
    have e1 : 2 ^ (n * (p + 1)) = 2 ^ n * 2 ^ (n * p) := by rw [Nat.mul_add, Nat.mul_one, Nat.add_comm, Nat.pow_add]
    have h1 : x % 2 ^ (n * (p + 1)) % 2 ^ n = x % 2 ^ n := by rw [e1]; exact Nat.mod_mul_right_mod x (2 ^ n) _
    have h2 : x % 2 ^ (n * (p + 1)) / 2 ^ n = x / 2 ^ n % 2 ^ (n * p) := by rw [e1]; exact Nat.mod_mul_right_div_self x (2 ^ n) _
    have h3 : x / 2 ^ (n * (p + 1)) = x / 2 ^ n / 2 ^ (n * p) := by rw [e1, Nat.div_div_eq_div_mul]
    rw [h1, h2, h3]
theorem bitAndN (x y : Nat) : Builtin.bitAnd (x : Int) (y : Int) = ((x &&& y : Nat) : Int) := by
  unfold Builtin.bitAnd
  rw [decide_eq_true (Int.natCast_nonneg x), decide_eq_true (Int.natCast_nonneg y)]
  simp
theorem xor_low (x k : Nat) : Builtin.bitXor (x : Int) ((x / 2 ^ k * 2 ^ k : Nat) : Int) = ((x % 2 ^ k : Nat) : Int) := by
  rw [PyProof.Rows.bitXor_and]
  have e : Builtin.bitAnd (x : Int) ((x / 2 ^ k * 2 ^ k : Nat) : Int) = ((x &&& (x / 2 ^ k * 2 ^ k) : Nat) : Int) := by
    exact bitAndN x _
  have e2 : x &&& (x / 2 ^ k * 2 ^ k) = x / 2 ^ k * 2 ^ k := by
    refine Nat.eq_of_testBit_eq fun i => ?_
    rw [Nat.testBit_and, ← Nat.shiftRight_eq_div_pow, ← Nat.shiftLeft_eq, Nat.testBit_shiftLeft, Nat.testBit_shiftRight]
    by_cases h : k ≤ i
    · rw [show k + (i - k) = i by omega]
      simp
    · simp [h]
  rw [e, e2]
  have := Nat.div_add_mod x (2 ^ k)
  rw [Nat.mul_comm] at this
  omega

def putL (ds : List T) (l r : Nat) (new : List Int) : List T := ds.take l ++ new.map T.int ++ ds.drop r
theorem putL_len {ds : List T} {l r : Nat} {new : List Int} (h : l ≤ r) (h' : r ≤ ds.length) (hn : new.length = r - l) : (putL ds l r new).length = ds.length := by
  unfold putL
  rw [List.length_append, List.length_append, List.length_map, List.length_take, List.length_drop, Nat.min_eq_left (Nat.le_trans h h'), hn, Nat.add_sub_cancel' h, Nat.add_sub_cancel' h']
theorem putL_two {ds : List T} {l m r : Nat} {a b : List Int} (h : l ≤ m) (h' : m ≤ r) (hr : r ≤ ds.length) (ha : a.length = m - l) (hb : b.length = r - m) : putL (putL ds l m a) m r b = putL ds l r (a ++ b) := by
  unfold putL
  have hlen : (ds.take l ++ a.map T.int).length = m := by
    rw [List.length_append, List.length_map, List.length_take, Nat.min_eq_left (Nat.le_trans (Nat.le_trans h h') hr), ha, Nat.add_sub_cancel' h]
  have e1 : (ds.take l ++ a.map T.int ++ ds.drop m).take m = ds.take l ++ a.map T.int := by
    rw [List.take_append_of_le_length (Nat.le_of_eq hlen.symm)]
    exact List.take_of_length_le (Nat.le_of_eq hlen)
  have e2 : (ds.take l ++ a.map T.int ++ ds.drop m).drop r = ds.drop r := by
    rw [List.drop_append, List.drop_eq_nil_of_le (hlen ▸ h'), List.drop_drop, hlen, Nat.add_sub_cancel' h', List.nil_append]
  rw [e1, e2]
  simp
theorem putL_one {ds : List T} {l : Nat} {x : Int} (h : l < ds.length) : ds.set l (.int x) = putL ds l (l + 1) [x] := by
  unfold putL
  rw [List.set_eq_take_append_cons_drop, if_pos h]
  simp
end Mine
set_option maxRecDepth 10000
namespace Mine
open PySem PySem.Calls PySem.W

variable {prog : Program} {w : World} {A : Around} {g : Heap} {env : Env} {ow : List (Str × Addr)} {V : List Addr} {ρ : Str → Option B} {c : Cx} {mg mb : Str → Option Value}

abbrev i2dO (clos : List (Str × Addr)) (doc pm cv ctv : Value) : Obj := fnO "inner" "_int2digits.<locals>.inner" (nestAt 7 1).1 (nestAt 7 1).2.1 (nestAt 7 1).2.2 clos doc pm cv ctv
def i2dRho (n : Nat) (O : Obj) : Str → Option T := look3 "n" "inner" "inner" (.int n) (.obj O) (.obj O)

theorem shrN {x k : Nat} : binop .RShift (.int (x : Int)) (.int k) = some (.int ((x / 2 ^ k : Nat) : Int)) := by
  show (if (0 : Int) ≤ k then some (T.int ((x : Int).fdiv (2 ^ (k : Int).toNat))) else none) = _
  rw [if_pos (by omega)]
  have : (x : Int).fdiv (2 ^ (k : Int).toNat) = ((x / 2 ^ k : Nat) : Int) := by
    have hp : (0 : Int) ≤ 2 ^ k := Int.pow_nonneg (by decide)
    rw [Int.toNat_natCast, Int.fdiv_eq_ediv_of_nonneg _ hp]; push_cast; rfl
  rw [this]

theorem i2d_inner {n : Nat} {L : Addr} {doc pm cv ctv : Value} (hnl : g.NoLimit) (clos : List (Str × Addr)) (hclos : clos = [(("n" : Str), L + 1), (("inner" : Str), L + 3), (("a_digits" : Str), L + 2)]) :
    ∀ (k : Nat) (A : Around) (m l r x : Nat) (ds : List T), Room A (m + k + 1) → l < r → r ≤ ds.length → r - l ≤ 2 ^ k → x < 2 ^ (n * (r - l)) → n * ds.length ≤ 20000 → ds.length ≤ 100000 →
      CallW prog w g A (i2dO clos doc pm cv ctv) clos (i2dRho n (i2dO clos doc pm cv ctv)) "a_digits" ds [.int x, .int l, .int r] (putL ds l r (dig n x (r - l))) :=
  predInd fun k IH => by
    intro A m l r x ds hr hlr hrl hk hx hz hz'
    refine CallW.of (names := ["x", "L", "R"]) hnl hr.limit (fun vs hl => ?_) rfl (by decide) ?_ ?_ rfl rfl rfl ?_ ?_ ⟨by decide, rfl, rfl⟩ fun La fa V => ?_
    · obtain ⟨_, _, _, rfl⟩ := len3 hl; rfl
    · intro n hn; simp only [List.mem_cons, List.not_mem_nil, or_false] at hn; rcases hn with rfl | rfl | rfl <;> rfl
    · decide
    · subst hclos; simp only [List.map_cons, List.map_nil, List.nodup_cons, List.mem_cons, List.not_mem_nil, or_false, not_false_eq_true, List.nodup_nil, and_true]
      have e := ne_add L
      exact ⟨fun h => h.elim (e 1 3 (by decide)) (e 1 2 (by decide)), e 3 2 (by decide)⟩
    · intro y d hy
      rcases look3_mem hy with ⟨rfl, _⟩ | ⟨rfl, _⟩ | ⟨rfl, _⟩ <;> exact ⟨by decide, rfl⟩
    · conv => arg 9; whnf
      by_cases h1 : l + 1 = r
      · subst h1
        have e1 : l + 1 - l = 1 := one_sub rfl
        rw [e1] at hx ⊢
        have e2 : dig n x 1 = [(x : Int)] := by
          show [((x % 2 ^ n : Nat) : Int)] = _
          rw [Nat.mod_eq_of_lt (by simpa using hx)]
        refine ExW.ite_ret (fun c hc hg => EvT.cmp rfl (a := .int ((l : Int) + 1)) (b := .int ((l + 1 : Nat) : Int)) (Ev.bin (Ev.name rfl rfl) Ev.int (binop_ok rfl)) (Ev.name rfl rfl) (intCmp_ok (by simp [intCmp])))
          (Ex1.setList (ds := ds) (j := l) (d := .int x) rfl rfl rfl (fun c _ _ => Ev.name rfl rfl) (fun c _ _ => Ev.name rfl rfl) (by omega) (by omega)) ?_
        rw [e2, ← putL_one (by omega)]
        rfl
      · have hm1 : l < (l + r) / 2 := half_l hlr h1
        have hm2 : (l + r) / 2 < r := half_r hlr
        cases k with
        | zero => exact (half_0 hlr h1 hk).elim
        | succ k =>
        have hk1 := half_n hk
        have hk2 := half_n' hk
        generalize hmid : (l + r) / 2 = mid at *
        have hpq := sub_split hm1 hm2
        have hmD : mid ≤ ds.length := Nat.le_trans (Nat.le_of_lt hm2) hrl
        have hmulp : n * (mid - l) ≤ 20000 := Nat.le_trans (Nat.mul_le_mul_left _ (le_sub hmD)) hz
        have hmulr : n * (r - l) ≤ 20000 := Nat.le_trans (Nat.mul_le_mul_left _ (le_sub hrl)) hz
        have hmul2 : n ≤ 20000 := Nat.le_trans (le_mul_sub hm1) hmulp
        have hub : bits ((x / 2 ^ (n * (mid - l)) : Nat) : Int) ≤ 100000 := Nat.le_trans (bitsN_le (k := n * (r - l)) (Nat.lt_of_le_of_lt (Nat.div_le_self _ _) hx)) (Nat.le_trans hmulr (by decide))
        have hlow : x % 2 ^ (n * (mid - l)) < 2 ^ (n * (mid - l)) := Nat.mod_lt _ (Nat.pow_pos (by decide))
        have hupp : x / 2 ^ (n * (mid - l)) < 2 ^ (n * (r - mid)) := by
          rw [Nat.div_lt_iff_lt_mul (Nat.pow_pos (by decide)), ← Nat.pow_add, ← Nat.mul_add, Nat.add_comm, ← hpq]
          exact hx
        have hl1 : (putL ds l mid (dig n (x % 2 ^ (n * (mid - l))) (mid - l))).length = ds.length := putL_len (Nat.le_of_lt hm1) hmD (dig_len ..)
        rw [hpq, dig_split, ← putL_two (m := mid) (Nat.le_of_lt hm1) (Nat.le_of_lt hm2) hrl (dig_len ..) (dig_len ..)]
        have A1 := fun (A' : Around) hr' => IH k rfl A' m l mid (x % 2 ^ (n * (mid - l))) ds hr' hm1 hmD hk1 hlow hz hz'
        have A2 := fun (A' : Around) hr' => IH k rfl A' m mid r (x / 2 ^ (n * (mid - l))) (putL ds l mid (dig n (x % 2 ^ (n * (mid - l))) (mid - l))) hr' hm2 (hl1.symm ▸ hrl) hk2 hupp (by rw [hl1]; exact hz) (by rw [hl1]; exact hz')
        refine ExW.cons_next (Ex1.ite (b := false) (fun c hc hg => EvT.cmp rfl (a := .int ((l : Int) + 1)) (b := .int r) (Ev.bin (Ev.name rfl rfl) Ev.int (binop_ok rfl)) (Ev.name rfl rfl) (intCmp_ok (neCmp h1))) (fun h => by cases h) fun _ => Ex.nil) ?_
        refine ExW.cons_next (Ex1.assign (d := .int ((mid : Nat) : Int)) (swapsWith_plain rfl) (.inl rfl) fun c hc hg => Ev.bin (a := .int ((l : Int) + r)) (b := .int 1) (Ev.bin (Ev.name rfl rfl) (Ev.name rfl rfl) (binop_ok rfl)) Ev.int (binop_ok (hmid ▸ shr1N))) ?_
        refine ExW.cons_next (Ex1.assign (d := .int ((n * (mid - l) : Nat) : Int)) (swapsWith_plain rfl) (.inl rfl) fun c hc hg => Ev.bin (a := .int (((mid : Nat) : Int) - l)) (b := .int n) (Ev.bin (Ev.name rfl rfl) (Ev.name rfl rfl) (binop_ok rfl)) (Ev.name rfl rfl) (binop_ok ?_)) ?_
        · have e1 := castsub (Nat.le_of_lt hm1)
          rw [e1, mulN ⟨Nat.le_trans (bitsN_le (k := 17) (lt17 (le_sub hmD) hz')) (by decide), Nat.le_trans (bitsN_le (k := 17) (lt17 hmul2 (by decide))) (by decide)⟩]
          congr 2; push_cast; rw [Int.mul_comm]
        refine ExW.cons_next (Ex1.assign (d := .int ((x / 2 ^ (n * (mid - l)) : Nat) : Int)) (swapsWith_plain rfl) (.inl rfl) fun c hc hg => Ev.bin (Ev.name rfl rfl) (Ev.name rfl rfl) (binop_ok shrN)) ?_
        refine ExW.cons_next (Ex1.assign (d := .int ((x % 2 ^ (n * (mid - l)) : Nat) : Int)) (swapsWith_plain rfl) (.inl rfl) fun c hc hg => Ev.bin (a := .int x) (b := .int ((x / 2 ^ (n * (mid - l)) * 2 ^ (n * (mid - l)) : Nat) : Int)) (Ev.name rfl rfl)
          (Ev.bin (Ev.name rfl rfl) (Ev.name rfl rfl) (binop_ok ?_)) (binop_ok ?_)) ?_
        · rw [shlN ⟨by omega, hub⟩]
          congr 2
        · show some (T.int _) = some (T.int _)
          rw [xor_low]
        have hmem : ∀ y d, i2dRho n (i2dO clos doc pm cv ctv) y = some d → (∀ ρ' : Str → Option B, (∀ z, z ∈ (["n", "inner"] : List Str) → ρ' z = (i2dRho n (i2dO clos doc pm cv ctv) z).map .v) → ρ' y = some (.v d)) ∧ ¬ (cenvI "inner" "_int2digits.<locals>.inner" (nestAt 7 1).2.2 clos cv La fa).kindOf y = some .local := fun y d hy => by
          refine ⟨fun ρ' h => ?_, ?_⟩
          · rw [h y (by rcases look3_mem hy with ⟨rfl, _⟩ | ⟨rfl, _⟩ | ⟨rfl, _⟩ <;> decide), hy]; rfl
          · rcases look3_mem hy with ⟨rfl, _⟩ | ⟨rfl, _⟩ | ⟨rfl, _⟩ <;> exact fun h => nomatch (show some NameKind.free = some NameKind.local from h)
        refine ExW.cons_next (Ex1.callW (x := "a_digits") (ds := ds) rfl rfl (fun h => nomatch (show some NameKind.free = some NameKind.local from h)) rfl rfl (fun y d hy => ⟨(hmem y d hy).1 _ fun z hz => ?_, (hmem y d hy).2⟩) (fun y a => Iff.rfl)
          (fun c _ _ => EvL.cons rfl (Ev.name rfl rfl) (.cons rfl (Ev.name rfl rfl) (.cons rfl (Ev.name rfl rfl) .nil))) (A1 _ hr.deeper)) ?_
        · simp only [List.mem_cons, List.not_mem_nil, or_false] at hz
          rcases hz with rfl | rfl <;> rfl
        refine ExW.cons_next (Ex1.callW (x := "a_digits") (ds := putL ds l mid (dig n (x % 2 ^ (n * (mid - l))) (mid - l))) rfl rfl (fun h => nomatch (show some NameKind.free = some NameKind.local from h)) rfl rfl (fun y d hy => ⟨(hmem y d hy).1 _ fun z hz => ?_, (hmem y d hy).2⟩) (fun y a => Iff.rfl)
          (fun c _ _ => EvL.cons rfl (Ev.name rfl rfl) (.cons rfl (Ev.name rfl rfl) (.cons rfl (Ev.name rfl rfl) .nil))) (A2 _ hr.deeper)) (ExW.nil rfl)
        simp only [List.mem_cons, List.not_mem_nil, or_false] at hz
        rcases hz with rfl | rfl <;> rfl
end Mine
set_option maxRecDepth 10000
namespace Mine
open PySem PySem.Calls PySem.W

variable {prog : Program} {w : World} {A : Around} {g : Heap} {env : Env} {ow : List (Str × Addr)} {V : List Addr} {ρ : Str → Option B} {c : Cx} {mg mb : Str → Option Value}

theorem Ev.ofDis {e : Expr} {d : T} (hf : flat d = true) (h : ∀ c' : Cx, c'.env = c.env → c'.g = c.g → Ev prog w A c' (dis ρ) e d) : Ev prog w A c ρ e d := fun s Q E F hq =>
  h { c with os := [] } rfl rfl s Q E F.dis fun v s' k r => hq v s' k (r.flat hf)

def cntD (a n : Nat) : Nat := (bits (a : Int) + n - 1) / n
theorem cntT {a n : Nat} (hn : 0 < n) (hb : n ≤ 20000) : binop .FloorDiv (.int ((bits (a : Int) : Int) + n - 1)) (.int n) = some (.int (cntD a n : Nat)) := by
  show (if (n : Int) ≠ 0 ∧ bits (n : Int) ≤ 5000 then some (T.int (((bits (a : Int) : Int) + n - 1).fdiv n)) else none) = _
  rw [if_pos ⟨by omega, Nat.le_trans (bitsN_le (k := 17) (by omega)) (by decide)⟩]
  have e : ((bits (a : Int) : Int) + n - 1) = ((bits (a : Int) + n - 1 : Nat) : Int) := by omega
  rw [e, Int.fdiv_eq_ediv_of_nonneg _ (by omega)]
  rfl
theorem lt_bits (a : Nat) : a < 2 ^ bits (a : Int) := by
  show a < 2 ^ (Builtin.Int.intBits (a : Int))
  unfold Builtin.Int.intBits
  split
  · rename_i h
    have : a = 0 := by simpa using h
    subst this; decide
  · exact Nat.lt_log2_self
theorem cnt_fits {a n : Nat} (hn : 0 < n) : a < 2 ^ (n * cntD a n) := by
  refine Nat.lt_of_lt_of_le (lt_bits a) (Nat.pow_le_pow_right (by decide) ?_)
  have := Nat.div_add_mod (bits (a : Int) + n - 1) n
  have h2 := Nat.mod_lt (bits (a : Int) + n - 1) hn
  unfold cntD
  omega
theorem cnt_pos {a n : Nat} (hn : 0 < n) (ha : a ≠ 0) : 0 < cntD a n := by
  refine Nat.div_pos ?_ hn
  have : 0 < bits (a : Int) := by
    refine Nat.pos_of_ne_zero fun h => ?_
    have := lt_bits a
    rw [h] at this
    omega
  omega

theorem int2digits_ok {m n k a : Nat} (G : Gr g mg mb) (r : Room A (m + k + 2)) (hn : 0 < n) (hz : n * cntD a n ≤ 20000) (hn2 : n ≤ 20000) (hz' : cntD a n ≤ 100000) (hk : cntD a n ≤ 2 ^ k) :
    Fn prog w g mg A (nameAt 7) [.int a, .int n] (.list ((dig n a (cntD a n)).map .int)) := by
  refine Fn.of (names := ["a", "n"]) G (by decide) r.limit (fun pm code doc vs hl => ?_) rfl (by decide) ?_ (by decide) rfl rfl rfl fun pm code doc L fa V hc => ?_
  · obtain ⟨_, _, rfl⟩ := len2 hl; rfl
  · intro n hn; simp only [List.mem_cons, List.not_mem_nil, or_false] at hn; rcases hn with rfl | rfl
    · exact .inl rfl
    · exact .inr ⟨rfl, fun _ => rfl⟩
  · conv => arg 9; whnf
    obtain ⟨cc, rfl, C⟩ := hc.1 rfl
    refine Ex.cons_next (Ex1.assignNew (d := .list (List.replicate (cntD a n) (.int 0))) rfl (.inr ⟨rfl, _, rfl, rfl⟩) fun c hc hg => EvNew.zeros hz' (Ev.bin (a := .int ((bits (a : Int) : Int) + n - 1)) (b := .int n)
      (Ev.bin (a := .int ((bits (a : Int) : Int) + n)) (b := .int 1) (Ev.bin (Ev.bitlen rfl rfl (Ev.name rfl rfl)) (Ev.name rfl rfl) (binop_ok rfl)) Ev.int (binop_ok rfl)) (Ev.name rfl rfl) (binop_ok (cntT hn hn2)))) ?_
    refine Ex.cons_nest (qual := "_int2digits.<locals>.inner") (P := 44) (clos := [(("n" : Str), L + 1), (("inner" : Str), L + 3), (("a_digits" : Str), L + 2)]) G rfl (by simp) rfl rfl rfl rfl rfl C (by decide) (.inr ⟨rfl, _, rfl, rfl⟩) fun c' ctv doc' pm' => ?_
    by_cases ha : a = 0
    · subst ha
      have e0 : cntD 0 n = 0 := by
        unfold cntD
        have : bits ((0 : Nat) : Int) = 0 := rfl
        rw [this, Nat.zero_add]
        exact Nat.div_eq_of_lt (by omega)
      rw [e0]
      refine Ex.cons_next (Ex1.ite (b := false) (fun c hc hg => EvT.value (fun _ => rfl) (Ev.name rfl rfl) (truthT_ok rfl fun xs e => by cases e)) (fun h => by cases h) fun _ => Ex.nil) ?_
      exact Ex.cons_ret (Ex1.ret fun c hc hg => Ev.name rfl rfl)
    · have hlen : (List.replicate (cntD a n) (T.int 0)).length = cntD a n := by simp
      have hcall : CallW prog w g (A.deeper (fenv 7 pm (.ref cc) doc L fa)) _ _ _ "a_digits" (List.replicate (cntD a n) (T.int 0)) [.int a, .int ((0 : Nat) : Int), .int (cntD a n : Nat)] _ :=
        i2d_inner (prog := prog) (w := w) (g := g) (L := L) (doc := doc') (pm := pm') (cv := .ref c') (ctv := ctv) G.gnd.nl _ rfl k (A.deeper (fenv 7 pm (.ref cc) doc L fa)) m 0 (cntD a n) a (List.replicate (cntD a n) (T.int 0)) r.deeper (cnt_pos hn ha) (by simp) (by omega) (by rw [Nat.sub_zero]; exact cnt_fits hn) (by rw [hlen]; exact hz) (by rw [hlen]; exact hz')
      have e1 : putL (List.replicate (cntD a n) (T.int 0)) 0 (cntD a n) (dig n a (cntD a n - 0)) = (dig n a (cntD a n)).map .int := by
        unfold putL
        simp
      rw [e1] at hcall
      refine Ex.cons_next (ρ' := upd (upd (upd (pz ["a", "n"] [.int a, .int n]) "a_digits" (.o (.list (List.replicate (cntD a n) (.int 0))))) "inner" (.v (.obj (i2dO [(("n" : Str), L + 1), (("inner" : Str), L + 3), (("a_digits" : Str), L + 2)] doc' pm' (.ref c') ctv)))) "a_digits" (.o (.list ((dig n a (cntD a n)).map .int)))) (Ex1.ite (b := true) (fun c hc hg => EvT.value (fun _ => rfl) (Ev.name rfl rfl) (truthT_ok (by show some ((a : Int) != 0) = some true; congr 1; simpa using ha) fun xs e => by cases e)) (fun _ => Ex.cons_next (Ex1.callW (x := "a_digits") (ds := List.replicate (cntD a n) (.int 0)) (clos := [(("n" : Str), L + 1), (("inner" : Str), L + 3), (("a_digits" : Str), L + 2)]) rfl rfl (fun h => nomatch (show some NameKind.cell = some NameKind.local from h)) rfl rfl (fun y d hy => ?_) (fun y b => ?_) (fun c hc hg => EvL.cons rfl (Ev.name rfl rfl) (.cons rfl Ev.int (.cons rfl (Ev.ofDis rfl fun c' hc' hg' => Ev.callG ((hg'.trans hg) ▸ G) (by decide) (by rw [hc', hc]; rfl) rfl rfl rfl rfl (EvL.cons rfl (Ev.name rfl rfl) .nil) (?_)) .nil))) hcall) Ex.nil) fun h => by cases h) ?_
      · rcases look3_mem hy with ⟨rfl, rfl⟩ | ⟨rfl, rfl⟩ | ⟨rfl, rfl⟩ <;> exact ⟨rfl, fun h => nomatch (show some NameKind.cell = some NameKind.local from h)⟩
      · constructor
        · intro h
          have hm : (y, b) ∈ [(("inner" : Str), L + 3), (("a_digits" : Str), L + 2), (("n" : Str), L + 1)] := mem_of_lookup h
          simp only [List.mem_cons, List.not_mem_nil, or_false, Prod.mk.injEq] at hm
          rcases hm with ⟨rfl, rfl⟩ | ⟨rfl, rfl⟩ | ⟨rfl, rfl⟩ <;> rfl
        · intro h
          have hm := mem_of_lookup h
          simp only [List.mem_cons, List.not_mem_nil, or_false, Prod.mk.injEq] at hm
          rcases hm with ⟨rfl, rfl⟩ | ⟨rfl, rfl⟩ | ⟨rfl, rfl⟩ <;> rfl
      · have hl := len_list_ok (prog := prog) (w := w) (A := A.deeper (fenv 7 pm (.ref cc) doc L fa)) (xs := List.replicate (cntD a n) (T.int 0)) (by simp; omega)
        rw [hlen] at hl
        exact hl
      · exact Ex.cons_ret (Ex1.ret fun c hc hg => Ev.name rfl rfl)
end Mine
set_option maxRecDepth 10000
namespace Mine
open PySem PySem.Calls PySem.W

theorem subS {n k : Nat} (h : k + 1 ≤ n) : n - k = n - (k + 1) + 1 := by rw [← Nat.sub_sub, Nat.sub_add_cancel (Nat.sub_pos_of_lt h)]
theorem e40 (a : Nat) : 40 * (a + 1) + 1 = 40 * a + 1 + 40 := by omega
theorem mono2 {m a b c : Nat} (h : a + b ≤ c) : m + a + b ≤ m + c := by rw [Nat.add_assoc]; exact Nat.add_le_add_left h m
theorem leEq {a b k K : Nat} (e : a = b) (h : b ≤ k) (d : k ≤ K) : a ≤ K := e ▸ Nat.le_trans h d
theorem leLt {a b k K : Nat} (e : a < b) (h : b ≤ k) (d : k ≤ K) : a ≤ K := Nat.le_trans (Nat.le_of_lt e) (Nat.le_trans h d)
theorem bd0 {a k : Nat} (h : a ≤ k) (d : k ≤ 1000000000) : (-1000000000 : Int) ≤ (a : Int) ∧ (a : Int) ≤ 1000000000 := by omega
theorem an5 {p1 p2 p3 p4 p5 C : Prop} (h : p1 ∧ p2 ∧ p3 ∧ p4 ∧ p5) (k : p1 → p2 → p3 → p4 → p5 → C) : C := k h.1 h.2.1 h.2.2.1 h.2.2.2.1 h.2.2.2.2
theorem an6 {p1 p2 p3 p4 p5 p6 C : Prop} (h : p1 ∧ p2 ∧ p3 ∧ p4 ∧ p5 ∧ p6) (k : p1 → p2 → p3 → p4 → p5 → p6 → C) : C := k h.1 h.2.1 h.2.2.1 h.2.2.2.1 h.2.2.2.2.1 h.2.2.2.2.2
theorem an7 {p1 p2 p3 p4 p5 p6 p7 C : Prop} (h : p1 ∧ p2 ∧ p3 ∧ p4 ∧ p5 ∧ p6 ∧ p7) (k : p1 → p2 → p3 → p4 → p5 → p6 → p7 → C) : C := k h.1 h.2.1 h.2.2.1 h.2.2.2.1 h.2.2.2.2.1 h.2.2.2.2.2.1 h.2.2.2.2.2.2
theorem an8 {p1 p2 p3 p4 p5 p6 p7 p8 C : Prop} (h : p1 ∧ p2 ∧ p3 ∧ p4 ∧ p5 ∧ p6 ∧ p7 ∧ p8) (k : p1 → p2 → p3 → p4 → p5 → p6 → p7 → p8 → C) : C := k h.1 h.2.1 h.2.2.1 h.2.2.2.1 h.2.2.2.2.1 h.2.2.2.2.2.1 h.2.2.2.2.2.2.1 h.2.2.2.2.2.2.2
theorem an9 {p1 p2 p3 p4 p5 p6 p7 p8 p9 C : Prop} (h : p1 ∧ p2 ∧ p3 ∧ p4 ∧ p5 ∧ p6 ∧ p7 ∧ p8 ∧ p9) (k : p1 → p2 → p3 → p4 → p5 → p6 → p7 → p8 → p9 → C) : C := k h.1 h.2.1 h.2.2.1 h.2.2.2.1 h.2.2.2.2.1 h.2.2.2.2.2.1 h.2.2.2.2.2.2.1 h.2.2.2.2.2.2.2.1 h.2.2.2.2.2.2.2.2
theorem an10 {p1 p2 p3 p4 p5 p6 p7 p8 p9 p10 C : Prop} (h : p1 ∧ p2 ∧ p3 ∧ p4 ∧ p5 ∧ p6 ∧ p7 ∧ p8 ∧ p9 ∧ p10) (k : p1 → p2 → p3 → p4 → p5 → p6 → p7 → p8 → p9 → p10 → C) : C := k h.1 h.2.1 h.2.2.1 h.2.2.2.1 h.2.2.2.2.1 h.2.2.2.2.2.1 h.2.2.2.2.2.2.1 h.2.2.2.2.2.2.2.1 h.2.2.2.2.2.2.2.2.1 h.2.2.2.2.2.2.2.2.2
theorem an11 {p1 p2 p3 p4 p5 p6 p7 p8 p9 p10 p11 C : Prop} (h : p1 ∧ p2 ∧ p3 ∧ p4 ∧ p5 ∧ p6 ∧ p7 ∧ p8 ∧ p9 ∧ p10 ∧ p11) (k : p1 → p2 → p3 → p4 → p5 → p6 → p7 → p8 → p9 → p10 → p11 → C) : C := k h.1 h.2.1 h.2.2.1 h.2.2.2.1 h.2.2.2.2.1 h.2.2.2.2.2.1 h.2.2.2.2.2.2.1 h.2.2.2.2.2.2.2.1 h.2.2.2.2.2.2.2.2.1 h.2.2.2.2.2.2.2.2.2.1 h.2.2.2.2.2.2.2.2.2.2
theorem an12 {p1 p2 p3 p4 p5 p6 p7 p8 p9 p10 p11 p12 C : Prop} (h : p1 ∧ p2 ∧ p3 ∧ p4 ∧ p5 ∧ p6 ∧ p7 ∧ p8 ∧ p9 ∧ p10 ∧ p11 ∧ p12) (k : p1 → p2 → p3 → p4 → p5 → p6 → p7 → p8 → p9 → p10 → p11 → p12 → C) : C := k h.1 h.2.1 h.2.2.1 h.2.2.2.1 h.2.2.2.2.1 h.2.2.2.2.2.1 h.2.2.2.2.2.2.1 h.2.2.2.2.2.2.2.1 h.2.2.2.2.2.2.2.2.1 h.2.2.2.2.2.2.2.2.2.1 h.2.2.2.2.2.2.2.2.2.2.1 h.2.2.2.2.2.2.2.2.2.2.2
theorem an13 {p1 p2 p3 p4 p5 p6 p7 p8 p9 p10 p11 p12 p13 C : Prop} (h : p1 ∧ p2 ∧ p3 ∧ p4 ∧ p5 ∧ p6 ∧ p7 ∧ p8 ∧ p9 ∧ p10 ∧ p11 ∧ p12 ∧ p13) (k : p1 → p2 → p3 → p4 → p5 → p6 → p7 → p8 → p9 → p10 → p11 → p12 → p13 → C) : C := k h.1 h.2.1 h.2.2.1 h.2.2.2.1 h.2.2.2.2.1 h.2.2.2.2.2.1 h.2.2.2.2.2.2.1 h.2.2.2.2.2.2.2.1 h.2.2.2.2.2.2.2.2.1 h.2.2.2.2.2.2.2.2.2.1 h.2.2.2.2.2.2.2.2.2.2.1 h.2.2.2.2.2.2.2.2.2.2.2.1 h.2.2.2.2.2.2.2.2.2.2.2.2
theorem an14 {p1 p2 p3 p4 p5 p6 p7 p8 p9 p10 p11 p12 p13 p14 C : Prop} (h : p1 ∧ p2 ∧ p3 ∧ p4 ∧ p5 ∧ p6 ∧ p7 ∧ p8 ∧ p9 ∧ p10 ∧ p11 ∧ p12 ∧ p13 ∧ p14) (k : p1 → p2 → p3 → p4 → p5 → p6 → p7 → p8 → p9 → p10 → p11 → p12 → p13 → p14 → C) : C := k h.1 h.2.1 h.2.2.1 h.2.2.2.1 h.2.2.2.2.1 h.2.2.2.2.2.1 h.2.2.2.2.2.2.1 h.2.2.2.2.2.2.2.1 h.2.2.2.2.2.2.2.2.1 h.2.2.2.2.2.2.2.2.2.1 h.2.2.2.2.2.2.2.2.2.2.1 h.2.2.2.2.2.2.2.2.2.2.2.1 h.2.2.2.2.2.2.2.2.2.2.2.2.1 h.2.2.2.2.2.2.2.2.2.2.2.2.2
theorem an15 {p1 p2 p3 p4 p5 p6 p7 p8 p9 p10 p11 p12 p13 p14 p15 C : Prop} (h : p1 ∧ p2 ∧ p3 ∧ p4 ∧ p5 ∧ p6 ∧ p7 ∧ p8 ∧ p9 ∧ p10 ∧ p11 ∧ p12 ∧ p13 ∧ p14 ∧ p15) (k : p1 → p2 → p3 → p4 → p5 → p6 → p7 → p8 → p9 → p10 → p11 → p12 → p13 → p14 → p15 → C) : C := k h.1 h.2.1 h.2.2.1 h.2.2.2.1 h.2.2.2.2.1 h.2.2.2.2.2.1 h.2.2.2.2.2.2.1 h.2.2.2.2.2.2.2.1 h.2.2.2.2.2.2.2.2.1 h.2.2.2.2.2.2.2.2.2.1 h.2.2.2.2.2.2.2.2.2.2.1 h.2.2.2.2.2.2.2.2.2.2.2.1 h.2.2.2.2.2.2.2.2.2.2.2.2.1 h.2.2.2.2.2.2.2.2.2.2.2.2.2.1 h.2.2.2.2.2.2.2.2.2.2.2.2.2.2
theorem an16 {p1 p2 p3 p4 p5 p6 p7 p8 p9 p10 p11 p12 p13 p14 p15 p16 C : Prop} (h : p1 ∧ p2 ∧ p3 ∧ p4 ∧ p5 ∧ p6 ∧ p7 ∧ p8 ∧ p9 ∧ p10 ∧ p11 ∧ p12 ∧ p13 ∧ p14 ∧ p15 ∧ p16) (k : p1 → p2 → p3 → p4 → p5 → p6 → p7 → p8 → p9 → p10 → p11 → p12 → p13 → p14 → p15 → p16 → C) : C := k h.1 h.2.1 h.2.2.1 h.2.2.2.1 h.2.2.2.2.1 h.2.2.2.2.2.1 h.2.2.2.2.2.2.1 h.2.2.2.2.2.2.2.1 h.2.2.2.2.2.2.2.2.1 h.2.2.2.2.2.2.2.2.2.1 h.2.2.2.2.2.2.2.2.2.2.1 h.2.2.2.2.2.2.2.2.2.2.2.1 h.2.2.2.2.2.2.2.2.2.2.2.2.1 h.2.2.2.2.2.2.2.2.2.2.2.2.2.1 h.2.2.2.2.2.2.2.2.2.2.2.2.2.2.1 h.2.2.2.2.2.2.2.2.2.2.2.2.2.2.2

variable {prog : Program} {w : World} {A : Around} {g : Heap} {env : Env} {ow : List (Str × Addr)} {V : List Addr} {ρ : Str → Option B} {c : Cx} {mg mb : Str → Option Value}

theorem dig_bound (n : Nat) : ∀ (c x : Nat), ∀ y ∈ dig n x c, 0 ≤ y ∧ y < 2 ^ n
  | 0, x, y, h => by cases h
  | c + 1, x, y, h => by
    rcases List.mem_cons.mp h with rfl | h
    · have := Nat.mod_lt x (Nat.pow_pos (n := n) (show 0 < 2 by decide))
      exact ⟨Int.natCast_nonneg _, by exact_mod_cast this⟩
    · exact dig_bound n c _ y h
theorem dval_dig (n : Nat) : ∀ (c x : Nat), x < 2 ^ (n * c) → dval n (dig n x c) = x
  | 0, x, h => by simp at h; subst h; rfl
  | c + 1, x, h => by
    have h2 : x / 2 ^ n < 2 ^ (n * c) := by
      rw [Nat.div_lt_iff_lt_mul (Nat.pow_pos (by decide)), ← Nat.pow_add]
      exact h
    rw [dig, dval, dval_dig n c _ h2]
    have := Nat.mod_add_div x (2 ^ n)
    exact_mod_cast this

theorem divstep {n : Nat} {b r d X : Int} (hb : 0 < b) (hb2 : b < 2 ^ n) (hr : 0 ≤ r ∧ r < b) (hd : 0 ≤ d ∧ d < 2 ^ n) (hX : X = r * 2 ^ n + d) : 0 ≤ X ∧ X < 2 ^ (n + n) ∧ 0 ≤ X / b ∧ X / b < 2 ^ n ∧ 0 ≤ X % b ∧ X % b < b ∧ X / b * b + X % b = X := by
  have hp : (0 : Int) < 2 ^ n := Int.pow_pos (by decide)
  have h1 : (r + 1) * 2 ^ n ≤ b * 2 ^ n := Int.mul_le_mul_of_nonneg_right hr.2 (Int.le_of_lt hp)
  have h2 : b * 2 ^ n ≤ 2 ^ n * 2 ^ n := Int.mul_le_mul_of_nonneg_right (Int.le_of_lt hb2) (Int.le_of_lt hp)
  have h3 : 0 ≤ r * 2 ^ n := Int.mul_nonneg hr.1 (Int.le_of_lt hp)
  rw [Int.add_mul, Int.one_mul] at h1
  have hX0 : 0 ≤ X := by omega
  have hXb : X < 2 ^ n * b := by rw [Int.mul_comm]; omega
  refine ⟨hX0, by rw [Int.pow_add]; omega, Int.ediv_nonneg hX0 (Int.le_of_lt hb), Int.ediv_lt_of_lt_mul hb hXb, Int.emod_nonneg _ (by omega), Int.emod_lt_of_pos _ hb, ?_⟩
  rw [Int.mul_comm]; exact Int.mul_ediv_add_emod X b
end Mine
set_option maxRecDepth 10000
namespace Mine
open PySem PySem.Calls PySem.W

variable {prog : Program} {w : World} {A : Around} {g : Heap} {env : Env} {ow : List (Str × Addr)} {V : List Addr} {ρ : Str → Option B} {c : Cx} {mg mb : Str → Option Value}

def DivI (n : Nat) (a b : Nat) (cnt : Nat) (l : List Int) (r : Int) (qs : List Int) : Prop :=
  (∀ x ∈ l, 0 ≤ x ∧ x < 2 ^ n) ∧ (∀ x ∈ qs, 0 ≤ x ∧ x < 2 ^ n) ∧ 0 ≤ r ∧ r < b ∧ qs.length + l.length = cnt ∧
    dval n l.reverse + 2 ^ (n * l.length) * (dval n qs.reverse * b + r) = a
theorem DivI.step {n a b cnt : Nat} {d : Int} {l qs : List Int} {r : Int} (hb : 0 < b) (hb2 : (b : Int) < 2 ^ n) (h : DivI n a b cnt (d :: l) r qs) : DivI n a b cnt l ((r * 2 ^ n + d) % b) (qs ++ [(r * 2 ^ n + d) / b]) := by
  refine an6 h fun h1 h2 h3 h4 h5 h6 => ?_
  obtain ⟨s1, s2, s3, s4, s5, s6, s7⟩ := divstep (n := n) (b := b) (r := r) (d := d) (by first | assumption | exact Nat.le_trans ‹_› (by decide) | exact Nat.le_trans (And.right ‹_›) (by decide) | exact mono2 (by decide) | exact Nat.add_le_add_left (by decide) _ | exact leEq ‹_› ‹_› (by decide) | exact leEq ‹_› (And.right ‹_›) (by decide) | exact leLt ‹_› ‹_› (by decide) | exact leLt ‹_› (And.right ‹_›) (by decide) | exact bd0 ‹_› (by decide) | exact bd0 (And.right ‹_›) (by decide) | omega) hb2 ⟨h3, h4⟩ (h1 d (.head _)) rfl
  refine ⟨fun x hx => h1 x (.tail _ hx), fun x hx => ?_, s5, s6, by simp at h5 ⊢; omega, ?_⟩
  · rcases List.mem_append.mp hx with h | h
    · exact h2 x h
    · rw [List.mem_singleton.mp h]; exact ⟨s3, s4⟩
  · rw [List.reverse_append, List.reverse_cons, List.reverse_nil, List.nil_append, List.singleton_append, dval]
    rw [List.reverse_cons, dval_append, List.length_reverse, dval, dval, List.length_cons, Nat.mul_add, Nat.mul_one, Int.pow_add] at h6
    generalize (r * 2 ^ n + d) / (b : Int) = q at *
    generalize (r * 2 ^ n + d) % (b : Int) = r' at *
    rw [← h6]
    have : (q + 2 ^ n * dval n qs.reverse) * b + r' = 2 ^ n * (dval n qs.reverse * b + r) + d := by grind
    rw [this]
    grind

theorem divmod_pos_ok {m k a b : Nat} (G : Gr g mg mb) (r : Room A (m + k + 10)) (hb : 0 < b) (hb2 : bits (b : Int) ≤ 3000) (hz : bits (b : Int) * cntD a (bits (b : Int)) ≤ 20000) (hz' : cntD a (bits (b : Int)) ≤ 90000) (hk : cntD a (bits (b : Int)) ≤ 2 ^ k) :
    Fn prog w g mg A (nameAt 9) [.int a, .int b] (.tuple [.int ((a / b : Nat) : Int), .int ((a % b : Nat) : Int)]) := by
  generalize hn : bits (b : Int) = n at *
  generalize hcnt : cntD a n = cnt at *
  have hbn : (b : Int) < 2 ^ n := by have := lt_bits b; rw [hn] at this; exact_mod_cast this
  have hn0 : 0 < n := Nat.pos_of_ne_zero fun h => by subst h; simp at hbn; omega
  refine Fn.of (names := ["a", "b"]) G (by decide) r.limit (fun pm code doc vs hl => ?_) rfl (by decide) ?_ (by decide) rfl rfl rfl fun pm code doc L fa V hc => ?_
  · obtain ⟨_, _, rfl⟩ := len2 hl; rfl
  · intro n hn; simp only [List.mem_cons, List.not_mem_nil, or_false] at hn; rcases hn with rfl | rfl <;> exact .inl rfl
  · conv => arg 9; whnf
    refine Ex.cons_next (Ex1.assign (d := .int n) (swapsWith_plain rfl) (.inl rfl) fun c hc hg => hn ▸ Ev.bitlen rfl rfl (Ev.name rfl rfl)) ?_
    refine Ex.cons_next (Ex1.assign (d := .list ((dig n a cnt).map .int)) (swapsWith_plain rfl) (.inl rfl) fun c hc hg => Ev.callF (hg ▸ G.gnd) (by rw [hc]; rfl) rfl rfl (EvL.cons rfl (Ev.name rfl rfl) (.cons rfl (Ev.name rfl rfl) .nil))
      (hg ▸ hcnt ▸ int2digits_ok (m := m + 7) (k := k) G (Room.mono (m := m + 7 + k + 2) r.deeper (by first | assumption | exact Nat.le_trans ‹_› (by decide) | exact Nat.le_trans (And.right ‹_›) (by decide) | exact mono2 (by decide) | exact Nat.add_le_add_left (by decide) _ | exact leEq ‹_› ‹_› (by decide) | exact leEq ‹_› (And.right ‹_›) (by decide) | exact leLt ‹_› ‹_› (by decide) | exact leLt ‹_› (And.right ‹_›) (by decide) | exact bd0 ‹_› (by decide) | exact bd0 (And.right ‹_›) (by decide) | omega)) hn0 (hcnt ▸ hz) (by first | assumption | exact Nat.le_trans ‹_› (by decide) | exact Nat.le_trans (And.right ‹_›) (by decide) | exact mono2 (by decide) | exact Nat.add_le_add_left (by decide) _ | exact leEq ‹_› ‹_› (by decide) | exact leEq ‹_› (And.right ‹_›) (by decide) | exact leLt ‹_› ‹_› (by decide) | exact leLt ‹_› (And.right ‹_›) (by decide) | exact bd0 ‹_› (by decide) | exact bd0 (And.right ‹_›) (by decide) | omega) (by first | assumption | exact Nat.le_trans ‹_› (by decide) | exact Nat.le_trans (And.right ‹_›) (by decide) | exact mono2 (by decide) | exact Nat.add_le_add_left (by decide) _ | exact leEq ‹_› ‹_› (by decide) | exact leEq ‹_› (And.right ‹_›) (by decide) | exact leLt ‹_› ‹_› (by decide) | exact leLt ‹_› (And.right ‹_›) (by decide) | exact bd0 ‹_› (by decide) | exact bd0 (And.right ‹_›) (by decide) | omega) (by first | assumption | exact Nat.le_trans ‹_› (by decide) | exact Nat.le_trans (And.right ‹_›) (by decide) | exact mono2 (by decide) | exact Nat.add_le_add_left (by decide) _ | exact leEq ‹_› ‹_› (by decide) | exact leEq ‹_› (And.right ‹_›) (by decide) | exact leLt ‹_› ‹_› (by decide) | exact leLt ‹_› (And.right ‹_›) (by decide) | exact bd0 ‹_› (by decide) | exact bd0 (And.right ‹_›) (by decide) | omega))) ?_
    refine Ex.cons_next (Ex1.assign (d := .int 0) (swapsWith_plain rfl) (.inl rfl) fun c hc hg => Ev.int) ?_
    refine Ex.cons_next (Ex1.assignNew (d := .list []) rfl (.inl rfl) fun c _ h => EvNew.list) ?_
    refine Ex.for_inv (ds := ((dig n a cnt).map T.int).reverse) (fun rest ρ => ∃ (l qs : List Int) (x : Int), rest = l.map .int ∧ ρ "r" = some (.v (.int x)) ∧ ρ "q_digits" = some (.o (.list (qs.map .int))) ∧ ρ "n" = some (.v (.int n)) ∧ ρ "b" = some (.v (.int b)) ∧ DivI n a b cnt l x qs)
      r.h (Gives.reversed r.h G.gnd rfl (G.bi "reversed" (by decide)).1 ((G.bi "reversed" (by decide)).2.trans rfl) rfl fun c _ _ => Ev.name rfl rfl) ⟨(dig n a cnt).reverse, [], 0, by simp, rfl, rfl, rfl, rfl, ?_⟩ ?_ ?_ (.inl rfl) (fun _ d hd => ?_)
    · refine ⟨fun x hx => dig_bound n cnt a x (List.mem_reverse.mp hx), (by simp), by omega, by omega, by simp [dig_len], ?_⟩
      rw [List.reverse_reverse, dval_dig n cnt a (hcnt ▸ cnt_fits hn0)]
      simp [dval]
    · rintro d rest ρ ⟨l, qs, x, hAll⟩
      refine an6 hAll fun h1 h2 h3 h4 h5 h6 => ?_
      cases l with
      | nil => cases h1
      | cons y l =>
        simp only [List.map_cons, List.cons.injEq] at h1
        obtain ⟨rfl, rfl⟩ := h1
        have hs := h6.step hb hbn
        obtain ⟨s1, s2, s3, s4, s5, s6, s7⟩ := divstep (n := n) (b := b) (r := x) (d := y) (by first | assumption | exact Nat.le_trans ‹_› (by decide) | exact Nat.le_trans (And.right ‹_›) (by decide) | exact mono2 (by decide) | exact Nat.add_le_add_left (by decide) _ | exact leEq ‹_› ‹_› (by decide) | exact leEq ‹_› (And.right ‹_›) (by decide) | exact leLt ‹_› ‹_› (by decide) | exact leLt ‹_› (And.right ‹_›) (by decide) | exact bd0 ‹_› (by decide) | exact bd0 (And.right ‹_›) (by decide) | omega) hbn ⟨h6.2.2.1, h6.2.2.2.1⟩ (h6.1 y (.head _)) rfl
        have hbx : bits x ≤ 100000 := Nat.le_trans (bits_le (k := n) (by
          have : (x.natAbs : Int) < ((2 ^ n : Nat) : Int) := by
            rw [Int.natAbs_of_nonneg h6.2.2.1]; push_cast; exact Int.lt_trans h6.2.2.2.1 hbn
          exact_mod_cast this)) (by first | assumption | exact Nat.le_trans ‹_› (by decide) | exact Nat.le_trans (And.right ‹_›) (by decide) | exact mono2 (by decide) | exact Nat.add_le_add_left (by decide) _ | exact leEq ‹_› ‹_› (by decide) | exact leEq ‹_› (And.right ‹_›) (by decide) | exact leLt ‹_› ‹_› (by decide) | exact leLt ‹_› (And.right ‹_›) (by decide) | exact bd0 ‹_› (by decide) | exact bd0 (And.right ‹_›) (by decide) | omega)
        have hbX : bits (x * 2 ^ n + y) ≤ n + n := bits_le (by
          have : ((x * 2 ^ n + y).natAbs : Int) < ((2 ^ (n + n) : Nat) : Int) := by
            rw [Int.natAbs_of_nonneg s1]; push_cast; exact s2
          exact_mod_cast this)
        have hcall : Fn prog w g mg (A.deeper (fenv 9 pm code doc L fa)) (nameAt 5) [.int (x * 2 ^ n + y), .int b, .int n] (.tuple [.int ((x * 2 ^ n + y) / b), .int ((x * 2 ^ n + y) % b)]) := by
          have := div2n1n_ok (m := m + k + 4) (a := x * 2 ^ n + y) (b := b) (n := n) (prog := prog) (w := w) (A := A.deeper (fenv 9 pm code doc L fa)) G (Room.mono (m := m + k + 4 + 5) r.deeper (by first | assumption | exact Nat.le_trans ‹_› (by decide) | exact Nat.le_trans (And.right ‹_›) (by decide) | exact mono2 (by decide) | exact Nat.add_le_add_left (by decide) _ | exact leEq ‹_› ‹_› (by decide) | exact leEq ‹_› (And.right ‹_›) (by decide) | exact leLt ‹_› ‹_› (by decide) | exact leLt ‹_› (And.right ‹_›) (by decide) | exact bd0 ‹_› (by decide) | exact bd0 (And.right ‹_›) (by decide) | omega)) (by first | assumption | exact Nat.le_trans ‹_› (by decide) | exact Nat.le_trans (And.right ‹_›) (by decide) | exact mono2 (by decide) | exact Nat.add_le_add_left (by decide) _ | exact leEq ‹_› ‹_› (by decide) | exact leEq ‹_› (And.right ‹_›) (by decide) | exact leLt ‹_› ‹_› (by decide) | exact leLt ‹_› (And.right ‹_›) (by decide) | exact bd0 ‹_› (by decide) | exact bd0 (And.right ‹_›) (by decide) | omega) ⟨by omega, by omega⟩
          rw [Int.fdiv_eq_ediv_of_nonneg _ (by first | assumption | exact Nat.le_trans ‹_› (by decide) | exact Nat.le_trans (And.right ‹_›) (by decide) | exact mono2 (by decide) | exact Nat.add_le_add_left (by decide) _ | exact leEq ‹_› ‹_› (by decide) | exact leEq ‹_› (And.right ‹_›) (by decide) | exact leLt ‹_› ‹_› (by decide) | exact leLt ‹_› (And.right ‹_›) (by decide) | exact bd0 ‹_› (by decide) | exact bd0 (And.right ‹_›) (by decide) | omega), Int.fmod_eq_emod_of_nonneg _ (by first | assumption | exact Nat.le_trans ‹_› (by decide) | exact Nat.le_trans (And.right ‹_›) (by decide) | exact mono2 (by decide) | exact Nat.add_le_add_left (by decide) _ | exact leEq ‹_› ‹_› (by decide) | exact leEq ‹_› (And.right ‹_›) (by decide) | exact leLt ‹_› ‹_› (by decide) | exact leLt ‹_› (And.right ‹_›) (by decide) | exact bd0 ‹_› (by decide) | exact bd0 (And.right ‹_›) (by decide) | omega)] at this
          exact this
        refine ⟨_, _, rfl, fun V => Ex.cons_next (Ex1.assignTuple (d := .tuple [.int ((x * 2 ^ n + y) / b), .int ((x * 2 ^ n + y) % b)]) r.h rfl rfl ?_ fun c hc hg => Ev.callF (hg ▸ G.gnd) (by rw [hc]; rfl) rfl rfl
          (EvL.cons rfl (Ev.bin (a := .int (x * 2 ^ n)) (b := .int y) (Ev.bin (Ev.name h2 rfl) (Ev.name h4 rfl) (binop_ok (shlN ⟨by omega, hbx⟩))) (Ev.name rfl rfl) (binop_ok rfl)) (.cons rfl (Ev.name h5 rfl) (.cons rfl (Ev.name h4 rfl) .nil))) (hg ▸ hcall))
          (Ex.cons_next (Ex1.append (xs := qs.map .int) (d := .int ((x * 2 ^ n + y) / b)) h3 rfl rfl rfl (fun c _ _ => Ev.name rfl rfl) ?_) Ex.nil), l, qs ++ [(x * 2 ^ n + y) / b], (x * 2 ^ n + y) % b, rfl, rfl, ?_, h4, h5, hs⟩
        · intro xs e z hz
          cases e
          simp only [List.mem_cons, List.not_mem_nil, or_false] at hz
          rcases hz with rfl | rfl <;> exact .inl rfl
        · have := h6.2.2.2.2.1
          simp; simp at this; omega
        · rw [List.map_append]; rfl
    · rintro ρ' ⟨l, qs, x, hAll⟩
      refine an6 hAll fun h1 h2 h3 h4 h5 h6 => ?_
      have hl0 : l = [] := by cases l with | nil => rfl | cons => cases h1
      subst hl0
      refine an6 h6 fun i1 i2 i3 i4 i5 i6 => ?_
      simp only [List.reverse_nil, dval, List.length_nil, Nat.mul_zero, Int.pow_zero, Int.one_mul, Int.zero_add] at i6
      have hql : qs.length = cnt := by simpa using i5
      have hq : dval n qs.reverse = ((a / b : Nat) : Int) := by
        have := Int.ediv_emod_unique (a := (a : Int)) (b := (b : Int)) (r := x) (q := dval n qs.reverse) (by first | assumption | exact Nat.le_trans ‹_› (by decide) | exact Nat.le_trans (And.right ‹_›) (by decide) | exact mono2 (by decide) | exact Nat.add_le_add_left (by decide) _ | exact leEq ‹_› ‹_› (by decide) | exact leEq ‹_› (And.right ‹_›) (by decide) | exact leLt ‹_› ‹_› (by decide) | exact leLt ‹_› (And.right ‹_›) (by decide) | exact bd0 ‹_› (by decide) | exact bd0 (And.right ‹_›) (by decide) | omega) |>.mpr ⟨by rw [Int.mul_comm, ← i6]; omega, i3, i4⟩
        rw [← this.1]; rfl
      have hx : x = ((a % b : Nat) : Int) := by
        have := Int.ediv_emod_unique (a := (a : Int)) (b := (b : Int)) (r := x) (q := dval n qs.reverse) (by first | assumption | exact Nat.le_trans ‹_› (by decide) | exact Nat.le_trans (And.right ‹_›) (by decide) | exact mono2 (by decide) | exact Nat.add_le_add_left (by decide) _ | exact leEq ‹_› ‹_› (by decide) | exact leEq ‹_› (And.right ‹_›) (by decide) | exact leLt ‹_› ‹_› (by decide) | exact leLt ‹_› (And.right ‹_›) (by decide) | exact bd0 ‹_› (by decide) | exact bd0 (And.right ‹_›) (by decide) | omega) |>.mpr ⟨by rw [Int.mul_comm, ← i6]; omega, i3, i4⟩
        rw [← this.2]; rfl
      refine Ex.cons_next (Ex1.reverse h3 rfl rfl (by simp; first | assumption | exact Nat.le_trans ‹_› (by decide) | exact Nat.le_trans (And.right ‹_›) (by decide) | exact mono2 (by decide) | exact Nat.add_le_add_left (by decide) _ | exact leEq ‹_› ‹_› (by decide) | exact leEq ‹_› (And.right ‹_›) (by decide) | exact leLt ‹_› ‹_› (by decide) | exact leLt ‹_› (And.right ‹_›) (by decide) | exact bd0 ‹_› (by decide) | exact bd0 (And.right ‹_›) (by decide) | omega)) ?_
      refine Ex.cons_next (Ex1.ofDis (Ex1.assign (d := .int (dval n qs.reverse)) (swapsWith_plain rfl) (.inl rfl) fun c hc hg => Ev.callF (hg ▸ G.gnd) (by rw [hc]; rfl) rfl rfl (EvL.cons rfl (Ev.name (d := .list (qs.reverse.map .int)) ?_ rfl) (.cons rfl (Ev.name (d := .int n) ?_ rfl) .nil))
        (hg ▸ digits2int_ok (m := m + 7) (k := k) G (Room.mono (m := m + 7 + k + 2) r.deeper (by first | assumption | exact Nat.le_trans ‹_› (by decide) | exact Nat.le_trans (And.right ‹_›) (by decide) | exact mono2 (by decide) | exact Nat.add_le_add_left (by decide) _ | exact leEq ‹_› ‹_› (by decide) | exact leEq ‹_› (And.right ‹_›) (by decide) | exact leLt ‹_› ‹_› (by decide) | exact leLt ‹_› (And.right ‹_›) (by decide) | exact bd0 ‹_› (by decide) | exact bd0 (And.right ‹_›) (by decide) | omega)) (fun y hy => i2 y (List.mem_reverse.mp hy)) (by simp; rw [hql]; exact hz) (by simp; first | assumption | exact Nat.le_trans ‹_› (by decide) | exact Nat.le_trans (And.right ‹_›) (by decide) | exact mono2 (by decide) | exact Nat.add_le_add_left (by decide) _ | exact leEq ‹_› ‹_› (by decide) | exact leEq ‹_› (And.right ‹_›) (by decide) | exact leLt ‹_› ‹_› (by decide) | exact leLt ‹_› (And.right ‹_›) (by decide) | exact bd0 ‹_› (by decide) | exact bd0 (And.right ‹_›) (by decide) | omega) (by simp; first | assumption | exact Nat.le_trans ‹_› (by decide) | exact Nat.le_trans (And.right ‹_›) (by decide) | exact mono2 (by decide) | exact Nat.add_le_add_left (by decide) _ | exact leEq ‹_› ‹_› (by decide) | exact leEq ‹_› (And.right ‹_›) (by decide) | exact leLt ‹_› ‹_› (by decide) | exact leLt ‹_› (And.right ‹_›) (by decide) | exact bd0 ‹_› (by decide) | exact bd0 (And.right ‹_›) (by decide) | omega)))) ?_
      · show dis (upd ρ' "q_digits" _) "q_digits" = _
        unfold dis; simp [upd]
      · show dis (upd ρ' "q_digits" _) "n" = _
        have : upd ρ' "q_digits" (.o (.list (qs.map T.int).reverse)) "n" = some (.v (.int n)) := h4
        unfold dis; rw [this]
      · refine Ex.cons_ret (Ex1.ret fun c _ _ => Ev.tuple (EvL.cons rfl (Ev.name (d := .int ((a / b : Nat) : Int)) ?_ rfl) (.cons rfl (Ev.name (d := .int ((a % b : Nat) : Int)) ?_ rfl) .nil)) (by show (2 : Nat) ≤ sizeLine; decide))
        · rw [← hq]; rfl
        · have h2' : upd (dis (upd ρ' "q_digits" (.o (.list (qs.map T.int).reverse)))) "q" (.v (.int (dval n qs.reverse))) "r" = some (.v (.int x)) := by
            show dis (upd ρ' "q_digits" _) "r" = _
            have : upd ρ' "q_digits" (.o (.list (qs.map T.int).reverse)) "r" = some (.v (.int x)) := h2
            unfold dis; rw [this]
          rw [← hx]
          unfold dis at h2' ⊢
          rw [h2']
    · obtain ⟨z, _, rfl⟩ := List.mem_map.mp (List.mem_reverse.mp hd)
      rfl
end Mine
set_option maxRecDepth 10000
namespace Mine
open PySem PySem.Calls PySem.W

variable {prog : Program} {w : World} {A : Around} {g : Heap} {env : Env} {ow : List (Str × Addr)} {V : List Addr} {ρ : Str → Option B} {c : Cx} {mg mb : Str → Option Value}

def DivFits (k a b : Nat) : Prop := 0 < b ∧ bits (b : Int) ≤ 3000 ∧ bits (b : Int) * cntD a (bits (b : Int)) ≤ 20000 ∧ cntD a (bits (b : Int)) ≤ 90000 ∧ cntD a (bits (b : Int)) ≤ 2 ^ k

theorem int_divmod_nat {m k a b : Nat} (G : Gr g mg mb) (r : Room A (m + k + 11)) (h : DivFits k a b) : Fn prog w g mg A (nameAt 10) [.int a, .int b] (.tuple [.int ((a / b : Nat) : Int), .int ((a % b : Nat) : Int)]) := by
  obtain ⟨hb, hb2, hz, hz', hk⟩ := h
  refine Fn.of (names := ["a", "b"]) G (by decide) r.limit (fun pm code doc vs hl => ?_) rfl (by decide) ?_ (by decide) rfl rfl rfl fun pm code doc L fa V hc => ?_
  · obtain ⟨_, _, rfl⟩ := len2 hl; rfl
  · intro n hn; simp only [List.mem_cons, List.not_mem_nil, or_false] at hn; rcases hn with rfl | rfl <;> exact .inl rfl
  · conv => arg 9; whnf
    refine Ex.cons_ret (Ex1.ite (b := false) (fun c hc hg => EvT.cmp rfl (a := .int b) (b := .int 0) (Ev.name rfl rfl) Ev.int (intCmp_ok (by simp [intCmp]; omega))) (fun h => by cases h) fun _ => ?_)
    refine Ex.cons_ret (Ex1.ite (b := false) (fun c hc hg => EvT.cmp rfl (a := .int b) (b := .int 0) (Ev.name rfl rfl) Ev.int (intCmp_ok (by simp [intCmp]))) (fun h => by cases h) fun _ => ?_)
    refine Ex.cons_ret (Ex1.ite (b := false) (fun c hc hg => EvT.cmp rfl (a := .int a) (b := .int 0) (Ev.name rfl rfl) Ev.int (intCmp_ok (by simp [intCmp]))) (fun h => by cases h) fun _ => ?_)
    exact Ex.cons_ret (Ex1.ret fun c hc hg => Ev.callF (hg ▸ G.gnd) (by rw [hc]; rfl) rfl rfl (EvL.cons rfl (Ev.name rfl rfl) (.cons rfl (Ev.name rfl rfl) .nil)) (hg ▸ divmod_pos_ok (m := m) (k := k) G r.deeper hb hb2 hz hz' hk))

theorem neg_div {a b : Nat} {z : Int} (hb : 0 < b) (hz : z = -(a : Int) - 1) : z / (b : Int) = -((a / b : Nat) : Int) - 1 ∧ z % (b : Int) = b + (-((a % b : Nat) : Int) - 1) := by
  have h1 := Nat.mod_lt a hb
  have h2 := Nat.div_add_mod a b
  have h3 : (b : Int) * ((a / b : Nat) : Int) + ((a % b : Nat) : Int) = a := by exact_mod_cast h2
  refine (Int.ediv_emod_unique (by first | assumption | exact Nat.le_trans ‹_› (by decide) | exact Nat.le_trans (And.right ‹_›) (by decide) | exact mono2 (by decide) | exact Nat.add_le_add_left (by decide) _ | exact leEq ‹_› ‹_› (by decide) | exact leEq ‹_› (And.right ‹_›) (by decide) | exact leLt ‹_› ‹_› (by decide) | exact leLt ‹_› (And.right ‹_›) (by decide) | exact bd0 ‹_› (by decide) | exact bd0 (And.right ‹_›) (by decide) | omega)).mpr ⟨?_, by omega, by omega⟩
  rw [Int.mul_sub, Int.mul_neg, Int.mul_one]
  omega

theorem int_divmod_ok {m k b : Nat} {a : Int} (G : Gr g mg mb) (r : Room A (m + k + 12)) (h : DivFits k (if a < 0 then (-a - 1).toNat else a.toNat) b) : Fn prog w g mg A (nameAt 10) [.int a, .int b] (.tuple [.int (a / b), .int (a % b)]) := by
  by_cases ha : a < 0
  · rw [if_pos ha] at h
    generalize hq : (-a - 1).toNat = a' at h
    have hb := h.1
    obtain ⟨e1, e2⟩ := neg_div (a := a') (z := a) hb (by first | assumption | exact Nat.le_trans ‹_› (by decide) | exact Nat.le_trans (And.right ‹_›) (by decide) | exact mono2 (by decide) | exact Nat.add_le_add_left (by decide) _ | exact leEq ‹_› ‹_› (by decide) | exact leEq ‹_› (And.right ‹_›) (by decide) | exact leLt ‹_› ‹_› (by decide) | exact leLt ‹_› (And.right ‹_›) (by decide) | exact bd0 ‹_› (by decide) | exact bd0 (And.right ‹_›) (by decide) | omega)
    rw [e1, e2]
    refine Fn.of (names := ["a", "b"]) G (by decide) r.limit (fun pm code doc vs hl => ?_) rfl (by decide) ?_ (by decide) rfl rfl rfl fun pm code doc L fa V hc => ?_
    · obtain ⟨_, _, rfl⟩ := len2 hl; rfl
    · intro n hn; simp only [List.mem_cons, List.not_mem_nil, or_false] at hn; rcases hn with rfl | rfl <;> exact .inl rfl
    · conv => arg 9; whnf
      refine Ex.cons_ret (Ex1.ite (b := false) (fun c hc hg => EvT.cmp rfl (a := .int b) (b := .int 0) (Ev.name rfl rfl) Ev.int (intCmp_ok (by simp [intCmp]; omega))) (fun h => by cases h) fun _ => ?_)
      refine Ex.cons_ret (Ex1.ite (b := false) (fun c hc hg => EvT.cmp rfl (a := .int b) (b := .int 0) (Ev.name rfl rfl) Ev.int (intCmp_ok (by simp [intCmp]))) (fun h => by cases h) fun _ => ?_)
      refine Ex.cons_ret (Ex1.ite (b := true) (fun c hc hg => EvT.cmp rfl (a := .int a) (b := .int 0) (Ev.name rfl rfl) Ev.int (intCmp_ok (by simp [intCmp]; exact ha))) (fun _ => ?_) fun h => by cases h)
      have hnot : Builtin.bitNot a = (a' : Int) := by unfold Builtin.bitNot; omega
      refine Ex.cons_next (Ex1.assignTuple (d := .tuple [.int ((a' / b : Nat) : Int), .int ((a' % b : Nat) : Int)]) r.h rfl rfl ?_ fun c hc hg => Ev.callF (hg ▸ G.gnd) (by rw [hc]; rfl) rfl rfl
        (EvL.cons rfl (Ev.un (a := .int a) (d := .int a') (Ev.name rfl rfl) (unop_ok (by show some (T.int (Builtin.bitNot a)) = _; rw [hnot]))) (.cons rfl (Ev.name rfl rfl) .nil)) (hg ▸ int_divmod_nat (m := m) (k := k) G r.deeper h)) ?_
      · intro xs e z hz
        cases e
        simp only [List.mem_cons, List.not_mem_nil, or_false] at hz
        rcases hz with rfl | rfl <;> exact .inl rfl
      · exact Ex.cons_ret (Ex1.ret fun c _ _ => Ev.tuple (EvL.cons rfl (Ev.un (a := .int ((a' / b : Nat) : Int)) (Ev.name rfl rfl) (unop_ok rfl)) (.cons rfl (Ev.bin (a := .int b) (b := .int (-((a' % b : Nat) : Int) - 1)) (Ev.name rfl rfl) (Ev.un (a := .int ((a' % b : Nat) : Int)) (Ev.name rfl rfl) (unop_ok rfl)) (binop_ok rfl)) .nil)) (by show (2 : Nat) ≤ sizeLine; decide))
  · rw [if_neg ha] at h
    obtain ⟨a', rfl⟩ := Int.eq_ofNat_of_zero_le (Int.not_lt.mp ha)
    exact int_divmod_nat (m := m + 1) G (Room.mono r (by first | assumption | exact Nat.le_trans ‹_› (by decide) | exact Nat.le_trans (And.right ‹_›) (by decide) | exact mono2 (by decide) | exact Nat.add_le_add_left (by decide) _ | exact leEq ‹_› ‹_› (by decide) | exact leEq ‹_› (And.right ‹_›) (by decide) | exact leLt ‹_› ‹_› (by decide) | exact leLt ‹_› (And.right ‹_›) (by decide) | exact bd0 ‹_› (by decide) | exact bd0 (And.right ‹_›) (by decide) | omega)) h
end Mine
set_option maxRecDepth 10000
namespace Mine
open PySem PySem.Calls PySem.W

variable {prog : Program} {w : World} {A : Around} {g : Heap} {env : Env} {ow : List (Str × Addr)} {V : List Addr} {ρ : Str → Option B} {c : Cx} {mg mb : Str → Option Value}

/-- one step of the attribute's writing -/
def esc1 (y z x : Str) : Str := if (Builtin.Str.occurrences x y 0 x.length 1).isEmpty then x else Txt.replace x y z

theorem Ex.cons_esc {x y z : Str} {k1 k2 : Nat} {p1 p2 p3 p4 p5 p6 p7 p8 p9 p10 pos : Pos} {rest : List Stmt} {o : Out} (hh : Room A 4) (hk : env.kindOf "text" = some .local) (hx : ρ "text" = some (.v (.str x))) (hsz : x.length ≤ 1048576) (hz : z.length ≤ 14) (hyz : (y == z) = false) (hline : (p6.endLine == p9.line) = true)
    (h : ∀ ρ', ρ' "text" = some (.v (.str (esc1 y z x))) → Ex prog w A g env ow V ρ' rest o) :
    Ex prog w A g env ow V ρ (.If (.Compare (.Constant (.str y) k1 p1) [.In] [.Name "text" p2] p3) [.Assign [.Name "text" p4] (.Call (.Attribute (.Name "text" p5) "replace" p6) [.Constant (.str y) k1 p7, .Constant (.str z) k2 p8] [] p9) p10] [] pos :: rest) o := by
  have ht : ∀ b, (!(Builtin.Str.occurrences x y 0 x.length 1).isEmpty) = b → EvTE prog w A g env ρ (.Compare (.Constant (.str y) k1 p1) [.In] [.Name "text" p2] p3) b := fun b hb c hc hg =>
    EvT.cmp rfl (a := .str y) (b := .str x) Ev.str (Ev.name hx (by decide)) (.b hb in_str_ok)
  by_cases hb : (Builtin.Str.occurrences x y 0 x.length 1).isEmpty = true
  · refine Ex.cons_next (Ex1.ite (b := false) (ht false (by rw [hb]; rfl)) (fun h => by cases h) fun _ => Ex.nil) (h ρ ?_)
    unfold esc1; rw [if_pos hb]; exact hx
  · refine Ex.cons_next (Ex1.ite (b := true) (ht true (by simpa using hb)) (fun _ => Ex.cons_next (Ex1.assign (d := .str (Txt.replace x y z)) (swapsWith_plain rfl) (.inl hk) fun c hc hg => Ev.replace rfl hline hsz hz hyz (Ev.name hx (by decide))) Ex.nil) fun h => by cases h) (h _ ?_)
    unfold esc1; rw [if_neg hb]; unfold upd; rw [if_pos rfl]
end Mine
set_option maxRecDepth 10000
namespace Mine
open PySem PySem.Calls PySem.W

variable {prog : Program} {w : World} {A : Around} {g : Heap} {env : Env} {ow : List (Str × Addr)} {V : List Addr} {ρ : Str → Option B} {c : Cx} {mg mb : Str → Option Value}

def escTab : List (Str × Str) := [("&", "&amp;"), ("<", "&lt;"), ("\"", "&quot;"), ("\t", "&#x9;"), ("\n", "&#xA;"), ("\r", "&#xD;")]
def escAll (x : Str) : Str := escTab.foldl (fun x p => esc1 p.1 p.2 x) x
def EscFits (x : Str) : Prop := ∀ k, ((escTab.take k).foldl (fun x p => esc1 p.1 p.2 x) x).length ≤ 1048576

theorem escape_ok {n : Nat} {x : Str} (G : Gr g mg mb) (r : Room A (n + 6)) (hf : EscFits x) : Fn prog w g mg A (nameAt 15) [.str x] (.str (escAll x)) := by
  refine Fn.of (names := ["text"]) G (by decide) r.limit (fun pm code doc vs hl => ?_) rfl (by decide) ?_ (by decide) rfl rfl rfl fun pm code doc L fa V hc => ?_
  · obtain ⟨_, rfl⟩ := len1 hl; rfl
  · intro n hn; rw [List.mem_singleton.mp hn]; exact .inl rfl
  · conv => arg 9; whnf
    have r4 : Room (A.deeper (fenv 15 pm code doc L fa)) 4 := Room.mono r.deeper (by first | assumption | exact Nat.le_trans ‹_› (by decide) | exact Nat.le_trans (And.right ‹_›) (by decide) | exact mono2 (by decide) | exact Nat.add_le_add_left (by decide) _ | exact leEq ‹_› ‹_› (by decide) | exact leEq ‹_› (And.right ‹_›) (by decide) | exact leLt ‹_› ‹_› (by decide) | exact leLt ‹_› (And.right ‹_›) (by decide) | exact bd0 ‹_› (by decide) | exact bd0 (And.right ‹_›) (by decide) | omega)
    refine Ex.cons_ret (Ex1.try ?_)
    refine Ex.cons_esc r4 rfl rfl (hf 0) (by decide) (by decide) rfl fun ρ1 h1 => ?_
    refine Ex.cons_esc r4 rfl h1 (hf 1) (by decide) (by decide) rfl fun ρ2 h2 => ?_
    refine Ex.cons_esc r4 rfl h2 (hf 2) (by decide) (by decide) rfl fun ρ3 h3 => ?_
    refine Ex.cons_esc r4 rfl h3 (hf 3) (by decide) (by decide) rfl fun ρ4 h4 => ?_
    refine Ex.cons_esc r4 rfl h4 (hf 4) (by decide) (by decide) rfl fun ρ5 h5 => ?_
    refine Ex.cons_esc r4 rfl h5 (hf 5) (by decide) (by decide) rfl fun ρ6 h6 => ?_
    exact Ex.cons_ret (Ex1.ret fun c hc hg => Ev.name (by unfold dis; rw [h6]; rfl) rfl)
end Mine
set_option maxRecDepth 10000
namespace Mine
open PySem PySem.Calls PySem.W

variable {prog : Program} {w : World} {A : Around} {g : Heap} {env : Env} {ow : List (Str × Addr)} {V : List Addr} {ρ : Str → Option B} {c : Cx} {mg mb : Str → Option Value}

/-- Fn, where no decoder stands -/
def FnN (prog : Program) (w : World) (g : Heap) (mg : Str → Option Value) (A : Around) (f : Str) (args : List T) (d : T) : Prop :=
  ∃ fa o fd, mg f = some (.ref fa) ∧ g.get? fa = some o ∧ o.data = .func fd ∧
    ∀ (s : Shared) (X : List Addr) (vs : List Value) (Q : Value → Shared → Prop) (E : Value → Shared → Prop), (∀ b o, NT b o → g.get? b = some o → s.heap.get? b = some o) → Rs prog w s.heap X vs args → X.Nodup →
      (∀ b ∈ X, ∃ o, s.heap.get? b = some o ∧ XO o) → 1 ≤ s.toks → TI s.heap → (∀ v s', Kp0 s s' → R prog w s'.heap X v d → Q v s') → wpN (model prog w) A (call (.ref fa) vs) Q E s

theorem FnN.of {i : Nat} {names : List Str} {ds : List T} {d : T} (G : Gr g mg mb) (hi : i ∈ defIdx) (hroom : A.depth < recursionLimit)
    (hbind : ∀ pm code doc (vs : List Value), vs.length = ds.length → bindArgs (docDef (nameAt i) (paramsAt i) (bodyAt i) (scopeAt i) pm code doc) ⟨vs, []⟩ = pure (names.zip vs)) (hlen : names.length = ds.length) (hnd : names.Nodup)
    (hkind : ∀ n ∈ names, (scopeAt i).names.lookup n = some .local ∨ ((scopeAt i).names.lookup n = some .cell ∧ ∀ L, ((cellsFrom (L + 1) (scopeAt i).names []).lookup n).isSome = true))
    (hnn : ((scopeAt i).names.map (·.1)).Nodup) (hk : (scopeAt i).kind = .function) (hco : (scopeAt i).isCoroutine = false) (hgen : (scopeAt i).isGenerator = false)
    (hbody : ∀ pm code doc L a V, CodeF g i code → ExN prog w (A.deeper (fenv i pm code doc L a)) g (fenv i pm code doc L a) (fenv i pm code doc L a).cells V (pz names ds) (bodyAt i) (.ret d)) : FnN prog w g mg A (nameAt i) ds d := by
  obtain ⟨a, o, pm, code, doc, h1, h2, h3, h4, h5⟩ := G.fn i hi
  refine ⟨a, o, _, h1, h2, h3, fun s X vs Q E hg hr hX hXe htk hti hQ => ?_⟩
  have hb := hbind pm code doc vs hr.length
  refine wpN.call (codeN.call_function hroom (hg _ _ (.func h3) h2) h3 hco hgen rfl (h4.rec hg) ?_)
  rw [hb]
  refine wpAny_pure ?_
  refine withTok htk (wpAny_newFunctionEnv_cells hk ?_ fun env he s' x htk' => ?_)
  · rintro ⟨n, v⟩ hm
    have hn : n ∈ names := (List.of_mem_zip hm).1
    rcases hkind n hn with h | ⟨h, h'⟩
    · exact .inl h
    · exact .inr ⟨h, h' _⟩
  have he' : env = fenv i pm code doc s.heap.objs.size a := he
  subst he'
  refine ⟨(LimN G.gnd.nl hg).keeps x.toInCall.keep, codeN.func ?_⟩
  have F := InF.start (prog := prog) (w := w) hlen hnd hkind hnn hk hg hr hX hXe htk' hti x
  obtain ⟨hh, tk, he2⟩ := x.toInCall.same
  refine hbody pm code doc s.heap.objs.size a X h5 _ _ _ _ s' _ _ F fun v s'' t hp hv ti r => ?_
  refine hQ v s'' ?_ r
  obtain ⟨h2, t2, rfl⟩ := t
  subst he2
  exact ⟨h2, t2, rfl, fun b o n e => hp b o ⟨n, e⟩, fun _ => ti⟩
end Mine
set_option maxRecDepth 10000
namespace Mine
open PySem PySem.Calls PySem.W

variable {prog : Program} {w : World} {A : Around} {g : Heap} {env : Env} {ow : List (Str × Addr)} {V : List Addr} {ρ : Str → Option B} {c : Cx} {mg mb : Str → Option Value}

def swIn (data : Array UInt8) (width i : Nat) (js : List Nat) (b : Array UInt8) : Array UInt8 := js.foldl (fun b j => b.setIfInBounds (i + width - 1 - j) (data.getD (i + j) 0)) b
def swAll (data : Array UInt8) (width q : Nat) : Array UInt8 := (List.range q).foldl (fun b k => swIn data width (k * width) (List.range width) b) (Array.replicate data.size 0)
theorem swIn_size (data : Array UInt8) (width i : Nat) : ∀ (js : List Nat) (b : Array UInt8), (swIn data width i js b).size = b.size
  | [], b => rfl
  | j :: js, b => by
    show (swIn data width i js (b.setIfInBounds (i + width - 1 - j) (data.getD (i + j) 0))).size = _
    rw [swIn_size data width i js, Array.size_setIfInBounds]
theorem item_bytesN {b : Array UInt8} {k : Nat} (hk : k < b.size) (hz : b.size ≤ 1000000) : item (.bytes b) (.int k) = some (.int ((b.getD k 0).toNat : Int)) := by
  show (if 0 ≤ (k : Int) ∧ b.size ≤ 1000000 then (b[(k : Int).toNat]?).map fun u => T.int u.toNat else none) = _
  rw [if_pos ⟨by omega, hz⟩, Int.toNat_natCast, Array.getElem?_eq_getElem hk]
  simp [Array.getD, hk]

theorem rng_map (n : Nat) : rngT 0 1 n = (List.range n).map fun (j : Nat) => T.int (j : Int) := by
  unfold rngT
  refine List.map_congr_left fun i _ => ?_
  simp
theorem rng_map3 (n c : Nat) : rngT 0 c n = (List.range n).map fun (k : Nat) => T.int ((k * c : Nat) : Int) := by
  unfold rngT
  refine List.map_congr_left fun i _ => ?_
  simp

theorem Ex.for_ex {tgt iter : Expr} {body : List Stmt} {pos : Pos} {ds : List T} (Iv : List T → (Str → Option B) → Prop) (hh : A.handled = none) (hg : Gives prog w A g env ρ tgt iter ds) (h0 : Iv ds ρ)
    (hstep : ∀ d rest ρ, Iv (d :: rest) ρ → ∃ ρ₁ ρ', bindT tgt d ρ = some ρ₁ ∧ (∀ V, Ex prog w A g env ow V ρ₁ body (.next ρ')) ∧ Iv rest ρ')
    (hk : tgtOk ow env tgt) (hn : (∃ x p, tgt = .Name x p) → ∀ d ∈ ds, notTup d = true) (hs : ∀ x, foldedSetIterable iter env x = pure x := by intro _; rfl) : ∃ ρ', (∀ V, Ex prog w A g env ow V ρ [.For tgt iter body [] pos] (.next ρ')) ∧ Iv [] ρ' := by
  obtain ⟨ρ', hL, hI⟩ := Loop.inv (step := Step prog w A g env ow tgt body) (Iv := Iv) (fun d rest ρ h => by
    obtain ⟨ρ₁, ρ', h1, h2, h3⟩ := hstep d rest ρ h
    exact ⟨ρ', ⟨ρ₁, h1, h2⟩, h3⟩) h0
  exact ⟨ρ', fun V => Ex.cons_next (Ex1.for hh hk hs hg (fun x p e X h v d hd ir => hn_of (hn ⟨x, p, e⟩) h X v d hd ir) hL) Ex.nil, hI⟩

theorem Ex.step_for {tgt0 : Expr} {d0 : T} {ρ₁ : Str → Option B} {J : (Str → Option B) → Prop} {tgt iter : Expr} {body : List Stmt} {pos : Pos} {ds : List T} (hb : bindT tgt0 d0 ρ = some ρ₁) (Iv : List T → (Str → Option B) → Prop) (hJ : ∀ ρ', Iv [] ρ' → J ρ') (hh : A.handled = none) (hk : tgtOk ow env tgt) (hg : Gives prog w A g env ρ₁ tgt iter ds) (h0 : Iv ds ρ₁)
    (hstep : ∀ d rest ρ, Iv (d :: rest) ρ → ∃ ρ₁ ρ', bindT tgt d ρ = some ρ₁ ∧ (∀ V, Ex prog w A g env ow V ρ₁ body (.next ρ')) ∧ Iv rest ρ')
    (hn : (∃ x p, tgt = .Name x p) → ∀ d ∈ ds, notTup d = true) (hs : ∀ x, foldedSetIterable iter env x = pure x := by intro _; rfl) : ∃ ρ₁ ρ', bindT tgt0 d0 ρ = some ρ₁ ∧ (∀ V, Ex prog w A g env ow V ρ₁ [.For tgt iter body [] pos] (.next ρ')) ∧ J ρ' := by
  obtain ⟨ρ', h1, h2⟩ := Ex.for_ex (pos := pos) Iv hh hg h0 hstep hk hn hs
  exact ⟨ρ₁, ρ', hb, h1, hJ _ h2⟩

theorem byteswap_ok {m q width : Nat} {data : Array UInt8} (G : Gr g mg mb) (r : Room A (m + 6)) (hgd : A.guards = some []) (hw : 1 ≤ width) (hsz : data.size = q * width) (hz : data.size ≤ 1000000) (hw2 : width ≤ 1000000) (hq : Builtin.Range.rangeSize 0 (data.size : Int) (width : Int) = (q : Int)) :
    FnN prog w g mg A (nameAt 12) [.bytes data, .int width] (.bytes (swAll data width q)) := by
  refine FnN.of (names := ["data", "width"]) G (by decide) r.limit (fun pm code doc vs hl => ?_) rfl (by decide) ?_ (by decide) rfl rfl rfl fun pm code doc L fa V hc => ?_
  · obtain ⟨_, _, rfl⟩ := len2 hl; rfl
  · intro n hn; simp only [List.mem_cons, List.not_mem_nil, or_false] at hn; rcases hn with rfl | rfl <;> exact .inl rfl
  · conv => arg 9; whnf
    refine ExN.cons_next (Ex1N.assignNew (d := .barr (Array.replicate data.size 0)) rfl (.inl rfl) fun c hc hg => EvNewN.bytearray (hg ▸ G) hgd hz (by rw [hc]; rfl) rfl (Ev.callG (hg ▸ G) (by decide) (by rw [hc]; rfl) rfl rfl rfl rfl (EvL.cons rfl (Ev.name rfl rfl) .nil) (len_bytes_ok hz))) (.of ?_)
    refine Ex.for_inv (ds := rngT 0 width q) (fun rest ρ => ∃ (ks : List Nat) (b : Array UInt8), rest = ks.map (fun k => T.int ((k * width : Nat) : Int)) ∧ (∀ k ∈ ks, k < q) ∧ ρ "swapped_data" = some (.o (.barr b)) ∧ ρ "data" = some (.v (.bytes data)) ∧ ρ "width" = some (.v (.int width)) ∧ b.size = data.size ∧
        ks.foldl (fun b k => swIn data width (k * width) (List.range width) b) b = swAll data width q) r.h
      (GivesC.gives fun c hc hg => GivesC.range3 (a := 0) (b := data.size) (cc := width) r.h (hg ▸ G.gnd) (by rw [hc]; rfl) (G.bi "range" (by decide)).1 ((G.bi "range" (by decide)).2.trans rfl) rfl rfl rfl Ev.int (Ev.callG (hg ▸ G) (by decide) (by rw [hc]; rfl) rfl rfl rfl rfl (EvL.cons rfl (Ev.name rfl rfl) .nil) (len_bytes_ok hz)) (Ev.name rfl rfl) (by first | assumption | exact Nat.le_trans ‹_› (by decide) | exact Nat.le_trans (And.right ‹_›) (by decide) | exact mono2 (by decide) | exact Nat.add_le_add_left (by decide) _ | exact leEq ‹_› ‹_› (by decide) | exact leEq ‹_› (And.right ‹_›) (by decide) | exact leLt ‹_› ‹_› (by decide) | exact leLt ‹_› (And.right ‹_›) (by decide) | exact bd0 ‹_› (by decide) | exact bd0 (And.right ‹_›) (by decide) | omega) (by first | assumption | exact Nat.le_trans ‹_› (by decide) | exact Nat.le_trans (And.right ‹_›) (by decide) | exact mono2 (by decide) | exact Nat.add_le_add_left (by decide) _ | exact leEq ‹_› ‹_› (by decide) | exact leEq ‹_› (And.right ‹_›) (by decide) | exact leLt ‹_› ‹_› (by decide) | exact leLt ‹_› (And.right ‹_›) (by decide) | exact bd0 ‹_› (by decide) | exact bd0 (And.right ‹_›) (by decide) | omega) (by first | assumption | exact Nat.le_trans ‹_› (by decide) | exact Nat.le_trans (And.right ‹_›) (by decide) | exact mono2 (by decide) | exact Nat.add_le_add_left (by decide) _ | exact leEq ‹_› ‹_› (by decide) | exact leEq ‹_› (And.right ‹_›) (by decide) | exact leLt ‹_› ‹_› (by decide) | exact leLt ‹_› (And.right ‹_›) (by decide) | exact bd0 ‹_› (by decide) | exact bd0 (And.right ‹_›) (by decide) | omega) hq)
      ⟨List.range q, _, rng_map3 q width, fun k hk => List.mem_range.mp hk, rfl, rfl, rfl, by simp, rfl⟩ ?_ ?_ (.inl rfl) (fun _ d hd => by rw [rng_map3] at hd; obtain ⟨z, _, rfl⟩ := List.mem_map.mp hd; rfl)
    · rintro d rest ρ ⟨ks, b, hAll⟩
      refine an7 hAll fun h1 h2 h3 h4 h5 h6 h7 => ?_
      cases ks with
      | nil => cases h1
      | cons k ks =>
        simp only [List.map_cons, List.cons.injEq] at h1
        obtain ⟨rfl, rfl⟩ := h1
        have hkq : k * width + width ≤ data.size := by
          have := Nat.mul_le_mul_right width (Nat.succ_le_of_lt (h2 k (.head _)))
          rw [Nat.succ_mul] at this; omega
        refine Ex.step_for (ds := rngT 0 1 width) (ρ₁ := upd ρ "i" (.v (.int ((k * width : Nat) : Int)))) rfl
          (fun rest ρ => ∃ (js : List Nat) (b' : Array UInt8), rest = js.map (fun (j : Nat) => T.int (j : Int)) ∧ (∀ j ∈ js, j < width) ∧ ρ "swapped_data" = some (.o (.barr b')) ∧ ρ "data" = some (.v (.bytes data)) ∧ ρ "width" = some (.v (.int width)) ∧ ρ "i" = some (.v (.int ((k * width : Nat) : Int))) ∧ b'.size = data.size ∧
            swIn data width (k * width) js b' = swIn data width (k * width) (List.range width) b) (fun ρ' hI => ?_) r.h (.inl rfl)
          (GivesC.gives fun c hc hg => GivesC.range1 r.h (hg ▸ G.gnd) (by rw [hc]; rfl) (G.bi "range" (by decide)).1 ((G.bi "range" (by decide)).2.trans rfl) rfl (Ev.name h5 rfl) (by first | assumption | exact Nat.le_trans ‹_› (by decide) | exact Nat.le_trans (And.right ‹_›) (by decide) | exact mono2 (by decide) | exact Nat.add_le_add_left (by decide) _ | exact leEq ‹_› ‹_› (by decide) | exact leEq ‹_› (And.right ‹_›) (by decide) | exact leLt ‹_› ‹_› (by decide) | exact leLt ‹_› (And.right ‹_›) (by decide) | exact bd0 ‹_› (by decide) | exact bd0 (And.right ‹_›) (by decide) | omega))
          ⟨List.range width, b, rng_map width, fun j hj => List.mem_range.mp hj, h3, h4, h5, rfl, h6, rfl⟩ (fun d rest ρ hI => ?_) (fun _ d hd => by rw [rng_map] at hd; obtain ⟨z, _, rfl⟩ := List.mem_map.mp hd; rfl)
        · obtain ⟨js, b', hAll⟩ := hI
          refine an8 hAll fun f1 f2 f3 f4 f5 f6 f7 f8 => ?_
          have hj0 : js = [] := by cases js with | nil => rfl | cons => cases f1
          subst hj0
          have f8' : b' = swIn data width (k * width) (List.range width) b := f8
          exact ⟨ks, b', rfl, fun z hz => h2 z (.tail _ hz), f3, f4, f5, f7, by rw [f8']; exact h7⟩
        · obtain ⟨js, b', hAll⟩ := hI
          refine an8 hAll fun f1 f2 f3 f4 f5 f6 f7 f8 => ?_
          cases js with
          | nil => cases f1
          | cons j js =>
            simp only [List.map_cons, List.cons.injEq] at f1
            obtain ⟨rfl, rfl⟩ := f1
            have hj := f2 j (.head _)
            refine ⟨_, _, rfl, fun V => Ex.cons_next (Ex1.setBarr (b := b') (k := k * width + width - 1 - j) (y := ((data.getD (k * width + j) 0).toNat : Int)) rfl f3 rfl (fun c _ _ => ?_) (fun c _ _ => ?_) (by first | assumption | exact Nat.le_trans ‹_› (by decide) | exact Nat.le_trans (And.right ‹_›) (by decide) | exact mono2 (by decide) | exact Nat.add_le_add_left (by decide) _ | exact leEq ‹_› ‹_› (by decide) | exact leEq ‹_› (And.right ‹_›) (by decide) | exact leLt ‹_› ‹_› (by decide) | exact leLt ‹_› (And.right ‹_›) (by decide) | exact bd0 ‹_› (by decide) | exact bd0 (And.right ‹_›) (by decide) | omega) ⟨by omega, by have := (data.getD (k * width + j) 0).toNat_lt; omega⟩ (by first | assumption | exact Nat.le_trans ‹_› (by decide) | exact Nat.le_trans (And.right ‹_›) (by decide) | exact mono2 (by decide) | exact Nat.add_le_add_left (by decide) _ | exact leEq ‹_› ‹_› (by decide) | exact leEq ‹_› (And.right ‹_›) (by decide) | exact leLt ‹_› ‹_› (by decide) | exact leLt ‹_› (And.right ‹_›) (by decide) | exact bd0 ‹_› (by decide) | exact bd0 (And.right ‹_›) (by decide) | omega)) Ex.nil, js, b'.setIfInBounds (k * width + width - 1 - j) (data.getD (k * width + j) 0), rfl, fun z hz => f2 z (.tail _ hz), ?_, f4, f5, f6, ?_, f8⟩
            · exact Ev.sub (a := .bytes data) (b := .int ((k * width + j : Nat) : Int)) rfl (Ev.name f4 rfl) (Ev.bin (a := .int ((k * width : Nat) : Int)) (b := .int j) (Ev.name f6 rfl) (Ev.name rfl rfl) (binop_ok (by show some (T.int _) = some (T.int _); congr 2))) (item_ok (item_bytesN (by first | assumption | exact Nat.le_trans ‹_› (by decide) | exact Nat.le_trans (And.right ‹_›) (by decide) | exact mono2 (by decide) | exact Nat.add_le_add_left (by decide) _ | exact leEq ‹_› ‹_› (by decide) | exact leEq ‹_› (And.right ‹_›) (by decide) | exact leLt ‹_› ‹_› (by decide) | exact leLt ‹_› (And.right ‹_›) (by decide) | exact bd0 ‹_› (by decide) | exact bd0 (And.right ‹_›) (by decide) | omega) hz))
            · refine Ev.bin (a := .int ((k * width : Nat) + (width : Int) - 1)) (b := .int j) (Ev.bin (a := .int ((k * width : Nat) + (width : Int))) (b := .int 1) (Ev.bin (a := .int ((k * width : Nat) : Int)) (b := .int width) (Ev.name f6 rfl) (Ev.name f5 rfl) (binop_ok rfl)) Ev.int (binop_ok rfl)) (Ev.name rfl rfl) (binop_ok ?_)
              show some (T.int _) = some (T.int _)
              congr 2; omega
            · unfold upd; simp
            · rw [Array.size_setIfInBounds]; exact f7
    · rintro ρ' ⟨ks, b, hAll⟩
      refine an7 hAll fun h1 h2 h3 h4 h5 h6 h7 => ?_
      have hl0 : ks = [] := by cases ks with | nil => rfl | cons => cases h1
      subst hl0
      have h7' : b = swAll data width q := h7
      rw [← h7']
      exact Ex.cons_ret (Ex1.ret fun c hc hg => Ev.callG (hg ▸ G) (by decide) (by rw [hc]; rfl) rfl rfl rfl rfl (EvL.cons rfl (Ev.name (d := .barr b) (by unfold dis; rw [h3]) rfl) .nil) (bytes_barr_ok (by first | assumption | exact Nat.le_trans ‹_› (by decide) | exact Nat.le_trans (And.right ‹_›) (by decide) | exact mono2 (by decide) | exact Nat.add_le_add_left (by decide) _ | exact leEq ‹_› ‹_› (by decide) | exact leEq ‹_› (And.right ‹_›) (by decide) | exact leLt ‹_› ‹_› (by decide) | exact leLt ‹_› (And.right ‹_›) (by decide) | exact bd0 ‹_› (by decide) | exact bd0 (And.right ‹_›) (by decide) | omega)))
end Mine
set_option maxRecDepth 10000
namespace Mine
open PySem PySem.Calls PySem.W

variable {prog : Program} {w : World} {A : Around} {g : Heap} {env : Env} {ow : List (Str × Addr)} {V : List Addr} {ρ : Str → Option B} {c : Cx} {mg mb : Str → Option Value}

theorem wpN.keepM {α : Type} {M : Model} {E : Value → Shared → Prop} {s : Shared} {vs : List Value} {m : Sem α} {Q : α → Shared → Prop} (h : wpN M A m Q E s) : wpN M A (m.keep vs) Q E s := fun Γ p hΓ h1 h2 => by rw [Sem.wp_keep]; exact h Γ p hΓ h1 h2
theorem callWith_functionN {M : Model} {E : Value → Shared → Prop} {s : Shared} {pos : Pos} {a : Addr} {o : Obj} {fd : FuncData} {first : List Value} {args : List (Bool × Sem Value)} {Q : Value → Shared → Prop} (hplain : args.any (·.1) = false)
    (h : wpAny M A (evalArgs (.ref a) true args []) (fun x s₁ => (s₁.heap.get? a = some o ∧ o.data = .func fd) ∧ wpN M A (call (.ref a) (first ++ x.pos) x.kw) Q E s₁) E s) : wpN M A (callWith pos (.ref a) first args []) Q E s := by
  unfold callWith
  refine wpN.bindAny (wpAny_holding (wpAny_mono h (fun x s₁ h₁ => wpN.standAt ?_) fun _ _ x => x))
  simp only [hplain, List.any_nil, Bool.or_false]
  refine wpN.bindAny (m := keeperOf (.ref a)) ?_
  unfold keeperOf
  refine wpAny_bind (wpAny_load h₁.1.1 ?_)
  rw [h₁.1.2]
  refine wpAny_pure ?_
  have tail : ∀ {t : Sem Value}, wpN M A t Q E s₁ → wpN M A (t >>= fun r => holding [r] point >>= fun _ => pure r) Q E s₁ :=
    fun ht => wpN.bind (ht.mono (fun r s₂ hr => wpN.of (wpAny_bind (wpAny_holding (wpAny_point (wpAny_pure hr))))) fun _ _ x => x)
  have mk : ∀ {m : Value}, wpN M A (callMarked m (.ref a) (first ++ x.pos) x.kw) Q E s₁ := fun {m} => by
    unfold callMarked; exact wpN.keepM h₁.2
  repeat' split
  all_goals first
    | exact tail h₁.2
    | exact tail mk
    | contradiction

theorem EvN.callF {f : Str} {p pos : Pos} {args : List Expr} {ds : List T} {d : T} {mg mb : Str → Option Value} (hg : Gnd c.g mg mb)
    (hk : c.env.kindOf f = some .globalImplicit) (hn : plainName f = true) (hu : args.all unstarred = true)
    (hL : EvL prog w A c ρ pos args ds) (ho : FnN prog w c.g mg A f ds d) : EvN prog w A c ρ (.Call (.Name f p) args [] pos) d := fun s Q E F hq => by
  obtain ⟨fa, o, fd, hv, hob, hod, hc⟩ := ho
  rw [eval_Call_plain rfl]
  refine wpN.bindAny (load_global hg F hk hn (.inl hv) ?_)
  refine callWith_functionN (o := o) (fd := fd) (backTo_plain hu).1 (evalArgs_L hu hL F fun vs s1 k1 r1 => ⟨⟨(F.keep k1).ground _ _ (.func hod) hob, hod⟩, ?_⟩)
  exact wpN.toks (F.keep k1).tk (hc s1 c.X vs _ E (F.keep k1).ground r1 F.nd (F.keep k1).ex (F.keep k1).tk (F.keep k1).ti fun v s2 k2 r2 t2 => hq v s2 (k1.trans (k2.up t2)) r2)
end Mine
set_option maxRecDepth 10000
namespace Mine
open PySem PySem.Calls PySem.W

variable {prog : Program} {w : World} {A : Around} {g : Heap} {env : Env} {ow : List (Str × Addr)} {V : List Addr} {ρ : Str → Option B} {c : Cx} {mg mb : Str → Option Value}

theorem CompOk.mk' {scope : Scope} {cl : List (Str × Addr)} {x : Str} (h1 : closureFor scope env = pure cl) (h2 : scope.kind = .function) (h3 : ∀ y ∈ scope.names, y.2 = .local → scope.names.lookup y.1 = some .local)
    (h4 : scope.names.lookup x = some .local ∨ (scope.names.lookup x = some .cell ∧ ∀ C, ∃ a, (cellsFrom (C + 1) scope.names []).lookup x = some a)) (h5 : (cl.map (·.1)).Nodup)
    (h6 : ∀ p ∈ cl, env.cells.lookup p.1 = some p.2 ∧ scope.names.lookup p.1 = some .free ∧ (env.kindOf p.1 = some .cell ∨ env.kindOf p.1 = some .free) ∧ ∀ C, (cellsFrom (C + 1) scope.names []).lookup p.1 = none) : CompOk env scope cl x where
  clos := h1
  kind := h2
  names := h3
  x := h4
  cln := h5
  cls := fun p hp => (h6 p hp).1
  clk := fun n a e => (h6 (n, a) (mem_of_lookup e)).2

theorem CL.map {α : Type} {mk : Addr → Env} {x : Str} {elt : Expr} (gi f : α → T) : ∀ (is : List α), (∀ i ∈ is, ∀ C, EvE prog w A g (mk C) (upd ρ x (.v (gi i))) elt (f i)) → CL prog w A g mk x [] elt ρ (is.map gi) (is.map f)
  | [], _ => .nil
  | i :: is, h => CL.cons (y := some (f i)) ⟨⟨true, fun C c hc hg => .nil, .inr ⟨_, rfl, rfl, h i (.head _)⟩⟩⟩ (CL.map gi f is fun j hj => h j (.tail _ hj))
theorem CL.filter {α : Type} {mk : Addr → Env} {x : Str} {elt t : Expr} (p : α → Bool) (gi f : α → T) : ∀ (is : List α), (∀ i ∈ is, ∀ C (c : Cx), c.env = mk C → c.g = g → EvT prog w A c (upd ρ x (.v (gi i))) t (p i)) →
    (∀ i ∈ is, p i = true → ∀ C, EvE prog w A g (mk C) (upd ρ x (.v (gi i))) elt (f i)) → CL prog w A g mk x [t] elt ρ (is.map gi) ((is.filter p).map f)
  | [], _, _ => .nil
  | i :: is, ht, h => by
    have ih := CL.filter p gi f is (fun j hj => ht j (.tail _ hj)) fun j hj => h j (.tail _ hj)
    cases hp : p i with
    | true =>
      rw [List.filter_cons_of_pos hp, List.map_cons, List.map_cons]
      exact CL.cons (y := some (f i)) ⟨⟨true, fun C c hc hg => .one (hp ▸ ht i (.head _) C c hc hg), .inr ⟨_, rfl, rfl, h i (.head _) hp⟩⟩⟩ ih
    | false =>
      rw [List.filter_cons_of_neg (by simp [hp]), List.map_cons]
      exact CL.cons (y := none) ⟨⟨false, fun C c hc hg => .one (hp ▸ ht i (.head _) C c hc hg), .inl ⟨rfl, rfl⟩⟩⟩ ih
theorem vput_new {es : List (Int × T)} {k : Int} {v : T} (h : k ∉ es.map (·.1)) : vput es k v = es ++ [(k, v)] := by
  unfold vput
  rw [if_neg]
  simp only [List.any_eq_true, decide_eq_true_eq, not_exists, not_and]
  intro e he hk
  exact h (List.mem_map.mpr ⟨e, he, hk⟩)
theorem CD.map {α : Type} {mk : Addr → Env} {x : Str} {kx vx : Expr} (gi : α → T) (key : α → Int) (f : α → T) : ∀ (is : List α) (es : List (Int × T)), (es.map (·.1) ++ is.map key).Nodup →
    (∀ i ∈ is, (∀ C, EvE prog w A g (mk C) (upd ρ x (.v (gi i))) kx (.int (key i))) ∧ ∀ C, EvE prog w A g (mk C) (upd ρ x (.v (gi i))) vx (f i)) → CD prog w A g mk x kx vx ρ es (is.map gi) (es ++ is.map fun i => (key i, f i))
  | [], es, _, _ => by simpa using CD.nil
  | i :: is, es, hn, h => by
    have hk : key i ∉ es.map (·.1) := fun hm => by
      rw [List.map_cons] at hn
      exact (List.nodup_append.mp hn).2.2 _ hm _ (.head _) rfl
    refine CD.cons (h i (.head _)) ?_
    rw [vput_new hk]
    have := CD.map gi key f is (es ++ [(key i, f i)]) (by simpa [List.map_append, List.append_assoc] using hn) fun j hj => h j (.tail _ hj)
    simpa [List.append_assoc] using this
theorem inn_at {cl : List (Str × Addr)} {y : Str} {a : Addr} {d : T} (h : cl.lookup y = some a) (h' : ρ y = some (.v d)) : inn cl ρ y = some (.v d) := by
  unfold inn; rw [h, h']
theorem upd_ne {x y : Str} {b : B} (h : (y == x) = false) : upd ρ x b y = ρ y := by
  unfold upd; rw [if_neg]; intro e; subst e; simp at h
theorem inn_upd {cl : List (Str × Addr)} {x y : Str} {a : Addr} {d e : T} (hne : (y == x) = false) (h : cl.lookup y = some a) (h' : ρ y = some (.v d)) : upd (inn cl ρ) x (.v e) y = some (.v d) := by
  rw [upd_ne hne]; exact inn_at h h'
theorem hn_map {α : Type} {gi : α → T} {is : List α} (h : ∀ i, notTup (gi i) = true) : ∀ h X v d, d ∈ is.map gi → ItR prog w h h X v d → R prog w h X v d :=
  hn_of fun d hd => by obtain ⟨i, _, rfl⟩ := List.mem_map.mp hd; exact h i
theorem shl' {x y : Int} {n : Nat} (hy : y = n) (h : n ≤ 100000) (hx : bits x ≤ 100000) : binop .LShift (.int x) (.int y) = some (.int (x * 2 ^ n)) := by subst hy; exact shlN ⟨h, hx⟩
theorem mod' {x y : Int} (h : y ≠ 0) : binop .Mod (.int x) (.int y) = some (.int (x.fmod y)) := if_pos h
theorem intsOf_map {α : Type} (f : α → Int) : ∀ (l : List α), intsOf (l.map fun i => T.int (f i)) = some (l.map f)
  | [] => rfl
  | i :: l => by show (intsOf (l.map fun i => T.int (f i))).map (f i :: ·) = _; rw [intsOf_map f l]; rfl

def rowOf (a width : Nat) (modulus : Int) : List Int := (dig width a (cntD a width)).map fun d => (d - 2 ^ (width - 1)).fmod modulus

theorem law_row_ok {m k a degree width : Nat} {number modulus : Int} (G : Gr g mg mb) (r : Room A (m + k + 4)) (hw : 0 < width) (hw2 : width ≤ 200) (hd : degree ≤ 20) (ha : number + ((List.range (degree + 1)).map fun k => (2 ^ (width - 1) * 2 ^ (width * k) : Int)).sum = a)
    (hcnt : cntD a width ≤ 100) (hk : cntD a width ≤ 2 ^ k) (hm : modulus ≠ 0) :
    Fn prog w g mg A (nameAt 18) [.int number, .int degree, .int width, .int modulus] (.list ((rowOf a width modulus).map .int)) := by
  refine Fn.of (names := ["number", "degree", "width", "modulus"]) G (by decide) r.limit (fun pm code doc vs hl => ?_) rfl (by decide) ?_ (by decide) rfl rfl rfl fun pm code doc L fa V hcode => ?_
  · obtain ⟨_, _, _, _, rfl⟩ := len4 hl; rfl
  · intro n hn; simp only [List.mem_cons, List.not_mem_nil, or_false] at hn; rcases hn with rfl | rfl | rfl | rfl
    · exact .inl rfl
    · exact .inl rfl
    · exact .inr ⟨rfl, fun _ => rfl⟩
    · exact .inr ⟨rfl, fun _ => rfl⟩
  · conv => arg 9; whnf
    have hh : bits (2 ^ (width - 1) : Int) ≤ width := bits_le (by
      rw [Int.natAbs_pow]; exact Nat.pow_lt_pow_right (by decide) (by first | assumption | exact Nat.le_trans ‹_› (by decide) | exact Nat.le_trans (And.right ‹_›) (by decide) | exact mono2 (by decide) | exact Nat.add_le_add_left (by decide) _ | exact leEq ‹_› ‹_› (by decide) | exact leEq ‹_› (And.right ‹_›) (by decide) | exact leLt ‹_› ‹_› (by decide) | exact leLt ‹_› (And.right ‹_›) (by decide) | exact bd0 ‹_› (by decide) | exact bd0 (And.right ‹_›) (by decide) | omega))
    refine Ex.cons_next (Ex1.assign (d := .int (2 ^ (width - 1))) (swapsWith_plain rfl) (.inr ⟨rfl, _, rfl, rfl⟩) fun c hc hg => Ev.bin (a := .int 1) (b := .int ((width : Int) - 1)) Ev.int (Ev.bin (Ev.name rfl rfl) Ev.int (binop_ok rfl)) (binop_ok (by
      rw [shl' (n := width - 1) (by first | assumption | exact Nat.le_trans ‹_› (by decide) | exact Nat.le_trans (And.right ‹_›) (by decide) | exact mono2 (by decide) | exact Nat.add_le_add_left (by decide) _ | exact leEq ‹_› ‹_› (by decide) | exact leEq ‹_› (And.right ‹_›) (by decide) | exact leLt ‹_› ‹_› (by decide) | exact leLt ‹_› (And.right ‹_›) (by decide) | exact bd0 ‹_› (by decide) | exact bd0 (And.right ‹_›) (by decide) | omega) (by first | assumption | exact Nat.le_trans ‹_› (by decide) | exact Nat.le_trans (And.right ‹_›) (by decide) | exact mono2 (by decide) | exact Nat.add_le_add_left (by decide) _ | exact leEq ‹_› ‹_› (by decide) | exact leEq ‹_› (And.right ‹_›) (by decide) | exact leLt ‹_› ‹_› (by decide) | exact leLt ‹_› (And.right ‹_›) (by decide) | exact bd0 ‹_› (by decide) | exact bd0 (And.right ‹_›) (by decide) | omega) (by decide), Int.one_mul]))) ?_
    refine Ex.cons_next (Ex1.assign (d := .int a) (swapsWith_plain rfl) (.inl rfl) fun c hc hg => Ev.bin (a := .int number) (b := .int ((List.range (degree + 1)).map fun k => (2 ^ (width - 1) * 2 ^ (width * k) : Int)).sum) (Ev.name rfl rfl)
      (Ev.callG (hg ▸ G) (by decide) (by rw [hc]; rfl) rfl rfl rfl rfl (EvL.cons (d := .list ((List.range (degree + 1)).map fun k => T.int (2 ^ (width - 1) * 2 ^ (width * k)))) rfl ?_ .nil) (sum_ok r.h (intsOf_map _ _))) (binop_ok (by show some (T.int _) = _; rw [ha]))) ?_
    · have hds := rng_map (degree + 1)
      refine Ev.listComp (ds := rngT 0 1 (degree + 1)) (cl := [(("width" : Str), L + 1), (("half" : Str), L + 3)]) (CompOk.mk' (by rw [hc]; rfl) rfl (by decide) (.inl rfl) (show [("width" : Str), "half"].Nodup by decide) (by rw [hc]; exact List.forall_mem_cons.mpr ⟨⟨rfl, rfl, .inl rfl, fun _ => rfl⟩, List.forall_mem_cons.mpr ⟨⟨rfl, rfl, .inl rfl, fun _ => rfl⟩, fun _ h => nomatch h⟩⟩)) (fun _ => rfl)
        (GivesC.range1 r.h (hg ▸ G.gnd) (by rw [hc]; rfl) (G.bi "range" (by decide)).1 ((G.bi "range" (by decide)).2.trans rfl) rfl (Ev.bin (a := .int degree) (b := .int 1) (Ev.name rfl rfl) Ev.int (binop_ok rfl)) (by first | assumption | exact Nat.le_trans ‹_› (by decide) | exact Nat.le_trans (And.right ‹_›) (by decide) | exact mono2 (by decide) | exact Nat.add_le_add_left (by decide) _ | exact leEq ‹_› ‹_› (by decide) | exact leEq ‹_› (And.right ‹_›) (by decide) | exact leLt ‹_› ‹_› (by decide) | exact leLt ‹_› (And.right ‹_›) (by decide) | exact bd0 ‹_› (by decide) | exact bd0 (And.right ‹_›) (by decide) | omega)) (hds ▸ hn_map fun _ => rfl) ?_ (by rw [hds]; simp; omega)
      rw [hds]
      refine CL.map _ _ _ fun k hk C c' hc' hg' => ?_
      refine Ev.bin (a := .int (2 ^ (width - 1))) (b := .int (width * k : Nat)) (Ev.name rfl rfl) (Ev.bin (a := .int width) (b := .int k) (Ev.name rfl rfl) (Ev.name rfl rfl) (binop_ok ?_)) (binop_ok (shl' rfl ?_ (by first | assumption | exact Nat.le_trans ‹_› (by decide) | exact Nat.le_trans (And.right ‹_›) (by decide) | exact mono2 (by decide) | exact Nat.add_le_add_left (by decide) _ | exact leEq ‹_› ‹_› (by decide) | exact leEq ‹_› (And.right ‹_›) (by decide) | exact leLt ‹_› ‹_› (by decide) | exact leLt ‹_› (And.right ‹_›) (by decide) | exact bd0 ‹_› (by decide) | exact bd0 (And.right ‹_›) (by decide) | omega)))
      · rw [mulN ⟨Nat.le_trans (bitsN_le (k := 20) (by first | assumption | exact Nat.le_trans ‹_› (by decide) | exact Nat.le_trans (And.right ‹_›) (by decide) | exact mono2 (by decide) | exact Nat.add_le_add_left (by decide) _ | exact leEq ‹_› ‹_› (by decide) | exact leEq ‹_› (And.right ‹_›) (by decide) | exact leLt ‹_› ‹_› (by decide) | exact leLt ‹_› (And.right ‹_›) (by decide) | exact bd0 ‹_› (by decide) | exact bd0 (And.right ‹_›) (by decide) | omega)) (by decide), Nat.le_trans (bitsN_le (k := 20) (by have := List.mem_range.mp hk; omega)) (by decide)⟩]; simp
      · have := List.mem_range.mp hk
        calc width * k ≤ 200 * 20 := Nat.mul_le_mul hw2 (by first | assumption | exact Nat.le_trans ‹_› (by decide) | exact Nat.le_trans (And.right ‹_›) (by decide) | exact mono2 (by decide) | exact Nat.add_le_add_left (by decide) _ | exact leEq ‹_› ‹_› (by decide) | exact leEq ‹_› (And.right ‹_›) (by decide) | exact leLt ‹_› ‹_› (by decide) | exact leLt ‹_› (And.right ‹_›) (by decide) | exact bd0 ‹_› (by decide) | exact bd0 (And.right ‹_›) (by decide) | omega)
          _ ≤ 100000 := by decide
    · refine Ex.cons_ret (Ex1.ret fun c hc hg => ?_)
      have e : ((rowOf a width modulus).map T.int) = (dig width a (cntD a width)).map fun d => T.int ((d - 2 ^ (width - 1)).fmod modulus) := by simp [rowOf]
      rw [e]
      have hz : width * cntD a width ≤ 20000 := Nat.le_trans (Nat.mul_le_mul hw2 hcnt) (by decide)
      refine Ev.listComp (cl := [(("modulus" : Str), L + 2), (("half" : Str), L + 3)]) (CompOk.mk' (by rw [hc]; rfl) rfl (by decide) (.inl rfl) (show [("modulus" : Str), "half"].Nodup by decide) (by rw [hc]; exact List.forall_mem_cons.mpr ⟨⟨rfl, rfl, .inl rfl, fun _ => rfl⟩, List.forall_mem_cons.mpr ⟨⟨rfl, rfl, .inl rfl, fun _ => rfl⟩, fun _ h => nomatch h⟩⟩)) (fun _ => rfl)
        (GivesC.list r.h (Ev.callF (hg ▸ G.gnd) (by rw [hc]; rfl) rfl rfl (EvL.cons rfl (Ev.name rfl rfl) (.cons rfl (Ev.name rfl rfl) .nil)) (hg ▸ int2digits_ok (m := m) (k := k) G (r.deeper.mono (by first | assumption | exact Nat.le_trans ‹_› (by decide) | exact Nat.le_trans (And.right ‹_›) (by decide) | exact mono2 (by decide) | exact Nat.add_le_add_left (by decide) _ | exact leEq ‹_› ‹_› (by decide) | exact leEq ‹_› (And.right ‹_›) (by decide) | exact leLt ‹_› ‹_› (by decide) | exact leLt ‹_› (And.right ‹_›) (by decide) | exact bd0 ‹_› (by decide) | exact bd0 (And.right ‹_›) (by decide) | omega)) hw hz (by first | assumption | exact Nat.le_trans ‹_› (by decide) | exact Nat.le_trans (And.right ‹_›) (by decide) | exact mono2 (by decide) | exact Nat.add_le_add_left (by decide) _ | exact leEq ‹_› ‹_› (by decide) | exact leEq ‹_› (And.right ‹_›) (by decide) | exact leLt ‹_› ‹_› (by decide) | exact leLt ‹_› (And.right ‹_›) (by decide) | exact bd0 ‹_› (by decide) | exact bd0 (And.right ‹_›) (by decide) | omega) (by first | assumption | exact Nat.le_trans ‹_› (by decide) | exact Nat.le_trans (And.right ‹_›) (by decide) | exact mono2 (by decide) | exact Nat.add_le_add_left (by decide) _ | exact leEq ‹_› ‹_› (by decide) | exact leEq ‹_› (And.right ‹_›) (by decide) | exact leLt ‹_› ‹_› (by decide) | exact leLt ‹_› (And.right ‹_›) (by decide) | exact bd0 ‹_› (by decide) | exact bd0 (And.right ‹_›) (by decide) | omega) hk))) (hn_map fun _ => rfl) ?_ (by rw [List.length_map, dig_len]; omega)
      refine CL.map _ _ _ fun d hd C c' hc' hg' => ?_
      exact Ev.bin (a := .int (d - 2 ^ (width - 1))) (b := .int modulus) (Ev.bin (a := .int d) (b := .int (2 ^ (width - 1))) (Ev.name rfl rfl) (Ev.name rfl rfl) (binop_ok rfl)) (Ev.name rfl rfl) (binop_ok (mod' hm))
end Mine
set_option maxRecDepth 10000
namespace Mine
open PySem PySem.Calls PySem.W

variable {prog : Program} {w : World} {A : Around} {g : Heap} {env : Env} {ow : List (Str × Addr)} {V : List Addr} {ρ : Str → Option B} {c : Cx} {mg mb : Str → Option Value}

/-- statements that run through, to a state that is told by J -/
def ExJ (prog : Program) (w : World) (A : Around) (g : Heap) (env : Env) (ow : List (Str × Addr)) (ρ : Str → Option B) (ss : List Stmt) (J : (Str → Option B) → Prop) : Prop :=
  ∃ ρ', (∀ V, Ex prog w A g env ow V ρ ss (.next ρ')) ∧ J ρ'
variable {J : (Str → Option B) → Prop}
theorem ExJ.nil (h : J ρ) : ExJ prog w A g env ow ρ [] J := ⟨ρ, fun _ => .nil, h⟩
theorem ExJ.cons {st : Stmt} {rest : List Stmt} {ρ' : Str → Option B} (h1 : ∀ V, Ex1 prog w A g env ow V ρ st (.next ρ')) (h2 : ExJ prog w A g env ow ρ' rest J) : ExJ prog w A g env ow ρ (st :: rest) J :=
  let ⟨ρ'', a, b⟩ := h2; ⟨ρ'', fun V => Ex.cons_next (h1 V) (a V), b⟩
theorem ExJ.single {st : Stmt} {rest : List Stmt} {J1 : (Str → Option B) → Prop} (h1 : ∃ ρ', (∀ V, Ex1 prog w A g env ow V ρ st (.next ρ')) ∧ J1 ρ') (h2 : ∀ ρ', J1 ρ' → ExJ prog w A g env ow ρ' rest J) : ExJ prog w A g env ow ρ (st :: rest) J :=
  let ⟨ρ', a, b⟩ := h1; .cons a (h2 ρ' b)
theorem Ex.consJ {st : Stmt} {rest : List Stmt} {o : Out} {J1 : (Str → Option B) → Prop} (h1 : ∃ ρ', (∀ V, Ex1 prog w A g env ow V ρ st (.next ρ')) ∧ J1 ρ') (h2 : ∀ ρ', J1 ρ' → Ex prog w A g env ow V ρ' rest o) : Ex prog w A g env ow V ρ (st :: rest) o :=
  let ⟨ρ', a, b⟩ := h1; .cons_next (a V) (h2 ρ' b)
theorem ExN.consJ {st : Stmt} {rest : List Stmt} {o : Out} {J1 : (Str → Option B) → Prop} (h1 : ∃ ρ', (∀ V, Ex1 prog w A g env ow V ρ st (.next ρ')) ∧ J1 ρ') (h2 : ∀ ρ', J1 ρ' → ExN prog w A g env ow V ρ' rest o) : ExN prog w A g env ow V ρ (st :: rest) o :=
  let ⟨ρ', a, b⟩ := h1; .cons (a V) (h2 ρ' b)

/-- a for, an if, a while as one statement -/
theorem Ex1.forJ {tgt iter : Expr} {body : List Stmt} {pos : Pos} {ds : List T} (Iv : List T → (Str → Option B) → Prop) (hh : A.handled = none) (hg : Gives prog w A g env ρ tgt iter ds) (h0 : Iv ds ρ)
    (hstep : ∀ d rest ρ, Iv (d :: rest) ρ → ∃ ρ₁, bindT tgt d ρ = some ρ₁ ∧ ExJ prog w A g env ow ρ₁ body (Iv rest))
    (hk : tgtOk ow env tgt) (hn : (∃ x p, tgt = .Name x p) → ∀ d ∈ ds, notTup d = true) (hs : ∀ x, foldedSetIterable iter env x = pure x := by intro _; rfl) :
    ∃ ρ', (∀ V, Ex1 prog w A g env ow V ρ (.For tgt iter body [] pos) (.next ρ')) ∧ Iv [] ρ' := by
  obtain ⟨ρ', hL, hI⟩ := Loop.inv (step := Step prog w A g env ow tgt body) (Iv := Iv) (fun d rest ρ h => by
    obtain ⟨ρ₁, h1, ρ', h2, h3⟩ := hstep d rest ρ h
    exact ⟨ρ', ⟨ρ₁, h1, h2⟩, h3⟩) h0
  exact ⟨ρ', fun V => Ex1.for hh hk hs hg (fun x p e X h v d hd ir => hn_of (hn ⟨x, p, e⟩) h X v d hd ir) hL, hI⟩
theorem Ex1.iteJ {t : Expr} {x y : List Stmt} {pos : Pos} {J1 : (Str → Option B) → Prop} (b : Bool) (ht : EvTE prog w A g env ρ t b) (hx : b = true → ExJ prog w A g env ow ρ x J1) (hy : b = false → ExJ prog w A g env ow ρ y J1) :
    ∃ ρ', (∀ V, Ex1 prog w A g env ow V ρ (.If t x y pos) (.next ρ')) ∧ J1 ρ' := by
  cases b with
  | true => obtain ⟨ρ', a, b⟩ := hx rfl; exact ⟨ρ', fun V => Ex1.ite ht (fun _ => a V) (fun h => by cases h), b⟩
  | false => obtain ⟨ρ', a, b⟩ := hy rfl; exact ⟨ρ', fun V => Ex1.ite ht (fun h => by cases h) (fun _ => a V), b⟩
theorem Ex1.whileJ {test : Expr} {body : List Stmt} {pos : Pos} (Iv : Nat → (Str → Option B) → Prop) (hstep : ∀ n ρ, Iv (n + 1) ρ → EvTE prog w A g env ρ test true ∧ ExJ prog w A g env ow ρ body (Iv n)) (hend : ∀ ρ, Iv 0 ρ → EvTE prog w A g env ρ test false) :
    ∀ (n : Nat) (ρ : Str → Option B), Iv n ρ → ∃ ρ', (∀ V, Ex1 prog w A g env ow V ρ (.While test body [] pos) (.next ρ')) ∧ Iv 0 ρ' := by
  have key : ∀ (n : Nat) (ρ : Str → Option B), Iv n ρ → ∃ ρ', (∀ V, Wh prog w A g env ow V test body n ρ ρ') ∧ Iv 0 ρ' := by
    intro n
    induction n with
    | zero => intro ρ h; exact ⟨ρ, fun V => .stop (hend ρ h), h⟩
    | succ n ih =>
      intro ρ h
      obtain ⟨h1, ρ1, h2, h3⟩ := hstep n ρ h
      obtain ⟨ρ2, h4, h5⟩ := ih ρ1 h3
      exact ⟨ρ2, fun V => .next h1 (h2 V) (h4 V), h5⟩
  intro n ρ h
  obtain ⟨ρ', a, b⟩ := key n ρ h
  exact ⟨ρ', fun V => Ex1.while (a V), b⟩
theorem map_cons_inv {α : Type} {gi : α → T} {d : T} {rest : List T} {l : List α} (h : d :: rest = l.map gi) : ∃ i l', l = i :: l' ∧ d = gi i ∧ rest = l'.map gi := by
  cases l with
  | nil => cases h
  | cons i l' => simp only [List.map_cons, List.cons.injEq] at h; exact ⟨i, l', rfl, h.1, h.2⟩
theorem map_nil_inv {α : Type} {gi : α → T} {l : List α} (h : [] = l.map gi) : l = [] := by
  cases l with
  | nil => rfl
  | cons => cases h

/-- the inner loop of _law_divisors, as a law of numbers -/
def DF (N : Int) (b : Nat) : Prop := DivFits 10 (if N < 0 then (-N - 1).toNat else N.toNat) b
def innerP (order : Int) (nums degs : List (Int × Int)) (K : Int → Int → Prop) : List Int → Int → Int → Prop
  | [], N, D => K N D
  | l :: ls, N, D => if (decide (l < order) && (order.fmod l == 0)) = true then ∃ (b : Nat) (e : Int), iat nums l = some (b : Int) ∧ iat degs l = some e ∧ DF N b ∧ N % b = 0 ∧ innerP order nums degs K ls (N / b) (D - e) else innerP order nums degs K ls N D
def outerP (ords : List Int) (root : Int) (width : Nat) (K : List (Int × Int) → List (Int × Int) → Prop) : List Int → List (Int × Int) → List (Int × Int) → Prop
  | [], nums, degs => K nums degs
  | o :: os, nums, degs => innerP o nums degs (fun N D => outerP ords root width K os (iput nums o N) (iput degs o D)) ords (2 ^ (width * o.toNat) - root ^ o.toNat) o
def ordsOf (size : Nat) : List Int := ((List.range size).filter fun (i : Nat) => (size : Int).fmod (1 + (i : Int) * 1) == 0).map fun (i : Nat) => 1 + (i : Int) * 1
theorem EvT.eqb {e : Expr} {b b' : Bool} (h : EvT prog w A c ρ e b) (he : b = b') : EvT prog w A c ρ e b' := he ▸ h

theorem law_divisors_ok {m width size : Nat} {root : Int} {out : List (Int × Int)} (G : Gr g mg mb) (r : Room A (m + 30)) (hsz : size ≤ 20) (hw2 : width ≤ 200) (hr : root.natAbs < 2 ^ 100)
    (h : outerP (ordsOf size) root width (fun nums degs => (ordsOf size).map (fun o => (iat nums o, iat degs o)) = out.map fun p => (some p.1, some p.2)) (ordsOf size) [] []) :
    Fn prog w g mg A (nameAt 17) [.int size, .int root, .int width] (.list (out.map fun p => .tuple [.int p.1, .int p.2])) := by
  have hpos : ∀ o ∈ ordsOf size, 0 < o ∧ o ≤ 20 := fun o ho => by
    obtain ⟨i, hi, rfl⟩ := List.mem_map.mp ho
    have := List.mem_range.mp (List.mem_filter.mp hi).1
    omega
  have hlen : (ordsOf size).length ≤ 20 := by
    unfold ordsOf
    rw [List.length_map]
    have := List.length_filter_le (fun i : Nat => (size : Int).fmod (1 + (i : Int) * 1) == 0) (List.range size)
    rw [List.length_range] at this
    omega
  generalize hO : ordsOf size = O at h hpos hlen
  refine Fn.of (names := ["size", "root", "width"]) G (by decide) r.limit (fun pm code doc vs hl => ?_) rfl (by decide) ?_ (by decide) rfl rfl rfl fun pm code doc L fa V hcode => ?_
  · obtain ⟨_, _, _, rfl⟩ := len3 hl; rfl
  · intro n hn; simp only [List.mem_cons, List.not_mem_nil, or_false] at hn; rcases hn with rfl | rfl | rfl
    · exact .inr ⟨rfl, fun _ => rfl⟩
    · exact .inl rfl
    · exact .inl rfl
  · conv => arg 9; whnf
    refine Ex.cons_next (ρ' := upd (pz ["size", "root", "width"] [.int size, .int root, .int width]) "orders" (.v (.list (O.map .int)))) ?_ ?_
    · have e : O.map T.int = ((List.range size).filter fun (i : Nat) => (size : Int).fmod (1 + (i : Int) * 1) == 0).map fun (i : Nat) => T.int (1 + (i : Int) * 1) := by
        rw [← hO]; simp [ordsOf]
      rw [e]
      refine Ex1.assignListComp (ds := rngT 1 1 size) (cl := [(("size" : Str), L + 1)]) rfl (.inl rfl) (CompOk.mk' rfl rfl (by decide) (.inl rfl) (show [("size" : Str)].Nodup by decide) (List.forall_mem_cons.mpr ⟨⟨rfl, rfl, .inl rfl, fun _ => rfl⟩, fun _ h => nomatch h⟩)) (fun _ => rfl)
        (fun c hc hg => GivesC.range2 (a := 1) (b := (size : Int) + 1) r.h (hg ▸ G.gnd) (by rw [hc]; rfl) (G.bi "range" (by decide)).1 ((G.bi "range" (by decide)).2.trans rfl) rfl rfl Ev.int (Ev.bin (a := .int size) (b := .int 1) (Ev.name rfl rfl) Ev.int (binop_ok rfl)) (by first | assumption | exact Nat.le_trans ‹_› (by decide) | exact Nat.le_trans (And.right ‹_›) (by decide) | exact mono2 (by decide) | exact Nat.add_le_add_left (by decide) _ | exact leEq ‹_› ‹_› (by decide) | exact leEq ‹_› (And.right ‹_›) (by decide) | exact leLt ‹_› ‹_› (by decide) | exact leLt ‹_› (And.right ‹_›) (by decide) | exact bd0 ‹_› (by decide) | exact bd0 (And.right ‹_›) (by decide) | omega) (by first | assumption | exact Nat.le_trans ‹_› (by decide) | exact Nat.le_trans (And.right ‹_›) (by decide) | exact mono2 (by decide) | exact Nat.add_le_add_left (by decide) _ | exact leEq ‹_› ‹_› (by decide) | exact leEq ‹_› (And.right ‹_›) (by decide) | exact leLt ‹_› ‹_› (by decide) | exact leLt ‹_› (And.right ‹_›) (by decide) | exact bd0 ‹_› (by decide) | exact bd0 (And.right ‹_›) (by decide) | omega) (by first | assumption | exact Nat.le_trans ‹_› (by decide) | exact Nat.le_trans (And.right ‹_›) (by decide) | exact mono2 (by decide) | exact Nat.add_le_add_left (by decide) _ | exact leEq ‹_› ‹_› (by decide) | exact leEq ‹_› (And.right ‹_›) (by decide) | exact leLt ‹_› ‹_› (by decide) | exact leLt ‹_› (And.right ‹_›) (by decide) | exact bd0 ‹_› (by decide) | exact bd0 (And.right ‹_›) (by decide) | omega)) (hn_map fun _ => rfl) ?_ (by simp [rngT]; first | assumption | exact Nat.le_trans ‹_› (by decide) | exact Nat.le_trans (And.right ‹_›) (by decide) | exact mono2 (by decide) | exact Nat.add_le_add_left (by decide) _ | exact leEq ‹_› ‹_› (by decide) | exact leEq ‹_› (And.right ‹_›) (by decide) | exact leLt ‹_› ‹_› (by decide) | exact leLt ‹_› (And.right ‹_›) (by decide) | exact bd0 ‹_› (by decide) | exact bd0 (And.right ‹_›) (by decide) | omega)
      refine CL.filter _ _ _ _ (fun i hi C c hc hg => ?_) fun i hi hp C c hc hg => Ev.name rfl rfl
      refine EvT.cmp rfl (a := .int ((size : Int).fmod (1 + (i : Int) * 1))) (b := .int 0) (Ev.bin (a := .int size) (b := .int (1 + (i : Int) * 1)) (Ev.name rfl rfl) (Ev.name rfl rfl) (binop_ok (mod' (by first | assumption | exact Nat.le_trans ‹_› (by decide) | exact Nat.le_trans (And.right ‹_›) (by decide) | exact mono2 (by decide) | exact Nat.add_le_add_left (by decide) _ | exact leEq ‹_› ‹_› (by decide) | exact leEq ‹_› (And.right ‹_›) (by decide) | exact leLt ‹_› ‹_› (by decide) | exact leLt ‹_› (And.right ‹_›) (by decide) | exact bd0 ‹_› (by decide) | exact bd0 (And.right ‹_›) (by decide) | omega)))) Ev.int (intCmp_ok rfl)
    refine Ex.cons_next (Ex1.assignNew (d := .dict []) rfl (.inr ⟨rfl, _, rfl, rfl⟩) fun c _ h => EvNew.dict (by rw [h]; exact G.mn)) ?_
    refine Ex.cons_next (Ex1.assignNew (d := .dict []) rfl (.inr ⟨rfl, _, rfl, rfl⟩) fun c _ h => EvNew.dict (by rw [h]; exact G.mn)) ?_
    refine Ex.consJ (Ex1.forJ (ds := O.map T.int) (fun rest ρ => ∃ (l : List Int) (nums degs : List (Int × Int)), rest = l.map T.int ∧ (∀ o ∈ l, 0 < o ∧ o ≤ 20) ∧ nums.length + l.length ≤ 20 ∧ degs.length + l.length ≤ 20 ∧
        ρ "numbers" = some (.o (.dict (dInt nums))) ∧ ρ "degrees" = some (.o (.dict (dInt degs))) ∧ ρ "orders" = some (.v (.list (O.map .int))) ∧ ρ "root" = some (.v (.int root)) ∧ ρ "width" = some (.v (.int width)) ∧
        outerP O root width (fun nums degs => O.map (fun o => (iat nums o, iat degs o)) = out.map fun p => (some p.1, some p.2)) l nums degs) r.h
      (GivesC.gives fun c hc hg => GivesC.list r.h (Ev.name rfl rfl)) ⟨O, [], [], rfl, hpos, by simpa using hlen, by simpa using hlen, rfl, rfl, rfl, rfl, rfl, h⟩ ?_ (.inl rfl) (fun _ => notTup_ints)) ?_
    · rintro d rest ρ ⟨l, nums, degs, hAll⟩
      refine an10 hAll fun h1 h2 h3 h3' h4 h5 h6 h7 h8 h9 => ?_
      obtain ⟨o, l, rfl, rfl, rfl⟩ := map_cons_inv h1
      have ho := h2 o (.head _)
      have e0 : ((o.toNat : Nat) : Int) = o := Int.toNat_of_nonneg (by first | assumption | exact Nat.le_trans ‹_› (by decide) | exact Nat.le_trans (And.right ‹_›) (by decide) | exact mono2 (by decide) | exact Nat.add_le_add_left (by decide) _ | exact leEq ‹_› ‹_› (by decide) | exact leEq ‹_› (And.right ‹_›) (by decide) | exact leLt ‹_› ‹_› (by decide) | exact leLt ‹_› (And.right ‹_›) (by decide) | exact bd0 ‹_› (by decide) | exact bd0 (And.right ‹_›) (by decide) | omega)
      refine ⟨_, rfl, ?_⟩
      refine ExJ.cons (fun V => Ex1.assign (d := .int (2 ^ (width * o.toNat) - root ^ o.toNat)) (swapsWith_plain rfl) (.inl rfl) fun c hc hg => Ev.bin (a := .int (2 ^ (width * o.toNat))) (b := .int (root ^ o.toNat)) ?_ ?_ (binop_ok rfl)) ?_
      · refine Ev.bin (a := .int 1) (b := .int (width * o)) Ev.int (Ev.bin (a := .int width) (b := .int o) (Ev.name h8 rfl) (Ev.name rfl rfl) (binop_ok (mulN ⟨Nat.le_trans (bitsN_le (k := 20) (by first | assumption | exact Nat.le_trans ‹_› (by decide) | exact Nat.le_trans (And.right ‹_›) (by decide) | exact mono2 (by decide) | exact Nat.add_le_add_left (by decide) _ | exact leEq ‹_› ‹_› (by decide) | exact leEq ‹_› (And.right ‹_›) (by decide) | exact leLt ‹_› ‹_› (by decide) | exact leLt ‹_› (And.right ‹_›) (by decide) | exact bd0 ‹_› (by decide) | exact bd0 (And.right ‹_›) (by decide) | omega)) (by decide), Nat.le_trans (bits_le (k := 20) (by first | assumption | exact Nat.le_trans ‹_› (by decide) | exact Nat.le_trans (And.right ‹_›) (by decide) | exact mono2 (by decide) | exact Nat.add_le_add_left (by decide) _ | exact leEq ‹_› ‹_› (by decide) | exact leEq ‹_› (And.right ‹_›) (by decide) | exact leLt ‹_› ‹_› (by decide) | exact leLt ‹_› (And.right ‹_›) (by decide) | exact bd0 ‹_› (by decide) | exact bd0 (And.right ‹_›) (by decide) | omega)) (by decide)⟩))) (binop_ok ?_)
        rw [shl' (n := width * o.toNat) (by rw [Int.natCast_mul, e0]) (Nat.le_trans (Nat.mul_le_mul hw2 (show o.toNat ≤ 20 by omega)) (by decide)) (by decide), Int.one_mul]
      · refine Ev.bin (a := .int root) (b := .int o) (Ev.name h7 rfl) (Ev.name rfl rfl) (binop_ok ?_)
        exact if_pos ⟨by omega, by omega, Nat.le_trans (bits_le hr) (by decide)⟩
      refine ExJ.cons (fun V => Ex1.assign (d := .int o) (swapsWith_plain rfl) (.inl rfl) fun c hc hg => Ev.name rfl rfl) ?_
      refine ExJ.single (Ex1.forJ (ds := O.map T.int) (fun rest ρ => ∃ (ls : List Int) (N D : Int), rest = ls.map T.int ∧ (∀ o ∈ ls, 0 < o ∧ o ≤ 20) ∧
          ρ "numbers" = some (.o (.dict (dInt nums))) ∧ ρ "degrees" = some (.o (.dict (dInt degs))) ∧ ρ "orders" = some (.v (.list (O.map .int))) ∧ ρ "root" = some (.v (.int root)) ∧ ρ "width" = some (.v (.int width)) ∧
          ρ "order" = some (.v (.int o)) ∧ ρ "number" = some (.v (.int N)) ∧ ρ "degree" = some (.v (.int D)) ∧
          innerP o nums degs (fun N D => outerP O root width (fun nums degs => O.map (fun o => (iat nums o, iat degs o)) = out.map fun p => (some p.1, some p.2)) l (iput nums o N) (iput degs o D)) ls N D) r.h
        (GivesC.gives fun c hc hg => GivesC.list r.h (Ev.name h6 rfl)) ⟨O, _, _, rfl, hpos, h4, h5, h6, h7, h8, rfl, rfl, rfl, h9⟩ ?_ (.inl rfl) (fun _ => notTup_ints)) ?_
      · rintro d rest ρ ⟨ls, N, D, hAll⟩
        refine an11 hAll fun f1 f2 f4 f5 f6 f7 f8 f9 f10 f11 f12 => ?_
        obtain ⟨lo, ls, rfl, rfl, rfl⟩ := map_cons_inv f1
        have hlo := f2 lo (.head _)
        refine ⟨_, rfl, ?_⟩
        refine ExJ.single (Ex1.iteJ (J1 := fun ρ => ∃ (N D : Int), ρ "numbers" = some (.o (.dict (dInt nums))) ∧ ρ "degrees" = some (.o (.dict (dInt degs))) ∧ ρ "orders" = some (.v (.list (O.map .int))) ∧ ρ "root" = some (.v (.int root)) ∧ ρ "width" = some (.v (.int width)) ∧
            ρ "order" = some (.v (.int o)) ∧ ρ "number" = some (.v (.int N)) ∧ ρ "degree" = some (.v (.int D)) ∧
            innerP o nums degs (fun N D => outerP O root width (fun nums degs => O.map (fun o => (iat nums o, iat degs o)) = out.map fun p => (some p.1, some p.2)) l (iput nums o N) (iput degs o D)) ls N D)
          (decide (lo < o) && (o.fmod lo == 0)) (fun c hc hg => ?_) (fun hb => ?_) fun hb => ?_) ?_
        · refine EvT.eqb (EvT.boolop (EvAll.and_cons (b := decide (lo < o)) (b' := if (o.fmod lo == 0) = true then true else false) (EvT.cmp rfl (a := .int lo) (b := .int o) (Ev.name rfl rfl) (Ev.name f9 rfl) (intCmp_ok rfl))
            fun _ => EvAll.and_cons (EvT.cmp rfl (a := .int (o.fmod lo)) (b := .int 0) (Ev.bin (a := .int o) (b := .int lo) (Ev.name f9 rfl) (Ev.name rfl rfl) (binop_ok (mod' (by first | assumption | exact Nat.le_trans ‹_› (by decide) | exact Nat.le_trans (And.right ‹_›) (by decide) | exact mono2 (by decide) | exact Nat.add_le_add_left (by decide) _ | exact leEq ‹_› ‹_› (by decide) | exact leEq ‹_› (And.right ‹_›) (by decide) | exact leLt ‹_› ‹_› (by decide) | exact leLt ‹_› (And.right ‹_›) (by decide) | exact bd0 ‹_› (by decide) | exact bd0 (And.right ‹_›) (by decide) | omega)))) Ev.int (intCmp_ok rfl)) fun _ => EvAll.and_nil)) ?_
          cases decide (lo < o) <;> cases (o.fmod lo == 0) <;> rfl
        · unfold innerP at f12
          rw [if_pos hb] at f12
          obtain ⟨b, e, hAll⟩ := f12
          refine an5 hAll fun i1 i2 i3 i4 i5 => ?_
          refine ExJ.cons (fun V => Ex1.assignTuple (d := .tuple [.int (N / b), .int (N % b)]) r.h rfl rfl (fun xs e x hx => ?_) fun c hc hg => Ev.callF (hg ▸ G.gnd) (by rw [hc]; rfl) rfl rfl (EvL.cons rfl (Ev.name f10 rfl) (.cons rfl (Ev.subO f4 rfl rfl (Ev.name rfl rfl) rfl (show vat (dInt nums) lo = some (.int b) by rw [dInt_at, i1]; rfl)) .nil))
            (hg ▸ int_divmod_ok (m := m) (k := 10) G (r.deeper.mono (by first | assumption | exact Nat.le_trans ‹_› (by decide) | exact Nat.le_trans (And.right ‹_›) (by decide) | exact mono2 (by decide) | exact Nat.add_le_add_left (by decide) _ | exact leEq ‹_› ‹_› (by decide) | exact leEq ‹_› (And.right ‹_›) (by decide) | exact leLt ‹_› ‹_› (by decide) | exact leLt ‹_› (And.right ‹_›) (by decide) | exact bd0 ‹_› (by decide) | exact bd0 (And.right ‹_›) (by decide) | omega)) i3)) ?_
          · cases e
            simp only [List.mem_cons, List.not_mem_nil, or_false] at hx
            rcases hx with rfl | rfl <;> exact .inl rfl
          refine ExJ.cons (fun V => Ex1.ite (b := false) (fun c hc hg => EvT.cmp rfl (a := .int (N % b)) (b := .int 0) (Ev.name rfl rfl) Ev.int (intCmp_ok (by show some ((N % b) != 0) = some false; rw [i4]; rfl))) (fun h => by cases h) fun _ => Ex.nil) ?_
          refine ExJ.cons (fun V => Ex1.aug (a := .int D) (b := .int e) (d := .int (D - e)) f11 rfl (.inl rfl) (fun c hc hg => Ev.subO f5 rfl rfl (Ev.name rfl rfl) rfl (show vat (dInt degs) lo = some (.int e) by rw [dInt_at, i2]; rfl)) rfl) ?_
          exact .nil ⟨N / b, D - e, f4, f5, f6, f7, f8, f9, rfl, rfl, i5⟩
        · unfold innerP at f12
          rw [if_neg (by rw [hb]; exact Bool.false_ne_true)] at f12
          exact .nil ⟨N, D, f4, f5, f6, f7, f8, f9, f10, f11, f12⟩
        · rintro ρ' ⟨N', D', hAll⟩
          refine an9 hAll fun j4 j5 j6 j7 j8 j9 j10 j11 j12 => ?_
          exact .nil ⟨ls, N', D', rfl, fun o ho => f2 o (.tail _ ho), j4, j5, j6, j7, j8, j9, j10, j11, j12⟩
      · rintro ρ' ⟨ls, N, D, hAll⟩
        refine an11 hAll fun f1 f2 f4 f5 f6 f7 f8 f9 f10 f11 f12 => ?_
        obtain rfl := map_nil_inv f1
        have hi1 := iput_length nums o N
        have hi2 := iput_length degs o D
        simp only [List.length_cons] at h3 h3'
        refine ExJ.cons (fun V => Ex1.setDict (k := o) (d := .int N) rfl f4 rfl (fun c _ _ => Ev.name f10 rfl) (fun c _ _ => Ev.name f9 rfl) (by simp only [dInt, List.length_map]; omega)) ?_
        refine ExJ.cons (fun V => Ex1.setDict (k := o) (d := .int D) rfl f5 rfl (fun c _ _ => Ev.name f11 rfl) (fun c _ _ => Ev.name f9 rfl) (by simp only [dInt, List.length_map]; omega)) ?_
        refine .nil ⟨l, iput nums o N, iput degs o D, rfl, fun o ho => h2 o (.tail _ ho), by omega, by omega, ?_, ?_, f6, f7, f8, f12⟩
        · show some (B.o (.dict (vput (dInt nums) o (.int N)))) = _; rw [dInt_put]
        · show some (B.o (.dict (vput (dInt degs) o (.int D)))) = _; rw [dInt_put]
    · rintro ρ' ⟨l, nums, degs, hAll⟩
      refine an10 hAll fun h1 h2 h3 h3' h4 h5 h6 h7 h8 h9 => ?_
      obtain rfl := map_nil_inv h1
      have h9' : O.map (fun o => (iat nums o, iat degs o)) = out.map fun p => (some p.1, some p.2) := h9
      refine Ex.cons_ret (Ex1.ret fun c hc hg => ?_)
      have hd : ∀ o ∈ O, ∃ x y, iat nums o = some x ∧ iat degs o = some y := fun o ho => by
        have : (iat nums o, iat degs o) ∈ out.map fun p => (some p.1, some p.2) := h9' ▸ List.mem_map.mpr ⟨o, ho, rfl⟩
        obtain ⟨p, _, e⟩ := List.mem_map.mp this
        simp only [Prod.mk.injEq] at e
        exact ⟨p.1, p.2, e.1.symm, e.2.symm⟩
      have e : (out.map fun p => T.tuple [.int p.1, .int p.2]) = O.map fun o => T.tuple [.int ((iat nums o).getD 0), .int ((iat degs o).getD 0)] := by
        have : (out.map fun p => (some p.1, some p.2)).map (fun q : Option Int × Option Int => T.tuple [.int (q.1.getD 0), .int (q.2.getD 0)]) = (O.map (fun o => (iat nums o, iat degs o))).map (fun q : Option Int × Option Int => T.tuple [.int (q.1.getD 0), .int (q.2.getD 0)]) := by rw [h9']
        simpa [List.map_map, Function.comp_def] using this
      rw [e]
      refine Ev.listComp (cl := [(("numbers" : Str), L + 2), (("degrees" : Str), L + 3)]) (CompOk.mk' (by rw [hc]; rfl) rfl (by decide) (.inl rfl) (show [("numbers" : Str), "degrees"].Nodup by decide) (by rw [hc]; exact List.forall_mem_cons.mpr ⟨⟨rfl, rfl, .inl rfl, fun _ => rfl⟩, List.forall_mem_cons.mpr ⟨⟨rfl, rfl, .inl rfl, fun _ => rfl⟩, fun _ h => nomatch h⟩⟩)) (fun _ => rfl)
        (GivesC.list r.h (Ev.name (d := .list (O.map .int)) (by unfold dis; rw [h6]) rfl)) (hn_map fun _ => rfl) ?_ (by simp; first | assumption | exact Nat.le_trans ‹_› (by decide) | exact Nat.le_trans (And.right ‹_›) (by decide) | exact mono2 (by decide) | exact Nat.add_le_add_left (by decide) _ | exact leEq ‹_› ‹_› (by decide) | exact leEq ‹_› (And.right ‹_›) (by decide) | exact leLt ‹_› ‹_› (by decide) | exact leLt ‹_› (And.right ‹_›) (by decide) | exact bd0 ‹_› (by decide) | exact bd0 (And.right ‹_›) (by decide) | omega)
      refine CL.map _ _ _ fun o ho C c' hc' hg' => ?_
      obtain ⟨x, y, e1, e2⟩ := hd o ho
      refine Ev.tuple (EvL.cons rfl ?_ (.cons rfl ?_ .nil)) (show 2 ≤ sizeLine by decide)
      · exact Ev.sub (a := .dict (dInt nums)) (b := .int o) rfl (Ev.name (inn_upd (a := L + 2) rfl rfl (by unfold dis; rw [h4])) rfl) (Ev.name rfl rfl) (item_ok (show vat (dInt nums) o = _ by rw [dInt_at, e1]; rfl))
      · exact Ev.sub (a := .dict (dInt degs)) (b := .int o) rfl (Ev.name (inn_upd (a := L + 3) rfl rfl (by unfold dis; rw [h5])) rfl) (Ev.name rfl rfl) (item_ok (show vat (dInt degs) o = _ by rw [dInt_at, e2]; rfl))
end Mine
set_option maxRecDepth 10000
namespace Mine
open PySem PySem.Calls PySem.W

variable {prog : Program} {w : World} {A : Around} {g : Heap} {env : Env} {ow : List (Str × Addr)} {V : List Addr} {ρ : Str → Option B} {c : Cx} {mg mb : Str → Option Value}

abbrev Tab := List (Int × Int)
def chain (turn : Tab) : Nat → Tab → List Tab
  | 0, t => [t]
  | n + 1, t => t :: chain turn n (addC t turn)
def turnOf (row : List Int) (moved : Nat) : Tab := (List.range row.length).map fun (k : Nat) => ((moved : Int) + (k : Int), row.getD k 0)
def tabsFrom (row : List Int) (mod : Nat) : List Nat → List Tab → List Tab
  | [], ts => ts
  | mv :: ms, ts => tabsFrom row mod ms (ts.flatMap (chain (turnOf row mv) (mod - 1)))
def sumsOf (row : List Int) (copies size mod : Nat) : List (List Int) := (tabsFrom row mod (List.range copies) [[]]).map fun t => (List.range size).map fun (k : Nat) => ((iat t (k : Int)).getD 0).fmod mod
theorem addC_length (t s : Tab) : (addC t s).length ≤ t.length + s.length := by
  have h1 : ∀ (l acc : Tab), (l.foldl (fun acc p => iput acc p.1 p.2) acc).length ≤ acc.length + l.length := by
    intro l
    induction l with
    | nil => intro acc; simp
    | cons p l ih =>
      intro acc
      have := ih (iput acc p.1 p.2)
      have := iput_length acc p.1 p.2
      simp only [List.foldl_cons, List.length_cons]; omega
  have h2 : ∀ (l acc : Tab), (l.foldl (fun acc p => match iat acc p.1 with
    | some o => iput acc p.1 (o + p.2)
    | none => iput acc p.1 p.2) acc).length ≤ acc.length + l.length := by
    intro l
    induction l with
    | nil => intro acc; simp
    | cons p l ih =>
      intro acc
      simp only [List.foldl_cons, List.length_cons]
      refine Nat.le_trans (ih _) ?_
      split
      · have := iput_length acc p.1 (‹Int› + p.2); omega
      · have := iput_length acc p.1 p.2; omega
  unfold addC
  refine Nat.le_trans (h2 _ _) ?_
  have := h1 t []
  simp at this
  omega
theorem chain_len (turn : Tab) : ∀ (n : Nat) (t : Tab), (chain turn n t).length = n + 1
  | 0, t => rfl
  | n + 1, t => by simp [chain, chain_len turn n]
theorem chain_bound (turn : Tab) : ∀ (n : Nat) (t : Tab), ∀ u ∈ chain turn n t, u.length ≤ t.length + n * turn.length
  | 0, t, u, h => by simp [chain] at h; subst h; omega
  | n + 1, t, u, h => by
    rcases List.mem_cons.mp h with rfl | h
    · omega
    · have := chain_bound turn n (addC t turn) u h
      have := addC_length t turn
      rw [Nat.succ_mul]; omega
def tT (t : Tab) : T := .dict (dInt t)
theorem turn_len (row : List Int) (mv : Nat) : (turnOf row mv).length = row.length := by simp [turnOf]

theorem law_sums_ok {m copies size mod : Nat} {row : List Int} (G : Gr g mg mb) (r : Room A (m + 5)) (hc : copies ≤ 20) (hs : size ≤ 20) (hm : 1 ≤ mod) (hm2 : mod ≤ 20) (hr : row.length ≤ 20) (hp : mod ^ copies ≤ 10000) :
    Fn prog w g mg A (nameAt 19) [.list (row.map .int), .int copies, .int size, .int mod] (.list ((sumsOf row copies size mod).map fun l => .list (l.map .int))) := by
  refine Fn.of (names := ["row", "copies", "size", "modulus"]) G (by decide) r.limit (fun pm code doc vs hl => ?_) rfl (by decide) ?_ (by decide) rfl rfl rfl fun pm code doc L fa V hcode => ?_
  · obtain ⟨_, _, _, _, rfl⟩ := len4 hl; rfl
  · intro n hn; simp only [List.mem_cons, List.not_mem_nil, or_false] at hn; rcases hn with rfl | rfl | rfl | rfl
    · exact .inr ⟨rfl, fun _ => rfl⟩
    · exact .inl rfl
    · exact .inr ⟨rfl, fun _ => rfl⟩
    · exact .inr ⟨rfl, fun _ => rfl⟩
  · conv => arg 9; whnf
    have hmc : mod * 20 ≤ 400 := Nat.mul_le_mul_right 20 hm2
    refine Ex.cons_next (Ex1.assign (d := .list [tT []]) (swapsWith_plain rfl) (.inl rfl) fun c hc hg => Ev.list (EvL.cons rfl (Ev.dictNil (by rw [hg]; exact G.mn)) .nil) (show 1 ≤ sizeLine by decide)) ?_
    refine Ex.consJ (Ex1.forJ (ds := rngT 0 1 copies) (fun rest ρ => ∃ (ms : List Nat) (ts : List Tab), rest = ms.map (fun (k : Nat) => T.int k) ∧ (∀ k ∈ ms, k < 20) ∧ ms.length ≤ copies ∧ ts.length = mod ^ (copies - ms.length) ∧ (∀ t ∈ ts, t.length ≤ (copies - ms.length) * (mod * 20)) ∧
        ρ "tables" = some (.v (.list (ts.map tT))) ∧ ρ "row" = some (.v (.list (row.map .int))) ∧ ρ "size" = some (.v (.int size)) ∧ ρ "modulus" = some (.v (.int mod)) ∧ tabsFrom row mod ms ts = tabsFrom row mod (List.range copies) [[]]) r.h
      (GivesC.gives fun c hc hg => GivesC.range1 r.h (hg ▸ G.gnd) (by rw [hc]; rfl) (G.bi "range" (by decide)).1 ((G.bi "range" (by decide)).2.trans rfl) rfl (Ev.name rfl rfl) (by first | assumption | exact Nat.le_trans ‹_› (by decide) | exact Nat.le_trans (And.right ‹_›) (by decide) | exact mono2 (by decide) | exact Nat.add_le_add_left (by decide) _ | exact leEq ‹_› ‹_› (by decide) | exact leEq ‹_› (And.right ‹_›) (by decide) | exact leLt ‹_› ‹_› (by decide) | exact leLt ‹_› (And.right ‹_›) (by decide) | exact bd0 ‹_› (by decide) | exact bd0 (And.right ‹_›) (by decide) | omega))
      ⟨List.range copies, [[]], rng_map copies, fun k hk => by have := List.mem_range.mp hk; omega, by simp, by simp, by simp, rfl, rfl, rfl, rfl, rfl⟩ ?_ (.inr ⟨rfl, _, rfl, rfl⟩) (fun _ d hd => by rw [rng_map] at hd; obtain ⟨z, _, rfl⟩ := List.mem_map.mp hd; rfl)) ?_
    · rintro d rest ρ ⟨ms, ts, hAll⟩
      refine an10 hAll fun h1 h2 h3 h4 h4' h5 h6 h7 h8 h9 => ?_
      obtain ⟨mv, ms, rfl, rfl, rfl⟩ := map_cons_inv h1
      have hmv := h2 mv (.head _)
      refine ⟨_, rfl, ?_⟩
      simp only [List.length_cons] at h3 h4 h4'
      have hts : ts.length * mod ≤ 10000 := by
        rw [h4, ← Nat.pow_succ]
        exact Nat.le_trans (Nat.pow_le_pow_right hm (by first | assumption | exact Nat.le_trans ‹_› (by decide) | exact Nat.le_trans (And.right ‹_›) (by decide) | exact mono2 (by decide) | exact Nat.add_le_add_left (by decide) _ | exact leEq ‹_› ‹_› (by decide) | exact leEq ‹_› (And.right ‹_›) (by decide) | exact leLt ‹_› ‹_› (by decide) | exact leLt ‹_› (And.right ‹_›) (by decide) | exact bd0 ‹_› (by decide) | exact bd0 (And.right ‹_›) (by decide) | omega)) hp
      have hts' : ts.length ≤ 10000 := Nat.le_trans (Nat.le_mul_of_pos_right _ hm) hts
      have htl : ∀ t ∈ ts, t.length ≤ 8000 := fun t ht => Nat.le_trans (h4' t ht) (Nat.le_trans (Nat.mul_le_mul (show copies - (ms.length + 1) ≤ 20 by first | exact Nat.le_trans (Nat.sub_le _ _) ‹copies ≤ 20› | omega) hmc) (by decide))
      have etn : (turnOf row mv) = [] ++ (List.range row.length).map fun (k : Nat) => ((mv : Int) + (k : Int), row.getD k 0) := rfl
      refine ExJ.cons (ρ' := upd (upd ρ "moved" (.v (.int mv))) "turn" (.v (tT (turnOf row mv)))) (fun V => ?_) ?_
      · have e2 : dInt (turnOf row mv) = [] ++ (List.range row.length).map fun (k : Nat) => ((mv : Int) + (k : Int), T.int (row.getD k 0)) := by simp [dInt, turnOf]
        unfold tT
        rw [e2]
        refine Ex1.assignDictComp (ds := rngT 0 1 row.length) (cl := [(("row" : Str), L + 1), (("moved" : Str), L + 4)]) rfl (.inl rfl) (CompOk.mk' rfl rfl (by decide) (.inl rfl) (show [("row" : Str), "moved"].Nodup by decide) (List.forall_mem_cons.mpr ⟨⟨rfl, rfl, .inl rfl, fun _ => rfl⟩, List.forall_mem_cons.mpr ⟨⟨rfl, rfl, .inl rfl, fun _ => rfl⟩, fun _ h => nomatch h⟩⟩)) (fun _ => rfl)
          (fun c hc hg => GivesC.range1 r.h (hg ▸ G.gnd) (by rw [hc]; rfl) (G.bi "range" (by decide)).1 ((G.bi "range" (by decide)).2.trans rfl) rfl (Ev.callG (hg ▸ G) (by decide) (by rw [hc]; rfl) rfl rfl rfl rfl (EvL.cons rfl (Ev.name h6 rfl) .nil) (by
            have := len_list_ok (prog := prog) (w := w) (A := A.deeper (fenv 19 pm code doc L fa)) (xs := row.map T.int) (by simp; first | assumption | exact Nat.le_trans ‹_› (by decide) | exact Nat.le_trans (And.right ‹_›) (by decide) | exact mono2 (by decide) | exact Nat.add_le_add_left (by decide) _ | exact leEq ‹_› ‹_› (by decide) | exact leEq ‹_› (And.right ‹_›) (by decide) | exact leLt ‹_› ‹_› (by decide) | exact leLt ‹_› (And.right ‹_›) (by decide) | exact bd0 ‹_› (by decide) | exact bd0 (And.right ‹_›) (by decide) | omega)
            rw [List.length_map] at this; exact this)) (by first | assumption | exact Nat.le_trans ‹_› (by decide) | exact Nat.le_trans (And.right ‹_›) (by decide) | exact mono2 (by decide) | exact Nat.add_le_add_left (by decide) _ | exact leEq ‹_› ‹_› (by decide) | exact leEq ‹_› (And.right ‹_›) (by decide) | exact leLt ‹_› ‹_› (by decide) | exact leLt ‹_› (And.right ‹_›) (by decide) | exact bd0 ‹_› (by decide) | exact bd0 (And.right ‹_›) (by decide) | omega)) (hn_map fun _ => rfl) ?_ (by simp [rngT]; first | assumption | exact Nat.le_trans ‹_› (by decide) | exact Nat.le_trans (And.right ‹_›) (by decide) | exact mono2 (by decide) | exact Nat.add_le_add_left (by decide) _ | exact leEq ‹_› ‹_› (by decide) | exact leEq ‹_› (And.right ‹_›) (by decide) | exact leLt ‹_› ‹_› (by decide) | exact leLt ‹_› (And.right ‹_›) (by decide) | exact bd0 ‹_› (by decide) | exact bd0 (And.right ‹_›) (by decide) | omega) G.mn
        rw [rng_map]
        refine CD.map _ _ _ _ _ ?_ fun k hk => ⟨fun C c hc hg => ?_, fun C c hc hg => ?_⟩
        · simp only [List.map_nil, List.nil_append]
          unfold List.Nodup
          rw [List.pairwise_map]
          exact List.nodup_range.imp fun {a b} hab e => hab (by first | assumption | exact Nat.le_trans ‹_› (by decide) | exact Nat.le_trans (And.right ‹_›) (by decide) | exact mono2 (by decide) | exact Nat.add_le_add_left (by decide) _ | exact leEq ‹_› ‹_› (by decide) | exact leEq ‹_› (And.right ‹_›) (by decide) | exact leLt ‹_› ‹_› (by decide) | exact leLt ‹_› (And.right ‹_›) (by decide) | exact bd0 ‹_› (by decide) | exact bd0 (And.right ‹_›) (by decide) | omega)
        · exact Ev.bin (a := .int mv) (b := .int k) (Ev.name rfl rfl) (Ev.name rfl rfl) (binop_ok rfl)
        · have hk' := List.mem_range.mp hk
          refine Ev.sub (a := .list (row.map .int)) (b := .int k) rfl (Ev.name (inn_upd (a := L + 1) rfl rfl h6) rfl) (Ev.name rfl rfl) (item_ok ?_)
          rw [item_listN (by first | assumption | exact Nat.le_trans ‹_› (by decide) | exact Nat.le_trans (And.right ‹_›) (by decide) | exact mono2 (by decide) | exact Nat.add_le_add_left (by decide) _ | exact leEq ‹_› ‹_› (by decide) | exact leEq ‹_› (And.right ‹_›) (by decide) | exact leLt ‹_› ‹_› (by decide) | exact leLt ‹_› (And.right ‹_›) (by decide) | exact bd0 ‹_› (by decide) | exact bd0 (And.right ‹_›) (by decide) | omega), List.getElem?_map, List.getElem?_eq_getElem hk']
          simp [List.getD, List.getElem?_eq_getElem hk']
      refine ExJ.cons (fun V => Ex1.assignNew (d := .list []) rfl (.inl rfl) fun c _ h => EvNew.list) ?_
      refine ExJ.single (Ex1.forJ (ds := ts.map tT) (fun rest ρ => ∃ (us : List Tab) (gr : List Tab), rest = us.map tT ∧ (∀ t ∈ us, t.length ≤ 8000) ∧ gr.length + us.length * mod ≤ 10000 ∧ ρ "grown" = some (.o (.list (gr.map tT))) ∧ ρ "turn" = some (.v (tT (turnOf row mv))) ∧ ρ "row" = some (.v (.list (row.map .int))) ∧ ρ "size" = some (.v (.int size)) ∧ ρ "modulus" = some (.v (.int mod)) ∧
          gr ++ us.flatMap (chain (turnOf row mv) (mod - 1)) = ts.flatMap (chain (turnOf row mv) (mod - 1))) r.h
        (GivesC.gives fun c hc hg => GivesC.list r.h (Ev.name h5 rfl)) ⟨ts, [], rfl, htl, by simpa using hts, rfl, rfl, h6, h7, h8, by simp⟩ ?_ (.inl rfl) (fun _ d hd => by obtain ⟨z, _, rfl⟩ := List.mem_map.mp hd; rfl)) ?_
      · rintro d rest ρ ⟨us, gr, hAll⟩
        refine an9 hAll fun f1 f2 f3 f4 f5 f6 f7 f8 f9 => ?_
        obtain ⟨u, us, rfl, rfl, rfl⟩ := map_cons_inv f1
        have hu := f2 u (.head _)
        refine ⟨_, rfl, ?_⟩
        simp only [List.length_cons, Nat.succ_mul] at f3
        refine ExJ.cons (fun V => Ex1.append (d := tT u) f4 rfl rfl rfl (fun c _ _ => Ev.name rfl rfl) (by simp; first | assumption | exact Nat.le_trans ‹_› (by decide) | exact Nat.le_trans (And.right ‹_›) (by decide) | exact mono2 (by decide) | exact Nat.add_le_add_left (by decide) _ | exact leEq ‹_› ‹_› (by decide) | exact leEq ‹_› (And.right ‹_›) (by decide) | exact leLt ‹_› ‹_› (by decide) | exact leLt ‹_› (And.right ‹_›) (by decide) | exact bd0 ‹_› (by decide) | exact bd0 (And.right ‹_›) (by decide) | omega)) ?_
        refine ExJ.single (Ex1.forJ (ds := rngT 1 1 (mod - 1)) (fun rest ρ => ∃ (js : List Nat) (t : Tab) (gr' : List Tab), rest = js.map (fun (i : Nat) => T.int (1 + (i : Int) * 1)) ∧ t.length + js.length * 20 ≤ 8400 ∧ gr'.length + js.length + us.length * mod ≤ 10000 ∧ ρ "table" = some (.v (tT t)) ∧ ρ "grown" = some (.o (.list ((gr' ++ [t]).map tT))) ∧ ρ "turn" = some (.v (tT (turnOf row mv))) ∧ ρ "row" = some (.v (.list (row.map .int))) ∧ ρ "size" = some (.v (.int size)) ∧ ρ "modulus" = some (.v (.int mod)) ∧
            gr' ++ chain (turnOf row mv) js.length t = gr ++ chain (turnOf row mv) (mod - 1) u) r.h
          (GivesC.gives fun c hc hg => GivesC.range2 (a := 1) (b := mod) r.h (hg ▸ G.gnd) (by rw [hc]; rfl) (G.bi "range" (by decide)).1 ((G.bi "range" (by decide)).2.trans rfl) rfl rfl Ev.int (Ev.name f8 rfl) (by first | assumption | exact Nat.le_trans ‹_› (by decide) | exact Nat.le_trans (And.right ‹_›) (by decide) | exact mono2 (by decide) | exact Nat.add_le_add_left (by decide) _ | exact leEq ‹_› ‹_› (by decide) | exact leEq ‹_› (And.right ‹_›) (by decide) | exact leLt ‹_› ‹_› (by decide) | exact leLt ‹_› (And.right ‹_›) (by decide) | exact bd0 ‹_› (by decide) | exact bd0 (And.right ‹_›) (by decide) | omega) (by first | assumption | exact Nat.le_trans ‹_› (by decide) | exact Nat.le_trans (And.right ‹_›) (by decide) | exact mono2 (by decide) | exact Nat.add_le_add_left (by decide) _ | exact leEq ‹_› ‹_› (by decide) | exact leEq ‹_› (And.right ‹_›) (by decide) | exact leLt ‹_› ‹_› (by decide) | exact leLt ‹_› (And.right ‹_›) (by decide) | exact bd0 ‹_› (by decide) | exact bd0 (And.right ‹_›) (by decide) | omega) (by first | assumption | exact Nat.le_trans ‹_› (by decide) | exact Nat.le_trans (And.right ‹_›) (by decide) | exact mono2 (by decide) | exact Nat.add_le_add_left (by decide) _ | exact leEq ‹_› ‹_› (by decide) | exact leEq ‹_› (And.right ‹_›) (by decide) | exact leLt ‹_› ‹_› (by decide) | exact leLt ‹_› (And.right ‹_›) (by decide) | exact bd0 ‹_› (by decide) | exact bd0 (And.right ‹_›) (by decide) | omega))
          ⟨List.range (mod - 1), u, gr, rfl, by simp; omega, by simp; omega, rfl, by simp [upd], f5, f6, f7, f8, by simp⟩ ?_ (.inl rfl) (fun _ d hd => by unfold rngT at hd; obtain ⟨z, _, rfl⟩ := List.mem_map.mp hd; rfl)) ?_
        · rintro d rest ρ ⟨js, t, gr', hAll⟩
          refine an10 hAll fun i1 i2 i3 i4 i5 i6 i7 i8 i9 i10 => ?_
          obtain ⟨j, js, rfl, rfl, rfl⟩ := map_cons_inv i1
          refine ⟨_, rfl, ?_⟩
          simp only [List.length_cons] at i2 i3 i10
          have hal := addC_length t (turnOf row mv)
          rw [turn_len] at hal
          refine ExJ.cons (fun V => Ex1.assign (d := tT (addC t (turnOf row mv))) (swapsWith_plain rfl) (.inl rfl) fun c hc hg => Ev.callF (hg ▸ G.gnd) (by rw [hc]; rfl) rfl rfl (EvL.cons rfl (Ev.name i4 rfl) (.cons rfl (Ev.name i6 rfl) .nil)) (hg ▸ add_callers_ok (n := m) G (r.deeper.mono (by first | assumption | exact Nat.le_trans ‹_› (by decide) | exact Nat.le_trans (And.right ‹_›) (by decide) | exact mono2 (by decide) | exact Nat.add_le_add_left (by decide) _ | exact leEq ‹_› ‹_› (by decide) | exact leEq ‹_› (And.right ‹_›) (by decide) | exact leLt ‹_› ‹_› (by decide) | exact leLt ‹_› (And.right ‹_›) (by decide) | exact bd0 ‹_› (by decide) | exact bd0 (And.right ‹_›) (by decide) | omega)) (by rw [turn_len]; omega))) ?_
          refine ExJ.cons (fun V => Ex1.append (d := tT (addC t (turnOf row mv))) i5 rfl rfl rfl (fun c _ _ => Ev.name rfl rfl) (by simp; first | assumption | exact Nat.le_trans ‹_› (by decide) | exact Nat.le_trans (And.right ‹_›) (by decide) | exact mono2 (by decide) | exact Nat.add_le_add_left (by decide) _ | exact leEq ‹_› ‹_› (by decide) | exact leEq ‹_› (And.right ‹_›) (by decide) | exact leLt ‹_› ‹_› (by decide) | exact leLt ‹_› (And.right ‹_›) (by decide) | exact bd0 ‹_› (by decide) | exact bd0 (And.right ‹_›) (by decide) | omega)) ?_
          refine .nil ⟨js, addC t (turnOf row mv), gr' ++ [t], rfl, by omega, by simp; omega, rfl, ?_, i6, i7, i8, i9, ?_⟩
          · simp [upd]
          · rw [← i10]; simp [chain]
        · rintro ρ' ⟨js, t, gr', hAll⟩
          refine an10 hAll fun i1 i2 i3 i4 i5 i6 i7 i8 i9 i10 => ?_
          obtain rfl := map_nil_inv i1
          refine .nil ⟨us, gr' ++ [t], rfl, fun z hz => f2 z (.tail _ hz), ?_, i5, i6, i7, i8, i9, ?_⟩
          · have := congrArg List.length i10
            simp [chain_len, chain] at this
            simp; omega
          · have e : gr' ++ [t] = gr ++ chain (turnOf row mv) (mod - 1) u := i10
            rw [e, ← f9]; simp
      · rintro ρ' ⟨us, gr, hAll⟩
        refine an9 hAll fun f1 f2 f3 f4 f5 f6 f7 f8 f9 => ?_
        obtain rfl := map_nil_inv f1
        have f9' : gr = ts.flatMap (chain (turnOf row mv) (mod - 1)) := by simpa using f9
        refine ExJ.cons (fun V => Ex1.ofDis (Ex1.assign (d := .list (gr.map tT)) (swapsWith_plain rfl) (.inl rfl) fun c _ _ => Ev.name (by unfold dis; rw [f4]) rfl)) ?_
        have hpre : tabsFrom row mod ms gr = tabsFrom row mod (List.range copies) [[]] := by rw [f9', ← h9]; rfl
        refine .nil ⟨ms, gr, rfl, fun k hk => h2 k (.tail _ hk), by first | exact Nat.le_of_succ_le h3 | omega, ?_, ?_, rfl, ?_, ?_, ?_, hpre⟩
        · rw [f9', List.length_flatMap]
          have : (ts.map fun a => (chain (turnOf row mv) (mod - 1) a).length) = List.replicate ts.length mod := by
            rw [List.eq_replicate_iff]
            refine ⟨by simp, fun b hb => ?_⟩
            obtain ⟨a, _, rfl⟩ := List.mem_map.mp hb
            rw [chain_len]; first | exact Nat.sub_add_cancel hm | omega
          rw [this, List.sum_replicate_nat, h4, ← Nat.pow_succ]
          congr 1; first | exact (subS h3).symm | omega
        · intro t ht
          rw [f9'] at ht
          obtain ⟨a, ha, hta⟩ := List.mem_flatMap.mp ht
          have b1 := chain_bound _ _ _ t hta
          have b2 := h4' a ha
          rw [turn_len] at b1
          have b3 : (mod - 1) * row.length ≤ mod * 20 := Nat.mul_le_mul (by first | assumption | exact Nat.le_trans ‹_› (by decide) | exact Nat.le_trans (And.right ‹_›) (by decide) | exact mono2 (by decide) | exact Nat.add_le_add_left (by decide) _ | exact leEq ‹_› ‹_› (by decide) | exact leEq ‹_› (And.right ‹_›) (by decide) | exact leLt ‹_› ‹_› (by decide) | exact leLt ‹_› (And.right ‹_›) (by decide) | exact bd0 ‹_› (by decide) | exact bd0 (And.right ‹_›) (by decide) | omega) hr
          have b4 : copies - ms.length = (copies - (ms.length + 1)) + 1 := by first | exact subS h3 | omega
          rw [b4, Nat.succ_mul]; first | exact Nat.le_trans b1 (Nat.add_le_add b2 b3) | omega
        · show dis ρ' "row" = _; unfold dis; rw [f6]
        · show dis ρ' "size" = _; unfold dis; rw [f7]
        · show dis ρ' "modulus" = _; unfold dis; rw [f8]
    · rintro ρ' ⟨ms, ts, hAll⟩
      refine an10 hAll fun h1 h2 h3 h4 h4' h5 h6 h7 h8 h9 => ?_
      obtain rfl := map_nil_inv h1
      have h9' : ts = tabsFrom row mod (List.range copies) [[]] := h9
      refine Ex.cons_ret (Ex1.ret fun c hc hg => ?_)
      have e : ((sumsOf row copies size mod).map fun l => T.list (l.map .int)) = ts.map fun t => T.list ((List.range size).map fun (k : Nat) => T.int (((iat t (k : Int)).getD 0).fmod mod)) := by
        rw [h9']; simp [sumsOf]
      rw [e]
      have hp' : ts.length ≤ 10000 := by rw [h4]; simpa using hp
      refine Ev.listComp (cl := [(("size" : Str), L + 2), (("modulus" : Str), L + 3)]) (CompOk.mk' (by rw [hc]; rfl) rfl (by decide) (.inr ⟨rfl, fun _ => ⟨_, rfl⟩⟩) (show [("size" : Str), "modulus"].Nodup by decide) (by rw [hc]; exact List.forall_mem_cons.mpr ⟨⟨rfl, rfl, .inl rfl, fun _ => rfl⟩, List.forall_mem_cons.mpr ⟨⟨rfl, rfl, .inl rfl, fun _ => rfl⟩, fun _ h => nomatch h⟩⟩)) (fun _ => rfl)
        (GivesC.list r.h (Ev.name (d := .list (ts.map tT)) (by unfold dis; rw [h5]) rfl)) (hn_map fun _ => rfl) ?_ (by simp; first | assumption | exact Nat.le_trans ‹_› (by decide) | exact Nat.le_trans (And.right ‹_›) (by decide) | exact mono2 (by decide) | exact Nat.add_le_add_left (by decide) _ | exact leEq ‹_› ‹_› (by decide) | exact leEq ‹_› (And.right ‹_›) (by decide) | exact leLt ‹_› ‹_› (by decide) | exact leLt ‹_› (And.right ‹_›) (by decide) | exact bd0 ‹_› (by decide) | exact bd0 (And.right ‹_›) (by decide) | omega)
      refine CL.map _ _ _ fun t ht C c' hc' hg' => ?_
      have j7 : upd (inn [(("size" : Str), L + 2), (("modulus" : Str), L + 3)] (dis ρ')) "table" (.v (tT t)) "size" = some (.v (.int size)) := inn_upd (a := L + 2) rfl rfl (by unfold dis; rw [h7])
      have j8 : upd (inn [(("size" : Str), L + 2), (("modulus" : Str), L + 3)] (dis ρ')) "table" (.v (tT t)) "modulus" = some (.v (.int mod)) := inn_upd (a := L + 3) rfl rfl (by unfold dis; rw [h8])
      refine Ev.listComp (cl := [(("table" : Str), C + 1), (("modulus" : Str), L + 3)]) (ds := rngT 0 1 size) (CompOk.mk' (by rw [hc', hc]; rfl) rfl (by decide) (.inl rfl) (show [("table" : Str), "modulus"].Nodup by decide) (by rw [hc', hc]; exact List.forall_mem_cons.mpr ⟨⟨rfl, rfl, .inl rfl, fun _ => rfl⟩, List.forall_mem_cons.mpr ⟨⟨rfl, rfl, .inl rfl, fun _ => rfl⟩, fun _ h => nomatch h⟩⟩)) (fun _ => rfl)
        (GivesC.range1 r.h (hg' ▸ hg ▸ G.gnd) (by rw [hc', hc]; rfl) (G.bi "range" (by decide)).1 ((G.bi "range" (by decide)).2.trans rfl) rfl (Ev.name j7 rfl) (by first | assumption | exact Nat.le_trans ‹_› (by decide) | exact Nat.le_trans (And.right ‹_›) (by decide) | exact mono2 (by decide) | exact Nat.add_le_add_left (by decide) _ | exact leEq ‹_› ‹_› (by decide) | exact leEq ‹_› (And.right ‹_›) (by decide) | exact leLt ‹_› ‹_› (by decide) | exact leLt ‹_› (And.right ‹_›) (by decide) | exact bd0 ‹_› (by decide) | exact bd0 (And.right ‹_›) (by decide) | omega)) (by rw [rng_map]; exact hn_map fun _ => rfl) ?_ (by simp [rngT]; first | assumption | exact Nat.le_trans ‹_› (by decide) | exact Nat.le_trans (And.right ‹_›) (by decide) | exact mono2 (by decide) | exact Nat.add_le_add_left (by decide) _ | exact leEq ‹_› ‹_› (by decide) | exact leEq ‹_› (And.right ‹_›) (by decide) | exact leLt ‹_› ‹_› (by decide) | exact leLt ‹_› (And.right ‹_›) (by decide) | exact bd0 ‹_› (by decide) | exact bd0 (And.right ‹_›) (by decide) | omega)
      rw [rng_map]
      refine CL.map _ _ _ fun k hk C2 c2 hc2 hg2 => ?_
      refine Ev.bin (a := .int ((iat t (k : Int)).getD 0)) (b := .int mod) ?_ (Ev.name (inn_upd (a := L + 3) rfl rfl j8) rfl) (binop_ok (mod' (by first | assumption | exact Nat.le_trans ‹_› (by decide) | exact Nat.le_trans (And.right ‹_›) (by decide) | exact mono2 (by decide) | exact Nat.add_le_add_left (by decide) _ | exact leEq ‹_› ‹_› (by decide) | exact leEq ‹_› (And.right ‹_›) (by decide) | exact leLt ‹_› ‹_› (by decide) | exact leLt ‹_› (And.right ‹_›) (by decide) | exact bd0 ‹_› (by decide) | exact bd0 (And.right ‹_›) (by decide) | omega)))
      have hget := get_ok (prog := prog) (w := w) (A := A.deeper (fenv 19 pm code doc L fa)) (es := dInt t) (k := k) (d := .int 0)
      have e3 : (vat (dInt t) (k : Int)).getD (.int 0) = .int ((iat t (k : Int)).getD 0) := by
        rw [dInt_at]; cases iat t (k : Int) <;> rfl
      rw [e3] at hget
      exact Ev.meth rfl rfl rfl (by decide) PySem.F.plainAttrs_dict PySem.F.slot_dict_get PySem.F.type_dict_get rfl (Ev.name (d := tT t) (inn_upd (a := C + 1) rfl rfl rfl) rfl) (EvL.cons rfl (Ev.name rfl rfl) (.cons rfl Ev.int .nil)) hget
end Mine
set_option maxRecDepth 10000
namespace Mine
open PySem PySem.Calls PySem.W PySem.Builtin PySem.Builtin.Str

/-- one sign put for another's writing -/
def rep1 (c : Nat) (z : List Nat) (k : Nat) : List Nat := if k = c then z else [k]
theorem rep_free (c : Nat) (z : List Nat) : ∀ l : List Nat, c ∉ l → l.flatMap (rep1 c z) = l
  | [], _ => rfl
  | k :: r, h => by
    have h1 : ¬ k = c := fun e => h (e ▸ List.mem_cons_self ..)
    rw [List.flatMap_cons, rep_free c z r fun m => h (List.mem_cons_of_mem _ m)]
    unfold rep1
    rw [if_neg h1]; rfl
theorem rep_join (c : Nat) (z : List Nat) : ∀ parts : List Str, (∀ p ∈ parts, c ∉ p.cps.toList) → (Str.join ⟨#[c]⟩ parts).cps.toList.flatMap (rep1 c z) = (Str.join ⟨z.toArray⟩ parts).cps.toList
  | [], _ => rfl
  | [p], h => rep_free c z _ (h p (List.mem_singleton.mpr rfl))
  | p :: q :: r, h => by
    have ih := rep_join c z (q :: r) fun a ha => h a (List.mem_cons_of_mem _ ha)
    show (p ++ ⟨#[c]⟩ ++ Str.join ⟨#[c]⟩ (q :: r)).cps.toList.flatMap (rep1 c z) = (p ++ ⟨z.toArray⟩ ++ Str.join ⟨z.toArray⟩ (q :: r)).cps.toList
    simp only [Str.cps_append, Array.toList_append, List.flatMap_append]
    rw [ih, rep_free c z _ (h p (List.mem_cons_self ..))]
    simp [rep1]
theorem replace_rep (x : Str) (c : Nat) (z : List Nat) : (Txt.replace x ⟨#[c]⟩ ⟨z.toArray⟩).cps.toList = x.cps.toList.flatMap (rep1 c z) := by
  rw [StrLaws.replace_one, ← rep_join c z _ (StrLaws.split_free x c), StrLaws.join_split]
theorem esc1_rep (x : Str) (c : Nat) (z : List Nat) : (esc1 ⟨#[c]⟩ ⟨z.toArray⟩ x).cps.toList = x.cps.toList.flatMap (rep1 c z) := by
  unfold esc1
  split
  · rename_i h
    have := StrLaws.found_one x c
    rw [h] at this
    rw [rep_free]
    simpa using this
  · exact replace_rep x c z

def repTab : List (Nat × List Nat) := [(38, [38, 97, 109, 112, 59]), (60, [38, 108, 116, 59]), (34, [38, 113, 117, 111, 116, 59]), (9, [38, 35, 120, 57, 59]), (10, [38, 35, 120, 65, 59]), (13, [38, 35, 120, 68, 59])]
theorem escTab_rep : escTab = repTab.map fun p => ((⟨#[p.1]⟩ : Str), (⟨p.2.toArray⟩ : Str)) := by decide +kernel
theorem escFold_rep : ∀ (t : List (Nat × List Nat)) (x : Str), ((t.map fun p => ((⟨#[p.1]⟩ : Str), (⟨p.2.toArray⟩ : Str))).foldl (fun x p => esc1 p.1 p.2 x) x).cps.toList = t.foldl (fun l p => l.flatMap (rep1 p.1 p.2)) x.cps.toList
  | [], x => rfl
  | p :: t, x => by
    simp only [List.map_cons, List.foldl_cons]
    rw [escFold_rep t, esc1_rep]
def repAll (l : List Nat) : List Nat := repTab.foldl (fun l p => l.flatMap (rep1 p.1 p.2)) l
theorem escAll_rep (x : Str) : (escAll x).cps.toList = repAll x.cps.toList := by
  unfold escAll repAll; rw [escTab_rep]; exact escFold_rep _ _
theorem repFold_append : ∀ (t : List (Nat × List Nat)) (a b : List Nat), t.foldl (fun l p => l.flatMap (rep1 p.1 p.2)) (a ++ b) = t.foldl (fun l p => l.flatMap (rep1 p.1 p.2)) a ++ t.foldl (fun l p => l.flatMap (rep1 p.1 p.2)) b
  | [], _, _ => rfl
  | p :: t, a, b => by simp only [List.foldl_cons, List.flatMap_append]; exact repFold_append t _ _
theorem rep_grow (p : Nat × List Nat) (hp : p.2.length ≤ 6) : ∀ l : List Nat, (l.flatMap (rep1 p.1 p.2)).length ≤ 6 * l.length
  | [] => by simp
  | k :: l => by
    have := rep_grow p hp l
    rw [List.flatMap_cons, List.length_append, List.length_cons]
    have : (rep1 p.1 p.2 k).length ≤ 6 := by
      unfold rep1; split
      · exact hp
      · simp
    omega
theorem repFold_grow : ∀ (t : List (Nat × List Nat)), (∀ p ∈ t, p.2.length ≤ 6) → ∀ l : List Nat, (t.foldl (fun l p => l.flatMap (rep1 p.1 p.2)) l).length ≤ 6 ^ t.length * l.length
  | [], _, l => by simp
  | p :: t, h, l => by
    have h1 := repFold_grow t (fun q hq => h q (.tail _ hq)) (l.flatMap (rep1 p.1 p.2))
    have h2 := rep_grow p (h p (.head _)) l
    simp only [List.foldl_cons, List.length_cons, Nat.pow_succ]
    refine Nat.le_trans h1 ?_
    rw [Nat.mul_assoc]
    exact Nat.mul_le_mul_left _ h2
theorem esc_fits {x : Str} (h : x.cps.toList.length ≤ 20) : EscFits x := fun k => by
  have e : escTab.take k = (repTab.take k).map fun p => ((⟨#[p.1]⟩ : Str), (⟨p.2.toArray⟩ : Str)) := by rw [escTab_rep, List.map_take]
  rw [e]
  have h1 := escFold_rep (repTab.take k) x
  show ((((repTab.take k).map fun p => ((⟨#[p.1]⟩ : Str), (⟨p.2.toArray⟩ : Str))).foldl (fun x p => esc1 p.1 p.2 x) x).cps).size ≤ _
  rw [← Array.length_toList, h1]
  have h2 := repFold_grow (repTab.take k) (fun p hp => (by decide : ∀ p ∈ repTab, p.2.length ≤ 6) p (List.mem_of_mem_take hp)) x.cps.toList
  have h3 : (repTab.take k).length ≤ 6 := by rw [List.length_take]; exact Nat.min_le_right _ _
  have h4 : 6 ^ (repTab.take k).length ≤ 6 ^ 6 := Nat.pow_le_pow_right (by decide) h3
  exact Nat.le_trans h2 (Nat.le_trans (Nat.mul_le_mul h4 h) (by decide))

/-- the signs of the figures and what is written for them -/
def bares : List Nat := [111, 62, 59, 39]
def signN (b f : Nat) : Nat := [b, 38, 60, 34, 9, 10, 13].getD f 0
def nameN (b f : Nat) : List Nat := [[b], [38, 97, 109, 112, 59], [38, 108, 116, 59], [38, 113, 117, 111, 116, 59], [38, 35, 120, 57, 59], [38, 35, 120, 65, 59], [38, 35, 120, 68, 59]].getD f []
theorem one_written : ∀ b ∈ bares, ∀ f ∈ List.range 7, repAll [signN b f] = nameN b f := by decide
theorem all_written {b : Nat} (hb : b ∈ bares) : ∀ (word : List Nat), (∀ f ∈ word, f < 7) → repAll (word.map (signN b)) = word.flatMap (nameN b)
  | [], _ => rfl
  | f :: word, h => by
    have ih := all_written hb word fun g hg => h g (.tail _ hg)
    rw [List.map_cons, List.flatMap_cons, ← ih, ← one_written b hb f (List.mem_range.mpr (h f (.head _)))]
    exact repFold_append repTab [signN b f] (word.map (signN b))
def wText (b : Nat) (word : List Nat) : Str := ⟨(word.flatMap (nameN b)).toArray⟩
theorem esc_word {b : Nat} (hb : b ∈ bares) {word : List Nat} (h : ∀ f ∈ word, f < 7) : escAll ⟨(word.map (signN b)).toArray⟩ = wText b word := by
  apply Str.ext'
  apply Array.toList_inj.mp
  rw [escAll_rep]
  show repAll (word.map (signN b)) = _
  rw [all_written hb word h]; rfl

/-- reading -/
def namesS (b : Nat) : List Str := [⟨#[b]⟩, "&amp;", "&lt;", "&quot;", "&#x9;", "&#xA;", "&#xD;"]
theorem namesS_eq : ∀ b ∈ bares, ∀ f ∈ List.range 7, (namesS b)[f]? = some ⟨(nameN b f).toArray⟩ ∧ (namesS b).findIdx? (· == ⟨(nameN b f).toArray⟩) = some f ∧ (namesS b).any (· == ⟨(nameN b f).toArray⟩) = true := by decide +kernel
theorem nameN_head : ∀ b ∈ bares, ∀ f ∈ List.range 7, (nameN b f)[0]? = some (if f = 0 then b else 38) ∧ (b ≠ 38) ∧ (f ≠ 0 → (nameN b f)[(nameN b f).length - 1]? = some 59 ∧ 59 ∉ (nameN b f).take ((nameN b f).length - 1)) ∧ 1 ≤ (nameN b f).length ∧ (nameN b f).length ≤ 6 ∧ (f = 0 → (nameN b f).length = 1) := by decide
theorem wText_len {b : Nat} : ∀ (word : List Nat), b ∈ bares → (∀ f ∈ word, f < 7) → (word.flatMap (nameN b)).length ≤ 6 * word.length
  | [], _, _ => by simp
  | f :: word, hb, h => by
    have ih := wText_len word hb fun g hg => h g (.tail _ hg)
    have := (nameN_head b hb f (List.mem_range.mpr (h f (.head _)))).2.2.2.2.1
    rw [List.flatMap_cons, List.length_append, List.length_cons]
    omega
theorem find_semi {l r : List Nat} {k : Nat} (h1 : l[k]? = some 59) (h2 : 59 ∉ l.take k) : findS ⟨(l ++ r).toArray⟩ ";" = (k : Int) := by
  have e : (";" : Str) = ⟨#[59]⟩ := by decide +kernel
  rw [e]
  have hk : k < l.length := (List.getElem?_eq_some_iff.mp h1).1
  have hat : ∀ i, StrLaws.At ⟨(l ++ r).toArray⟩ ⟨#[59]⟩ (⟨(l ++ r).toArray⟩ : Str).length i ↔ (l ++ r)[i]? = some 59 := fun i => StrLaws.subAt_one ⟨(l ++ r).toArray⟩ 59 i
  unfold findS
  rcases StrLaws.occ_head ⟨(l ++ r).toArray⟩ ⟨#[59]⟩ 1 (by decide) with ⟨h, hn⟩ | ⟨i, t, h, ha, hn⟩
  · exact absurd ((hat k).mpr (by rw [List.getElem?_append_left hk]; exact h1)) (hn k)
  · rw [h]
    have ha' := (hat i).mp ha
    show (i : Int) = k
    rcases Nat.lt_trichotomy i k with hlt | heq | hgt
    · exfalso
      rw [List.getElem?_append_left (by first | assumption | exact Nat.le_trans ‹_› (by decide) | exact Nat.le_trans (And.right ‹_›) (by decide) | exact mono2 (by decide) | exact Nat.add_le_add_left (by decide) _ | exact leEq ‹_› ‹_› (by decide) | exact leEq ‹_› (And.right ‹_›) (by decide) | exact leLt ‹_› ‹_› (by decide) | exact leLt ‹_› (And.right ‹_›) (by decide) | exact bd0 ‹_› (by decide) | exact bd0 (And.right ‹_›) (by decide) | omega)] at ha'
      apply h2
      rw [List.mem_iff_getElem?]
      exact ⟨i, by rw [List.getElem?_take_of_lt hlt]; exact ha'⟩
    · rw [heq]
    · exact absurd ((hat k).mpr (by rw [List.getElem?_append_left hk]; exact h1)) (hn k hgt)
theorem slice_to {l r : List Nat} : Txt.slice ⟨(l ++ r).toArray⟩ none (some (l.length : Int)) = ⟨l.toArray⟩ := by
  show StrLaws.sliceText ⟨(l ++ r).toArray⟩ none (some (l.length : Int)) = _
  rw [StrLaws.sliceText_to ⟨by omega, by show (l.length : Int) ≤ ((l ++ r).length : Int); rw [List.length_append]; omega⟩]
  simp
theorem slice_from {l r : List Nat} : Txt.slice ⟨(l ++ r).toArray⟩ (some (l.length : Int)) none = ⟨r.toArray⟩ := by
  show StrLaws.sliceText ⟨(l ++ r).toArray⟩ (some (l.length : Int)) none = _
  rw [StrLaws.sliceText_from ⟨by omega, by show (l.length : Int) ≤ ((l ++ r).length : Int); rw [List.length_append]; omega⟩]
  simp
  exact List.take_of_length_le (by first | assumption | exact Nat.le_trans ‹_› (by decide) | exact Nat.le_trans (And.right ‹_›) (by decide) | exact mono2 (by decide) | exact Nat.add_le_add_left (by decide) _ | exact leEq ‹_› ‹_› (by decide) | exact leEq ‹_› (And.right ‹_›) (by decide) | exact leLt ‹_› ‹_› (by decide) | exact leLt ‹_› (And.right ‹_›) (by decide) | exact bd0 ‹_› (by decide) | exact bd0 (And.right ‹_›) (by decide) | omega)
end Mine
set_option maxRecDepth 10000
namespace Mine
open PySem PySem.Calls PySem.W

variable {prog : Program} {w : World} {A : Around} {g : Heap} {env : Env} {ow : List (Str × Addr)} {V : List Addr} {ρ : Str → Option B} {c : Cx} {mg mb : Str → Option Value}

theorem strsOf_map : ∀ l : List Str, strsOf (l.map T.str) = some l
  | [] => rfl
  | x :: l => by show (strsOf (l.map T.str)).map (x :: ·) = _; rw [strsOf_map l]; rfl
theorem wText_cons {b f : Nat} {ws : List Nat} : wText b (f :: ws) = ⟨(nameN b f ++ ws.flatMap (nameN b)).toArray⟩ := rfl

theorem law_read_ok {m b : Nat} {word : List Nat} (G : Gr g mg mb) (r : Room A (m + 8)) (hb : b ∈ bares) (hw : ∀ f ∈ word, f < 7) (hl : word.length ≤ 20) :
    Fn prog w g mg A (nameAt 20) [.str (wText b word), .list ((namesS b).map .str)] (.list (word.map fun (f : Nat) => T.int f)) := by
  refine Fn.of (names := ["writing", "names"]) G (by decide) r.limit (fun pm code doc vs hl => ?_) rfl (by decide) ?_ (by decide) rfl rfl rfl fun pm code doc L fa V hcode => ?_
  · obtain ⟨_, _, rfl⟩ := len2 hl; rfl
  · intro n hn; simp only [List.mem_cons, List.not_mem_nil, or_false] at hn; rcases hn with rfl | rfl <;> exact .inl rfl
  · conv => arg 9; whnf
    have r4 : Room (A.deeper (fenv 20 pm code doc L fa)) 4 := Room.mono r.deeper (by first | assumption | exact Nat.le_trans ‹_› (by decide) | exact Nat.le_trans (And.right ‹_›) (by decide) | exact mono2 (by decide) | exact Nat.add_le_add_left (by decide) _ | exact leEq ‹_› ‹_› (by decide) | exact leEq ‹_› (And.right ‹_›) (by decide) | exact leLt ‹_› ‹_› (by decide) | exact leLt ‹_› (And.right ‹_›) (by decide) | exact bd0 ‹_› (by decide) | exact bd0 (And.right ‹_›) (by decide) | omega)
    refine Ex.cons_next (Ex1.assignNew (d := .list []) rfl (.inl rfl) fun c _ h => EvNew.list) ?_
    refine Ex.consJ (Ex1.whileJ (fun n ρ => ∃ (ws dn : List Nat), ws.length = n ∧ dn ++ ws = word ∧ ρ "writing" = some (.v (.str (wText b ws))) ∧ ρ "names" = some (.v (.list ((namesS b).map .str))) ∧ ρ "figures" = some (.o (.list (dn.map fun (f : Nat) => T.int f)))) ?_ ?_ word.length _ ⟨word, [], rfl, rfl, rfl, rfl, rfl⟩) ?_
    · rintro n ρ ⟨ws, dn, hAll⟩
      refine an5 hAll fun h1 h2 h3 h4 h5 => ?_
      cases ws with
      | nil => cases h1
      | cons f ws =>
        have hf : f < 7 := hw f (by rw [← h2]; simp)
        have hws : ∀ f ∈ ws, f < 7 := fun g hg => hw g (by rw [← h2]; simp [hg])
        have hfm := List.mem_range.mpr hf
        obtain ⟨n1, n2, n3, n4, n5, n6⟩ := nameN_head b hb f hfm
        obtain ⟨s1, s2, s3⟩ := namesS_eq b hb f hfm
        rw [wText_cons] at h3
        have hlen := wText_len (b := b) ws hb hws
        have hwl : ws.length ≤ 20 := by have := congrArg List.length h2; simp at this; omega
        have hdl : dn.length ≤ 20 := by have := congrArg List.length h2; simp at this; omega
        have hsz : (⟨(nameN b f ++ ws.flatMap (nameN b)).toArray⟩ : Str).length ≤ 1000000 := by
          show (nameN b f ++ ws.flatMap (nameN b)).length ≤ _
          rw [List.length_append]; omega
        have hne : ((⟨(nameN b f ++ ws.flatMap (nameN b)).toArray⟩ : Str) != "") = true := by
          rw [bne_iff_ne]
          intro e
          have e' : (nameN b f ++ ws.flatMap (nameN b)).length = 0 := congrArg (fun s : Str => s.cps.size) e
          rw [List.length_append] at e'; omega
        refine ⟨fun c hc hg => EvT.cmp rfl (Ev.name h3 rfl) Ev.str (.b hne ne_str_ok), ?_⟩
        refine ExJ.cons (fun V => Ex1.assign (d := .int 1) (swapsWith_plain rfl) (.inl rfl) fun c hc hg => Ev.int) ?_
        refine ExJ.single (Ex1.iteJ (J1 := fun ρ' => ρ' "writing" = some (.v (.str ⟨(nameN b f ++ ws.flatMap (nameN b)).toArray⟩)) ∧ ρ' "names" = some (.v (.list ((namesS b).map .str))) ∧ ρ' "figures" = some (.o (.list (dn.map fun (f : Nat) => T.int f))) ∧ ρ' "end" = some (.v (.int (nameN b f).length))) (!(f == 0)) (fun c hc hg => ?_) (fun hb' => ?_) fun hb' => ?_) ?_
        · refine EvT.cmp rfl (a := .str ⟨#[if f = 0 then b else 38]⟩) (b := .str "&") (Ev.sub (a := .str ⟨(nameN b f ++ ws.flatMap (nameN b)).toArray⟩) (b := .int 0) rfl (Ev.name h3 rfl) Ev.int (item_ok ?_)) Ev.str (.b ?_ eq_str_ok)
          · show (if 0 ≤ (0 : Int) ∧ (0 : Int) < 1000000 then ((nameN b f ++ ws.flatMap (nameN b)).toArray[(0 : Int).toNat]?).map fun c => T.str ⟨#[c]⟩ else none) = _
            rw [if_pos (by decide)]
            have : (nameN b f ++ ws.flatMap (nameN b)).toArray[(0 : Int).toNat]? = (nameN b f ++ ws.flatMap (nameN b))[0]? := by simp
            rw [this, List.getElem?_append_left (by first | assumption | exact Nat.le_trans ‹_› (by decide) | exact Nat.le_trans (And.right ‹_›) (by decide) | exact mono2 (by decide) | exact Nat.add_le_add_left (by decide) _ | exact leEq ‹_› ‹_› (by decide) | exact leEq ‹_› (And.right ‹_›) (by decide) | exact leLt ‹_› ‹_› (by decide) | exact leLt ‹_› (And.right ‹_›) (by decide) | exact bd0 ‹_› (by decide) | exact bd0 (And.right ‹_›) (by decide) | omega), n1]; rfl
          · show ((⟨#[if f = 0 then b else 38]⟩ : Str) == "&") = (!(f == 0))
            have e : ("&" : Str) = ⟨#[38]⟩ := by decide +kernel
            rw [e]
            by_cases h0 : f = 0
            · subst h0
              have : ((⟨#[b]⟩ : Str) == ⟨#[38]⟩) = false := by
                apply Bool.eq_false_iff.mpr; intro hh
                have e := eq_of_beq hh
                injection e with e1; simp at e1; exact n2 e1
              simp [this]
            · simp [h0]
        · have h0 : f ≠ 0 := by simpa using hb'
          obtain ⟨m1, m2⟩ := n3 h0
          refine ExJ.cons (fun V => Ex1.assign (d := .int (nameN b f).length) (swapsWith_plain rfl) (.inl rfl) fun c hc hg => ?_) (.nil ⟨h3, h4, h5, rfl⟩)
          have hmax : ((nameN b f).length : Int) = max 1 ((((nameN b f).length - 1 : Nat) : Int) + 1) := by omega
          rw [hmax]
          refine Ev.callG (hg ▸ G) (by decide) (by rw [hc]; rfl) rfl rfl rfl rfl (EvL.cons rfl Ev.int (.cons rfl (Ev.bin (a := .int ((nameN b f).length - 1 : Nat)) (b := .int 1) ?_ Ev.int (binop_ok rfl)) .nil)) (max_ok r.h)
          have hfind := find_ok (prog := prog) (w := w) (A := A.deeper (fenv 20 pm code doc L fa)) (x := ⟨(nameN b f ++ ws.flatMap (nameN b)).toArray⟩) (y := ";")
          rw [find_semi m1 m2] at hfind
          exact Ev.meth rfl rfl rfl (by decide) PySem.F.plainAttrs_str PySem.F.slot_str_find PySem.F.type_str_find rfl (Ev.name h3 rfl) (EvL.cons rfl Ev.str .nil) hfind
        · have h0 : f = 0 := by simpa using hb'
          exact .nil ⟨h3, h4, h5, by rw [n6 h0]; rfl⟩
        · rintro ρ' ⟨g3, g4, g5, g6⟩
          have hcut : ∀ c : Cx, c.env = fenv 20 pm code doc L fa → c.g = g → ∀ {p pos p1 p2 : Pos}, Ev prog w (A.deeper (fenv 20 pm code doc L fa)) c ρ' (.Subscript (.Name "writing" p1) (.Slice none (some (.Name "end" p2)) none p) pos) (.str ⟨(nameN b f).toArray⟩) := fun c hc hg {p pos p1 p2} =>
            Ev.cut (lo := none) (hi := some ((nameN b f).length : Int)) (st := none) (Ev.name g3 rfl) .none (.some (Ev.name g6 rfl)) .none (by
              show (if _ then some (T.str (Txt.slice _ _ _)) else none) = _
              rw [if_pos hsz, slice_to])
          refine ExJ.cons (fun V => Ex1.append (d := .int f) g5 rfl rfl rfl (fun c hc hg => ?_) (by simp; first | assumption | exact Nat.le_trans ‹_› (by decide) | exact Nat.le_trans (And.right ‹_›) (by decide) | exact mono2 (by decide) | exact Nat.add_le_add_left (by decide) _ | exact leEq ‹_› ‹_› (by decide) | exact leEq ‹_› (And.right ‹_›) (by decide) | exact leLt ‹_› ‹_› (by decide) | exact leLt ‹_› (And.right ‹_›) (by decide) | exact bd0 ‹_› (by decide) | exact bd0 (And.right ‹_›) (by decide) | omega)) ?_
          · refine Ev.ifexp (b := true) (EvT.cmp rfl (hcut c hc hg) (Ev.name g4 rfl) (.b s3 (in_strs_ok (strsOf_map _)))) (fun _ => ?_) (fun h => by cases h)
            · exact Ev.meth rfl rfl rfl (by decide) PySem.F.plainAttrs_list PySem.F.slot_list_index PySem.F.type_list_index rfl (Ev.name g4 rfl) (EvL.cons rfl (hcut c hc hg) .nil) (index_ok (strsOf_map _) s2 (by simp [namesS]))
          refine ExJ.cons (fun V => Ex1.assign (d := .str (wText b ws)) (swapsWith_plain rfl) (.inl rfl) fun c hc hg => Ev.cut (lo := some ((nameN b f).length : Int)) (hi := none) (st := none) (Ev.name g3 rfl) (.some (Ev.name g6 rfl)) .none .none (by
              show (if _ then some (T.str (Txt.slice _ _ _)) else none) = _
              rw [if_pos hsz, slice_from]; rfl)) ?_
          refine .nil ⟨ws, dn ++ [f], by simpa using h1, by rw [← h2]; simp, rfl, g4, ?_⟩
          show some (B.o (.list ((dn.map fun (f : Nat) => T.int f) ++ [.int f]))) = _
          simp
    · rintro ρ ⟨ws, dn, hAll⟩
      refine an5 hAll fun h1 h2 h3 h4 h5 => ?_
      have : ws = [] := List.eq_nil_of_length_eq_zero h1
      subst this
      exact fun c hc hg => EvT.cmp rfl (Ev.name h3 rfl) Ev.str (.b rfl ne_str_ok)
    · rintro ρ' ⟨ws, dn, hAll⟩
      refine an5 hAll fun h1 h2 h3 h4 h5 => ?_
      have : ws = [] := List.eq_nil_of_length_eq_zero h1
      subst this
      have e : dn = word := by simpa using h2
      rw [← e]
      exact Ex.cons_ret (Ex1.ret fun c _ _ => Ev.name (by unfold dis; rw [h5]) rfl)

def facN (w : List Nat) (ones others : List Int) (k : Nat) : Int := if w.getD k 0 = 0 then ones.getD k 0 else others.getD k 0
def prodN (w : List Nat) (ones others : List Int) : Int := (List.range w.length).foldl (fun x k => x * facN w ones others k) 1
def worthN (ws : List (List Nat)) (ones others : List Int) : Int := ws.foldl (fun x w => x + prodN w ones others) 0
theorem bits_prod {x : Int} {k : Nat} (h : x.natAbs < 2 ^ (40 * k + 1)) (hk : k ≤ 100) : bits x ≤ 100000 := Nat.le_trans (bits_le h) (by first | assumption | exact Nat.le_trans ‹_› (by decide) | exact Nat.le_trans (And.right ‹_›) (by decide) | exact mono2 (by decide) | exact Nat.add_le_add_left (by decide) _ | exact leEq ‹_› ‹_› (by decide) | exact leEq ‹_› (And.right ‹_›) (by decide) | exact leLt ‹_› ‹_› (by decide) | exact leLt ‹_› (And.right ‹_›) (by decide) | exact bd0 ‹_› (by decide) | exact bd0 (And.right ‹_›) (by decide) | omega)

theorem join_ones_text (b : Nat) : ∀ l : List Nat, Str.join "" (l.map fun f => (⟨#[signN b f]⟩ : Str)) = ⟨(l.map (signN b)).toArray⟩
  | [] => by
    have e : ("" : Str) = ⟨#[]⟩ := by decide +kernel
    show Str.join "" [] = ⟨#[]⟩
    rfl
  | [a] => rfl
  | a :: a' :: l => by
    show (⟨#[signN b a]⟩ : Str) ++ "" ++ Str.join "" ((a' :: l).map fun f => (⟨#[signN b f]⟩ : Str)) = _
    rw [join_ones_text b (a' :: l)]
    have e : ("" : Str) = ⟨#[]⟩ := by decide +kernel
    rw [e]
    apply Str.ext'
    apply Array.toList_inj.mp
    simp [Str.cps_append]
theorem lens_ones (b : Nat) : ∀ l : List Nat, ((l.map fun f => (⟨#[signN b f]⟩ : Str)).map (·.length)).sum = l.length
  | [] => rfl
  | a :: l => by
    simp only [List.map_cons, List.sum_cons, List.length_cons]
    rw [lens_ones b l]
    show 1 + l.length = _
    omega
theorem join_signs {b : Nat} (wd : List Nat) (h : wd.length ≤ 20) : Op prog w A (fun vs => call (.builtin "str.join") vs) [.str "", .list (wd.map fun f => T.str ⟨#[signN b f]⟩)] (.str ⟨(wd.map (signN b)).toArray⟩) := by
  have h1 : strsOf (wd.map fun f => T.str ⟨#[signN b f]⟩) = some (wd.map fun f => (⟨#[signN b f]⟩ : Str)) := by
    have := strsOf_map (wd.map fun f => (⟨#[signN b f]⟩ : Str)); rw [List.map_map] at this; exact this
  have hj := join_ok (prog := prog) (w := w) (A := A) (x := "") h1 (by
    have e0 : ("" : Str).length = 0 := by decide +kernel
    rw [e0, lens_ones]; omega)
  have e : Txt.join "" (wd.map fun f => (⟨#[signN b f]⟩ : Str)) = ⟨(wd.map (signN b)).toArray⟩ := by
    unfold Txt.join; rw [StrLaws.glued_eq_join]; exact join_ones_text b wd
  rw [e] at hj
  exact hj
theorem join_call {b : Nat} {wd : List Nat} {e : Expr} {k : Nat} {p apos pos : Pos} (h : wd.length ≤ 20) (hline : (apos.endLine == pos.line) = true) (hu : unstarred e = true) (he : Ev prog w A c ρ e (.list (wd.map fun f => T.str ⟨#[signN b f]⟩))) :
    Ev prog w A c ρ (.Call (.Attribute (.Constant (.str "") k p) "join" apos) [e] [] pos) (.str ⟨(wd.map (signN b)).toArray⟩) :=
  Ev.meth rfl hline (by simp [hu]) (show 1 < 30 by decide) PySem.F.plainAttrs_str PySem.F.slot_str_join PySem.F.type_str_join rfl Ev.str (EvL.cons hu he .nil) (join_signs wd h)
theorem sign_item {b f : Nat} (hf7 : f < 7) : item (.str ⟨#[b, 38, 60, 34, 9, 10, 13]⟩) (.int f) = some (.str ⟨#[signN b f]⟩) := by
  show (if 0 ≤ (f : Int) ∧ (f : Int) < 1000000 then (#[b, 38, 60, 34, 9, 10, 13][(f : Int).toNat]?).map fun c => T.str ⟨#[c]⟩ else none) = _
  rw [if_pos (by first | assumption | exact Nat.le_trans ‹_› (by decide) | exact Nat.le_trans (And.right ‹_›) (by decide) | exact mono2 (by decide) | exact Nat.add_le_add_left (by decide) _ | exact leEq ‹_› ‹_› (by decide) | exact leEq ‹_› (And.right ‹_›) (by decide) | exact leLt ‹_› ‹_› (by decide) | exact leLt ‹_› (And.right ‹_›) (by decide) | exact bd0 ‹_› (by decide) | exact bd0 (And.right ‹_›) (by decide) | omega), Int.toNat_natCast]
  match f, hf7 with
  | 0, _ => rfl
  | 1, _ => rfl
  | 2, _ => rfl
  | 3, _ => rfl
  | 4, _ => rfl
  | 5, _ => rfl
  | 6, _ => rfl

theorem law_worth_ok {m n b : Nat} {words : List (List Nat)} {ones others : List Int} (G : Gr g mg mb) (r : Room A (m + 20)) (hb : b ∈ bares) (hw : ∀ w ∈ words, w.length = n ∧ ∀ f ∈ w, f < 7) (hn : n ≤ 20) (hwl : words.length ≤ 100000) (h1 : ones.length = n) (h2 : others.length = n)
    (ho : ∀ x ∈ ones, x.natAbs < 2 ^ 40) (ho' : ∀ x ∈ others, x.natAbs < 2 ^ 40) :
    Fn prog w g mg A (nameAt 21) [.list (words.map fun w => T.list (w.map fun (f : Nat) => T.int f)), .str ⟨#[b]⟩, .list (ones.map .int), .list (others.map .int)] (.int (worthN words ones others)) := by
  refine Fn.of (names := ["words", "bare", "ones", "others"]) G (by decide) r.limit (fun pm code doc vs hl => ?_) rfl (by decide) ?_ (by decide) rfl rfl rfl fun pm code doc L fa V hcode => ?_
  · obtain ⟨_, _, _, _, rfl⟩ := len4 hl; rfl
  · intro n hn; simp only [List.mem_cons, List.not_mem_nil, or_false] at hn; rcases hn with rfl | rfl | rfl | rfl <;> exact .inl rfl
  · conv => arg 9; whnf
    have r4 : Room (A.deeper (fenv 21 pm code doc L fa)) 4 := Room.mono r.deeper (by first | assumption | exact Nat.le_trans ‹_› (by decide) | exact Nat.le_trans (And.right ‹_›) (by decide) | exact mono2 (by decide) | exact Nat.add_le_add_left (by decide) _ | exact leEq ‹_› ‹_› (by decide) | exact leEq ‹_› (And.right ‹_›) (by decide) | exact leLt ‹_› ‹_› (by decide) | exact leLt ‹_› (And.right ‹_›) (by decide) | exact bd0 ‹_› (by decide) | exact bd0 (And.right ‹_›) (by decide) | omega)
    have hsig : ∀ b ∈ bares, binop .Add (.str ⟨#[b]⟩) (.str "&<\"\t\n\r") = some (.str ⟨#[b, 38, 60, 34, 9, 10, 13]⟩) := by
      intro b hb
      have e : ("&<\"\t\n\r" : Str) = ⟨#[38, 60, 34, 9, 10, 13]⟩ := by decide +kernel
      rw [e]; rfl
    refine Ex.cons_next (Ex1.assign (d := .str ⟨#[b, 38, 60, 34, 9, 10, 13]⟩) (swapsWith_plain rfl) (.inr ⟨rfl, _, rfl, rfl⟩) fun c hc hg => Ev.bin (a := .str ⟨#[b]⟩) (Ev.name rfl rfl) Ev.str (binop_ok (hsig b hb))) ?_
    refine Ex.cons_next (Ex1.assign (d := .list ((namesS b).map .str)) (swapsWith_plain rfl) (.inl rfl) fun c hc hg => Ev.list (EvL.cons rfl (Ev.name rfl rfl) (.cons rfl Ev.str (.cons rfl Ev.str (.cons rfl Ev.str (.cons rfl Ev.str (.cons rfl Ev.str (.cons rfl Ev.str .nil))))))) (show 7 ≤ sizeLine by decide)) ?_
    refine Ex.cons_next (Ex1.assign (d := .int 0) (swapsWith_plain rfl) (.inl rfl) fun c hc hg => Ev.int) ?_
    refine Ex.consJ (Ex1.forJ (ds := words.map fun w => T.list (w.map fun (f : Nat) => T.int f)) (fun rest ρ => ∃ (ws : List (List Nat)) (x : Int), rest = ws.map (fun w => T.list (w.map fun (f : Nat) => T.int f)) ∧ (∀ w ∈ ws, w.length = n ∧ ∀ f ∈ w, f < 7) ∧
        ρ "signs" = some (.v (.str ⟨#[b, 38, 60, 34, 9, 10, 13]⟩)) ∧ ρ "names" = some (.v (.list ((namesS b).map .str))) ∧ ρ "ones" = some (.v (.list (ones.map .int))) ∧ ρ "others" = some (.v (.list (others.map .int))) ∧ ρ "worth" = some (.v (.int x)) ∧
        ws.foldl (fun x w => x + prodN w ones others) x = worthN words ones others) r.h
      (GivesC.gives fun c hc hg => GivesC.list r.h (Ev.name rfl rfl)) ⟨words, 0, rfl, hw, rfl, rfl, rfl, rfl, rfl, rfl⟩ ?_ (.inl rfl) (fun _ d hd => by obtain ⟨z, _, rfl⟩ := List.mem_map.mp hd; rfl)) ?_
    · rintro d rest ρ ⟨ws, x, hAll⟩
      refine an8 hAll fun f1 f2 f3 f4 f5 f6 f7 f8 => ?_
      obtain ⟨wd, ws, rfl, rfl, rfl⟩ := map_cons_inv f1
      obtain ⟨hwn, hw7⟩ := f2 wd (.head _)
      refine ⟨_, rfl, ?_⟩
      refine ExJ.cons (fun V => Ex1.assign (d := .str (wText b wd)) (swapsWith_plain rfl) (.inl rfl) fun c hc hg => ?_) ?_
      · rw [← esc_word hb hw7]
        refine Ev.callF (hg ▸ G.gnd) (by rw [hc]; rfl) rfl rfl (EvL.cons rfl ?_ .nil) (hg ▸ escape_ok (n := m) G (r.deeper.mono (by first | assumption | exact Nat.le_trans ‹_› (by decide) | exact Nat.le_trans (And.right ‹_›) (by decide) | exact mono2 (by decide) | exact Nat.add_le_add_left (by decide) _ | exact leEq ‹_› ‹_› (by decide) | exact leEq ‹_› (And.right ‹_›) (by decide) | exact leLt ‹_› ‹_› (by decide) | exact leLt ‹_› (And.right ‹_›) (by decide) | exact bd0 ‹_› (by decide) | exact bd0 (And.right ‹_›) (by decide) | omega)) (esc_fits (by show (wd.map (signN b)).length ≤ 20; rw [List.length_map]; omega)))
        have hwd20 : wd.length ≤ 20 := by omega
        refine join_call hwd20 rfl rfl ?_
        refine Ev.listComp (ds := wd.map fun (f : Nat) => T.int f) (cl := [(("signs" : Str), L + 1)]) (CompOk.mk' (by rw [hc]; rfl) rfl (by decide) (.inl rfl) (show [("signs" : Str)].Nodup by decide) (by rw [hc]; exact List.forall_mem_cons.mpr ⟨⟨rfl, rfl, .inl rfl, fun _ => rfl⟩, fun _ h => nomatch h⟩)) (fun _ => rfl)
          (GivesC.list r.h (Ev.name rfl rfl)) (hn_map fun _ => rfl) ?_ (by simp; first | assumption | exact Nat.le_trans ‹_› (by decide) | exact Nat.le_trans (And.right ‹_›) (by decide) | exact mono2 (by decide) | exact Nat.add_le_add_left (by decide) _ | exact leEq ‹_› ‹_› (by decide) | exact leEq ‹_› (And.right ‹_›) (by decide) | exact leLt ‹_› ‹_› (by decide) | exact leLt ‹_› (And.right ‹_›) (by decide) | exact bd0 ‹_› (by decide) | exact bd0 (And.right ‹_›) (by decide) | omega)
        refine CL.map _ _ _ fun f hf C c' hc' hg' => ?_
        have hf7 := hw7 f hf
        exact Ev.sub (a := .str ⟨#[b, 38, 60, 34, 9, 10, 13]⟩) (b := .int f) rfl (Ev.name (inn_upd (a := L + 1) rfl rfl f3) rfl) (Ev.name rfl rfl) (item_ok (sign_item hf7))
      refine ExJ.cons (fun V => Ex1.assign (d := .list (wd.map fun (f : Nat) => T.int f)) (swapsWith_plain rfl) (.inl rfl) fun c hc hg => Ev.callF (hg ▸ G.gnd) (by rw [hc]; rfl) rfl rfl (EvL.cons rfl (Ev.name rfl rfl) (.cons rfl (Ev.name f4 rfl) .nil)) (hg ▸ law_read_ok (m := m) G (r.deeper.mono (by first | assumption | exact Nat.le_trans ‹_› (by decide) | exact Nat.le_trans (And.right ‹_›) (by decide) | exact mono2 (by decide) | exact Nat.add_le_add_left (by decide) _ | exact leEq ‹_› ‹_› (by decide) | exact leEq ‹_› (And.right ‹_›) (by decide) | exact leLt ‹_› ‹_› (by decide) | exact leLt ‹_› (And.right ‹_›) (by decide) | exact bd0 ‹_› (by decide) | exact bd0 (And.right ‹_›) (by decide) | omega)) hb hw7 (by first | assumption | exact Nat.le_trans ‹_› (by decide) | exact Nat.le_trans (And.right ‹_›) (by decide) | exact mono2 (by decide) | exact Nat.add_le_add_left (by decide) _ | exact leEq ‹_› ‹_› (by decide) | exact leEq ‹_› (And.right ‹_›) (by decide) | exact leLt ‹_› ‹_› (by decide) | exact leLt ‹_› (And.right ‹_›) (by decide) | exact bd0 ‹_› (by decide) | exact bd0 (And.right ‹_›) (by decide) | omega))) ?_
      refine ExJ.cons (fun V => Ex1.ite (b := false) (fun c hc hg => EvT.cmp rfl (Ev.name rfl rfl) (Ev.name rfl rfl) (.b (by simp) (ne_ints_ok r4 (intsOf_map ..) (intsOf_map ..)))) (fun h => by cases h) fun _ => Ex.nil) ?_
      refine ExJ.cons (fun V => Ex1.assign (d := .int 1) (swapsWith_plain rfl) (.inl rfl) fun c hc hg => Ev.int) ?_
      refine ExJ.single (Ex1.forJ (ds := rngT 0 1 wd.length) (fun rest ρ => ∃ (ks : List Nat) (y : Int), rest = ks.map (fun (k : Nat) => T.int k) ∧ (∀ k ∈ ks, k < n) ∧ ks.length ≤ n ∧ y.natAbs < 2 ^ (40 * (n - ks.length) + 1) ∧
          ρ "signs" = some (.v (.str ⟨#[b, 38, 60, 34, 9, 10, 13]⟩)) ∧ ρ "names" = some (.v (.list ((namesS b).map .str))) ∧ ρ "ones" = some (.v (.list (ones.map .int))) ∧ ρ "others" = some (.v (.list (others.map .int))) ∧ ρ "worth" = some (.v (.int x)) ∧
          ρ "figures" = some (.v (.list (wd.map fun (f : Nat) => T.int f))) ∧ ρ "product" = some (.v (.int y)) ∧ ks.foldl (fun x k => x * facN wd ones others k) y = prodN wd ones others) r.h
        (GivesC.gives fun c hc hg => GivesC.range1 r.h (hg ▸ G.gnd) (by rw [hc]; rfl) (G.bi "range" (by decide)).1 ((G.bi "range" (by decide)).2.trans rfl) rfl (Ev.callG (hg ▸ G) (by decide) (by rw [hc]; rfl) rfl rfl rfl rfl (EvL.cons rfl (Ev.name rfl rfl) .nil) (by
            have := len_list_ok (prog := prog) (w := w) (A := A.deeper (fenv 21 pm code doc L fa)) (xs := wd.map fun (f : Nat) => T.int f) (by simp; first | assumption | exact Nat.le_trans ‹_› (by decide) | exact Nat.le_trans (And.right ‹_›) (by decide) | exact mono2 (by decide) | exact Nat.add_le_add_left (by decide) _ | exact leEq ‹_› ‹_› (by decide) | exact leEq ‹_› (And.right ‹_›) (by decide) | exact leLt ‹_› ‹_› (by decide) | exact leLt ‹_› (And.right ‹_›) (by decide) | exact bd0 ‹_› (by decide) | exact bd0 (And.right ‹_›) (by decide) | omega)
            rw [List.length_map] at this; exact this)) (by first | assumption | exact Nat.le_trans ‹_› (by decide) | exact Nat.le_trans (And.right ‹_›) (by decide) | exact mono2 (by decide) | exact Nat.add_le_add_left (by decide) _ | exact leEq ‹_› ‹_› (by decide) | exact leEq ‹_› (And.right ‹_›) (by decide) | exact leLt ‹_› ‹_› (by decide) | exact leLt ‹_› (And.right ‹_›) (by decide) | exact bd0 ‹_› (by decide) | exact bd0 (And.right ‹_›) (by decide) | omega))
        ⟨List.range wd.length, 1, rng_map _, fun k hk => by rw [← hwn]; exact List.mem_range.mp hk, by simp; omega, by
          have : 2 ^ 1 ≤ 2 ^ (40 * (n - (List.range wd.length).length) + 1) := Nat.pow_le_pow_right (by decide) (by first | assumption | exact Nat.le_trans ‹_› (by decide) | exact Nat.le_trans (And.right ‹_›) (by decide) | exact mono2 (by decide) | exact Nat.add_le_add_left (by decide) _ | exact leEq ‹_› ‹_› (by decide) | exact leEq ‹_› (And.right ‹_›) (by decide) | exact leLt ‹_› ‹_› (by decide) | exact leLt ‹_› (And.right ‹_›) (by decide) | exact bd0 ‹_› (by decide) | exact bd0 (And.right ‹_›) (by decide) | omega)
          show 1 < _
          omega, f3, f4, f5, f6, f7, rfl, rfl, rfl⟩ ?_ (.inl rfl) (fun _ d hd => by rw [rng_map] at hd; obtain ⟨z, _, rfl⟩ := List.mem_map.mp hd; rfl)) ?_
      · rintro d rest ρ ⟨ks, y, hAll⟩
        refine an12 hAll fun i1 i2 i2' i3 i4 i5 i6 i7 i8 i9 i10 i11 => ?_
        obtain ⟨k, ks, rfl, rfl, rfl⟩ := map_cons_inv i1
        have hk := i2 k (.head _)
        refine ⟨_, rfl, ?_⟩
        simp only [List.length_cons] at i2' i3
        have hkw : k < wd.length := by first | exact Nat.lt_of_lt_of_le ‹k < n› (Nat.le_of_eq (Eq.symm ‹wd.length = n›)) | omega
        have hk1 : k < ones.length := by first | exact Nat.lt_of_lt_of_le ‹k < n› (Nat.le_of_eq (Eq.symm ‹ones.length = n›)) | omega
        have hk2 : k < others.length := by first | exact Nat.lt_of_lt_of_le ‹k < n› (Nat.le_of_eq (Eq.symm ‹others.length = n›)) | omega
        have e1 : ones.getD k 0 = ones[k] := by simp [List.getD, List.getElem?_eq_getElem hk1]
        have e2 : others.getD k 0 = others[k] := by simp [List.getD, List.getElem?_eq_getElem hk2]
        have e3 : wd.getD k 0 = wd[k] := by simp [List.getD, List.getElem?_eq_getElem hkw]
        have hfac : (facN wd ones others k).natAbs < 2 ^ 40 := by
          unfold facN
          split
          · rw [e1]; exact ho _ (List.getElem_mem hk1)
          · rw [e2]; exact ho' _ (List.getElem_mem hk2)
        have hbf : bits (facN wd ones others k) ≤ 100000 := Nat.le_trans (bits_le hfac) (by decide)
        refine ExJ.cons (fun V => Ex1.aug (a := .int y) (b := .int (facN wd ones others k)) (d := .int (y * facN wd ones others k)) i10 rfl (.inl rfl) (fun c hc hg => ?_) (if_pos ⟨bits_prod i3 (by first | assumption | exact Nat.le_trans ‹_› (by decide) | exact Nat.le_trans (And.right ‹_›) (by decide) | exact mono2 (by decide) | exact Nat.add_le_add_left (by decide) _ | exact leEq ‹_› ‹_› (by decide) | exact leEq ‹_› (And.right ‹_›) (by decide) | exact leLt ‹_› ‹_› (by decide) | exact leLt ‹_› (And.right ‹_›) (by decide) | exact bd0 ‹_› (by decide) | exact bd0 (And.right ‹_›) (by decide) | omega), hbf⟩)) ?_
        · refine Ev.ifexp (b := decide (wd.getD k 0 = 0)) (EvT.cmp rfl (a := .int (wd.getD k 0 : Nat)) (b := .int 0) (Ev.sub (a := .list (wd.map fun (f : Nat) => T.int f)) (b := .int k) rfl (Ev.name i9 rfl) (Ev.name rfl rfl) (item_ok ?_)) Ev.int (intCmp_ok ?_)) (fun hz => ?_) fun hz => ?_
          · rw [item_listN (by first | assumption | exact Nat.le_trans ‹_› (by decide) | exact Nat.le_trans (And.right ‹_›) (by decide) | exact mono2 (by decide) | exact Nat.add_le_add_left (by decide) _ | exact leEq ‹_› ‹_› (by decide) | exact leEq ‹_› (And.right ‹_›) (by decide) | exact leLt ‹_› ‹_› (by decide) | exact leLt ‹_› (And.right ‹_›) (by decide) | exact bd0 ‹_› (by decide) | exact bd0 (And.right ‹_›) (by decide) | omega), List.getElem?_map, List.getElem?_eq_getElem hkw, e3]; rfl
          · show some (((wd.getD k 0 : Nat) : Int) == 0) = some (decide (wd.getD k 0 = 0))
            congr 1
            rw [Bool.eq_iff_iff, beq_iff_eq, decide_eq_true_eq]; first | exact Int.natCast_eq_zero | omega
          · have hz' : wd.getD k 0 = 0 := by simpa using hz
            have : facN wd ones others k = ones[k] := by unfold facN; rw [if_pos hz', e1]
            rw [this]
            exact Ev.sub (a := .list (ones.map .int)) (b := .int k) rfl (Ev.name i6 rfl) (Ev.name rfl rfl) (item_ok (by rw [item_listN (by first | assumption | exact Nat.le_trans ‹_› (by decide) | exact Nat.le_trans (And.right ‹_›) (by decide) | exact mono2 (by decide) | exact Nat.add_le_add_left (by decide) _ | exact leEq ‹_› ‹_› (by decide) | exact leEq ‹_› (And.right ‹_›) (by decide) | exact leLt ‹_› ‹_› (by decide) | exact leLt ‹_› (And.right ‹_›) (by decide) | exact bd0 ‹_› (by decide) | exact bd0 (And.right ‹_›) (by decide) | omega), List.getElem?_map, List.getElem?_eq_getElem hk1]; rfl))
          · have hz' : ¬ wd.getD k 0 = 0 := by simpa using hz
            have : facN wd ones others k = others[k] := by unfold facN; rw [if_neg hz', e2]
            rw [this]
            exact Ev.sub (a := .list (others.map .int)) (b := .int k) rfl (Ev.name i7 rfl) (Ev.name rfl rfl) (item_ok (by rw [item_listN (by first | assumption | exact Nat.le_trans ‹_› (by decide) | exact Nat.le_trans (And.right ‹_›) (by decide) | exact mono2 (by decide) | exact Nat.add_le_add_left (by decide) _ | exact leEq ‹_› ‹_› (by decide) | exact leEq ‹_› (And.right ‹_›) (by decide) | exact leLt ‹_› ‹_› (by decide) | exact leLt ‹_› (And.right ‹_›) (by decide) | exact bd0 ‹_› (by decide) | exact bd0 (And.right ‹_›) (by decide) | omega), List.getElem?_map, List.getElem?_eq_getElem hk2]; rfl))
        · refine .nil ⟨ks, y * facN wd ones others k, rfl, fun z hz => i2 z (.tail _ hz), by first | exact Nat.le_of_succ_le i2' | omega, ?_, i4, i5, i6, i7, i8, i9, rfl, i11⟩
          rw [Int.natAbs_mul]
          have e : n - ks.length = (n - (ks.length + 1)) + 1 := by first | exact subS i2' | omega
          rw [e, show 40 * ((n - (ks.length + 1)) + 1) + 1 = (40 * (n - (ks.length + 1)) + 1) + 40 from e40 _, Nat.pow_add]
          exact Nat.mul_lt_mul'' i3 hfac
      · rintro ρ' ⟨ks, y, hAll⟩
        refine an12 hAll fun i1 i2 i2' i3 i4 i5 i6 i7 i8 i9 i10 i11 => ?_
        obtain rfl := map_nil_inv i1
        have i11' : y = prodN wd ones others := i11
        refine ExJ.cons (fun V => Ex1.aug (a := .int x) (b := .int y) (d := .int (x + y)) i8 rfl (.inl rfl) (fun c hc hg => Ev.name i10 rfl) rfl) ?_
        exact .nil ⟨ws, x + y, rfl, fun z hz => f2 z (.tail _ hz), i4, i5, i6, i7, rfl, by rw [i11', ← f8]; rfl⟩
    · rintro ρ' ⟨ws, x, hAll⟩
      refine an8 hAll fun f1 f2 f3 f4 f5 f6 f7 f8 => ?_
      obtain rfl := map_nil_inv f1
      have f8' : x = worthN words ones others := f8
      rw [← f8']
      exact Ex.cons_ret (Ex1.ret fun c _ _ => Ev.name (by unfold dis; rw [f7]) rfl)
end Mine
set_option maxRecDepth 10000
namespace Mine
open PySem PySem.Calls PySem.W

variable {prog : Program} {w : World} {A : Around} {g : Heap} {env : Env} {ow : List (Str × Addr)} {V : List Addr} {ρ : Str → Option B}

/-- a comprehension with two clauses: the turn of the outer one -/
theorem compTurn_two0 (elt t1 i1 t2 i2 : Expr) (scope : Scope) (pos : Pos) (it acc : Value) (env : Env) :
    compTurn (.ListComp elt [⟨t1, i1, [], 0⟩, ⟨t2, i2, [], 0⟩] scope pos) 0 it acc env = (do
      standAt i1.pos
      match ← pyNext it with
      | none => pure (.done .next)
      | some v =>
        letOwnedTupleGo t1 it v
        assign t1 env v
        let mut ok := true
        for c in ([] : List Expr) do
          if ok then ok ← isTrue c env (eval c env)
        if ok then
          let x ← eval i2 env
          standAt i2.pos
          let x ← foldedSetIterable i2 env x
          let _ ← runOwn (.compStart (.ListComp elt [⟨t1, i1, [], 0⟩, ⟨t2, i2, [], 0⟩] scope pos) 1 (← holding [x] (pyIter x)) acc env) env
        again (.compLoop (.ListComp elt [⟨t1, i1, [], 0⟩, ⟨t2, i2, [], 0⟩] scope pos) 0 it acc env)) := by rfl
theorem compTurn_two1 (elt t1 i1 t2 i2 : Expr) (scope : Scope) (pos : Pos) (it acc : Value) (env : Env) :
    compTurn (.ListComp elt [⟨t1, i1, [], 0⟩, ⟨t2, i2, [], 0⟩] scope pos) 1 it acc env = (do
      standAt i2.pos
      match ← pyNext it with
      | none => pure (.done .next)
      | some v =>
        letOwnedTupleGo t2 it v
        assign t2 env v
        let mut ok := true
        for c in ([] : List Expr) do
          if ok then ok ← isTrue c env (eval c env)
        if ok then
          (do let _ ← call (.builtin "list.append") [acc, ← eval elt env])
        again (.compLoop (.ListComp elt [⟨t1, i1, [], 0⟩, ⟨t2, i2, [], 0⟩] scope pos) 1 it acc env)) := by rfl

section
variable {R : Result → Shared → Prop} {s : Shared}
theorem codeAny_two0 {elt t1 i1 t2 i2 : Expr} {scope : Scope} {pos : Pos} {it acc : Value} {env : Env} (I : Nat → Shared → Prop) (hfs : ∀ x, foldedSetIterable i2 env x = pure x)
    (turn : ∀ n s, I n s → ∀ E : Value → Shared → Prop, wpAny (model prog w) A (pyNext it) (fun r s₁ => match r with
      | none => R (.ok .next) s₁
      | some v => wpAny (model prog w) A (letOwnedTupleGo t1 it v) (fun _ s₁' => wpAny (model prog w) A (PySem.assign t1 env v) (fun _ s₂ =>
          wpAny (model prog w) A (eval i2 env) (fun x s₃ => wpAny (model prog w) A (pyIter x) (fun it2 s₄ => ∀ RE : Value → Shared → Prop,
            codeAny (model prog w) A (.compStart (.ListComp elt [⟨t1, i1, [], 0⟩, ⟨t2, i2, [], 0⟩] scope pos) 1 it2 acc env) (fun r s' => match r with | .ok _ => ∃ m, m < n ∧ I m s' | .error e => RE e s') s₄) E s₃) E s₂) E s₁') E s₁) E s)
    (n : Nat) (h : I n s) :
    codeAny (model prog w) A (.compLoop (.ListComp elt [⟨t1, i1, [], 0⟩, ⟨t2, i2, [], 0⟩] scope pos) 0 it acc env) R s := by
  refine codeAny_loop rfl I (fun n s hI => ?_) n h
  show wpAny _ A ((compTurn (.ListComp elt [⟨t1, i1, [], 0⟩, ⟨t2, i2, [], 0⟩] scope pos) 0 it acc env).onRaise (fun x => do noteFrame x env; theTreesLotGoes x)) _ _ s
  refine wpAny_noted ?_
  rw [compTurn_two0]
  refine wpAny_bind (wpAny_standAt (wpAny_bind (wpAny_mono (turn n s hI _) (fun r s₁ h₁ => ?_) fun _ _ h' => h')))
  cases r with
  | none => exact wpAny_pure h₁
  | some v =>
    refine wpAny_bind (wpAny_mono h₁ (fun _ s₁' h₁' => ?_) fun _ _ h' => h')
    refine wpAny_bind (wpAny_mono h₁' (fun _ s₂ h₂ => wpAny_bind (wpAny_tests_nil ?_)) fun _ _ h' => h')
    refine wpAny_bind (wpAny_mono h₂ (fun x s₃ h₃ => wpAny_bind (wpAny_standAt ?_)) fun _ _ h' => h')
    rw [hfs]
    refine wpAny_bind (wpAny_pure (wpAny_bind (wpAny_holding (wpAny_mono h₃ (fun it2 s₄ h₄ => ?_) fun _ _ h' => h'))))
    exact wpAny_bind (wpAny_runOwn (codeAny_mono (h₄ _) (fun r s' hr => by
      cases r with
      | ok f => exact wpAny_pure ⟨rfl, hr⟩
      | error e => exact hr)))
theorem codeAny_two1 {elt t1 i1 t2 i2 : Expr} {scope : Scope} {pos : Pos} {it acc : Value} {env : Env} (I : Nat → Shared → Prop)
    (turn : ∀ n s, I n s → ∀ E : Value → Shared → Prop, wpAny (model prog w) A (pyNext it) (fun r s₁ => match r with
      | none => R (.ok .next) s₁
      | some v => wpAny (model prog w) A (letOwnedTupleGo t2 it v) (fun _ s₁' => wpAny (model prog w) A (PySem.assign t2 env v) (fun _ s₂ =>
          wpAny (model prog w) A (eval elt env) (fun x s₄ =>
              wpAny (model prog w) A (call (.builtin "list.append") [acc, x]) (fun _ s₅ => ∃ m, m < n ∧ I m s₅) E s₄) E s₂) E s₁') E s₁) E s)
    (n : Nat) (h : I n s) :
    codeAny (model prog w) A (.compLoop (.ListComp elt [⟨t1, i1, [], 0⟩, ⟨t2, i2, [], 0⟩] scope pos) 1 it acc env) R s := by
  refine codeAny_loop rfl I (fun n s hI => ?_) n h
  show wpAny _ A ((compTurn (.ListComp elt [⟨t1, i1, [], 0⟩, ⟨t2, i2, [], 0⟩] scope pos) 1 it acc env).onRaise (fun x => do noteFrame x env; theTreesLotGoes x)) _ _ s
  refine wpAny_noted ?_
  rw [compTurn_two1]
  refine wpAny_bind (wpAny_standAt (wpAny_bind (wpAny_mono (turn n s hI _) (fun r s₁ h₁ => ?_) fun _ _ h' => h')))
  cases r with
  | none => exact wpAny_pure h₁
  | some v =>
    refine wpAny_bind (wpAny_mono h₁ (fun _ s₁' h₁' => ?_) fun _ _ h' => h')
    refine wpAny_bind (wpAny_mono h₁' (fun _ s₂ h₂ => wpAny_bind (wpAny_tests_nil ?_)) fun _ _ h' => h')
    exact wpAny_bind (wpAny_bind (wpAny_mono h₂ (fun x s₄ h₄ => wpAny_bind (wpAny_mono h₄ (fun _ s₅ h₅ => wpAny_pure (wpAny_pure ⟨rfl, h₅⟩)) fun _ _ h' => h')) fun _ _ h' => h'))
theorem codeAny_twoStart {elt t1 i1 t2 i2 : Expr} {scope : Scope} {pos : Pos} {it acc : Value} {env : Env}
    (h0 : codeAny (model prog w) A (.compLoop (.ListComp elt [⟨t1, i1, [], 0⟩, ⟨t2, i2, [], 0⟩] scope pos) 1 it acc env) R s)
    (h : ∀ E : Value → Shared → Prop, wpAny (model prog w) A (pyIter it) (fun it' s' => codeAny (model prog w) A (.compLoop (.ListComp elt [⟨t1, i1, [], 0⟩, ⟨t2, i2, [], 0⟩] scope pos) 1 it' acc env) R s') E s) :
    codeAny (model prog w) A (.compStart (.ListComp elt [⟨t1, i1, [], 0⟩, ⟨t2, i2, [], 0⟩] scope pos) 1 it acc env) R s := by
  refine codeAny_of_tree ?_
  show wpAny _ _ ((compStart (.ListComp elt [⟨t1, i1, [], 0⟩, ⟨t2, i2, [], 0⟩] scope pos) 1 it acc env).onRaise (fun x => do noteFrame x env; standAt theWindowsPlace)) _ _ s
  refine wpAny_notedAt ?_
  unfold compStart
  show wpAny _ _ (ask >>= _) _ _ s
  refine wpAny_bind (wpAny_askSetting (wpAny_ite ?_))
  split
  · first
      | exact wpAny_bind (wpAny_pure (wpAny_pure (And.intro rfl h0)))
      | exact wpAny_pure (And.intro rfl h0)
  · first
      | exact wpAny_bind (wpAny_rule (wpAny_bind (wpAny_standAt (wpAny_bind (wpAny_mono (h _) (fun it' s' h' => wpAny_pure (And.intro rfl h')) fun _ _ x => x)))))
      | (refine wpAny_bind (wpAny_rule ?_); show wpAny _ _ (standAt i2.pos >>= _) _ _ s; exact wpAny_bind (wpAny_standAt (wpAny_bind (wpAny_mono (h _) (fun it' s' h' => wpAny_pure (And.intro rfl h')) fun _ _ x => x))))
end

/-- ints, whatever the heap -/
inductive Ivs : List Value → List Int → Prop
  | nil : Ivs [] []
  | cons {i : Int} {t : Tok} {vs : List Value} {ns : List Int} : Ivs vs ns → Ivs (.int i t :: vs) (i :: ns)
theorem Ivs.snoc {i : Int} {t : Tok} : ∀ {vs : List Value} {ns : List Int}, Ivs vs ns → Ivs (vs ++ [.int i t]) (ns ++ [i])
  | _, _, .nil => .cons .nil
  | _, _, .cons h => .cons h.snoc
theorem Ivs.length : ∀ {vs : List Value} {ns : List Int}, Ivs vs ns → vs.length = ns.length
  | _, _, .nil => rfl
  | _, _, .cons h => by simp [h.length]
theorem Ivs.rs {h : Heap} {X : List Addr} : ∀ {vs : List Value} {ns : List Int}, Ivs vs ns → Rs prog w h X vs (ns.map .int)
  | _, _, .nil => .nil
  | _, _, .cons h => .cons (.int _ _) h.rs

/-- the inner loop of a comprehension with two clauses, over ints -/
theorem two_inner {P : Addr → Obj → Prop} {os m cm} {s s₂ : Shared} {elt t1 i1 i2 : Expr} {y : Str} {py : Pos} {scope : Scope} {pos : Pos} {ns pre : List Int} {I D : Addr} {fp wr : List Addr} {Pp Md : Nat → Value → Heap → Prop} {St : Nat → Heap → Prop} {ys : List Value} {Rz : Result → Shared → Prop}
    (F : InF prog w ⟨g, P, env, ow, V, os, m, cm⟩ ρ s) (k : Kp s s₂) (S : SrcC prog w A (.Name y py) (Cx.X ⟨g, P, env, ow, V, os, m, cm⟩) (ns.map .int) s I s₂ fp wr Pp Md St) (hks : canStore ow env y)
    (helt : ∀ (c : Cx) ρ' n, c.env = env → ρ' y = some (.v (.int n)) → Ev prog w A c ρ' elt (.int n)) (hDV : D ∈ V) (hDP : ∀ b o, P b o → b ≠ D) (hDc : ∀ n a, env.cells.lookup n = some a → a ≠ D)
    (hpl : s₂.heap.PlainList D ys.toArray) (hys : Ivs ys pre) (hz : pre.length + ns.length ≤ 1000000)
    (hR : ∀ ρ' m' cm' ys' s', Tr s s' → InF prog w ⟨g, P, env, ow, V, os, m', cm'⟩ ρ' s' → (∀ b, upd ρ' y b = upd ρ y b) → s'.heap.PlainList D ys'.toArray → Ivs ys' (pre ++ ns) → Rz (.ok .next) s') :
    codeAny (model prog w) A (.compStart (.ListComp elt [⟨t1, i1, [], 0⟩, ⟨.Name y py, i2, [], 0⟩] scope pos) 1 (.ref I) (.ref D) env) Rz s₂ := by
  have F₂ := F.moreV k S.fresh S.nd (S.there 0 _ S.st)
  have W := S.turns
  let X := Cx.X ⟨g, P, env, ow, V, os, m, cm⟩
  have hDX : D ∈ X := List.mem_append_right _ hDV
  have hcw : ∀ n a, env.cells.lookup n = some a → a ∉ wr := fun n a e hm => by obtain ⟨o, e1, d⟩ := F.cl n a e; exact S.fresh a hm o (.cell d) e1
  have hDwr : D ∉ wr := fun hm => by obtain ⟨o, e, n⟩ := F.ex D hDX; exact S.fresh D hm o n.1 e
  have hDfp : D ∉ fp := fun hm => S.apart D hm hDX
  let P₂ : Addr → Obj → Prop := fun b ob => P b ob ∨ (NT b ob ∧ s₂.heap.get? b = some ob ∧ b ∉ X ∧ b ∉ wr)
  have hPwr : ∀ b ob, P b ob → b ∉ wr := fun b ob hb hm => S.fresh b hm _ (F.Pn b ob hb) (F.Ph b ob hb)
  have hP₂wr : ∀ b ob, P₂ b ob → b ∉ wr := fun b ob hb => by
    rcases hb with hb | hb
    · exact hPwr b ob hb
    · exact hb.2.2.2
  have hP₂D : ∀ b ob, P₂ b ob → b ≠ D := fun b ob hb => by
    rcases hb with hb | hb
    · exact hDP b ob hb
    · exact fun e => hb.2.2.1 (e ▸ hDX)
  have F₃ : InF prog w ⟨g, P₂, env, ow, wr ++ V, os, m, cm⟩ ρ s₂ := F₂.strengthenP (fun b ob h => .inl h) (fun b ob h => h.elim (F₂.Pn b ob) (·.1)) (fun b ob h => h.elim (F₂.Ph b ob) (·.2.1)) fun b ob h => h.elim (F₂.PW b ob) fun h hm => h.2.2.1 (List.mem_append_left _ hm)
  let Inv : Nat → Shared → Prop := fun kk s' => ∃ i ρi m cm zs, Tr s₂ s' ∧ St i s'.heap ∧ InF prog w ⟨g, P₂, env, ow, wr ++ V, os, m, cm⟩ ρi s' ∧ (∀ b, upd ρi y b = upd ρ y b) ∧ s'.heap.PlainList D (List.toArray zs) ∧ Ivs zs (pre ++ ns.take i) ∧ i ≤ ns.length ∧ kk = ns.length + 1 - i
  have start : Inv (ns.length + 1) s₂ := ⟨0, ρ, m, cm, ys, .refl _, S.st, F₃, fun _ => rfl, hpl, by simpa using hys, Nat.zero_le _, rfl⟩
  have loop : codeAny (model prog w) A (.compLoop (.ListComp elt [⟨t1, i1, [], 0⟩, ⟨.Name y py, i2, [], 0⟩] scope pos) 1 (.ref I) (.ref D) env) Rz s₂ := by
    refine codeAny_two1 Inv ?_ _ start
    intro n s' hI E
    refine cps fun Cg hCg => ?_
    obtain ⟨i, ρi, m₁, cm₁, zs, t₁, st₁, F₁, hρ, hpl₁, hzs, hi, rfl⟩ := hI
    refine hCg ?_
    by_cases hlt : i < ns.length
    · have hlt' : i < (ns.map T.int).length := by rw [List.length_map]; exact hlt
      refine withTok F₁.tk (W.item i _ _ _ hlt' st₁ fun v h₁ tk₁ hMd hk₁ htk => ?_)
      refine W.go i v _ _ _ hMd fun h₂ hPv st₂ hk₂ => ?_
      have hkk : ∀ b ob, b ∉ wr → s'.heap.get? b = some ob → h₂.get? b = some ob := fun b ob hb e => hk₂ b ob hb (hk₁ b ob hb e)
      have F₄ : InF prog w ⟨g, P₂, env, ow, wr ++ V, os, m₁, cm₁⟩ ρi { s' with heap := h₂, toks := tk₁ } := F₁.others hkk hP₂wr (S.there _ _ st₂) hcw htk
      obtain ⟨d, hd, hit⟩ := S.item i v h₂ hlt' hPv
      rw [List.getElem?_map, List.getElem?_eq_getElem hlt] at hd
      have hd' : T.int ns[i] = d := Option.some.inj hd
      subst hd'
      have rv : ∀ h X, R prog w h X v (.int ns[i]) := by
        rcases hit with r | ⟨_, _, _, _, _, _, _, e, _⟩
        · intro h X; exact r.flat rfl
        · cases e
      let P₃ : Addr → Obj → Prop := fun b ob => P₂ b ob ∨ (NT b ob ∧ b ∈ fp ∧ h₂.get? b = some ob)
      have hfpW : ∀ b ∈ fp, b ∉ Cx.W ⟨g, P₂, env, ow, wr ++ V, os, m₁, cm₁⟩ := fun b hb hm => by
        by_cases hw : b ∈ wr
        · exact (List.nodup_append.mp F₁.nd).2.2 b hm b (List.mem_append_left _ hw) rfl
        · obtain ⟨ob, e, n⟩ := S.fpx 0 _ S.st b hb
          exact F₁.PW b ob (.inr ⟨n.1, e, S.apart b hb, hw⟩) hm
      have hDW : D ∉ Cx.W ⟨g, P₂, env, ow, wr ++ V, os, m₁, cm₁⟩ := fun hm => (List.nodup_append.mp F₁.nd).2.2 D hm D (List.mem_append_right _ hDV) rfl
      let P₄ : Addr → Obj → Prop := fun b ob => P₃ b ob ∨ (NT b ob ∧ b = D ∧ h₂.get? b = some ob)
      have F₅ : InF prog w ⟨g, P₄, env, ow, wr ++ V, os, m₁, cm₁⟩ ρi { s' with heap := h₂, toks := tk₁ } := F₄.strengthenP (fun b ob h => .inl (.inl h)) (fun b ob h => h.elim (fun h => h.elim (F₄.Pn b ob) (·.1)) (·.1)) (fun b ob h => h.elim (fun h => h.elim (F₄.Ph b ob) (·.2.2)) (·.2.2))
        fun b ob h => h.elim (fun h => h.elim (F₄.PW b ob) fun h => hfpW b h.2.1) fun h => h.2.1 ▸ hDW
      refine wpAny_assign_Name (F₅.store hks (rv _ _) fun m' cm' s₃ t₃ F₆ => ?_)
      refine helt ⟨g, P₄, env, ow, wr ++ V, os, m', cm'⟩ (upd ρi y (.v (.int ns[i]))) ns[i] rfl (by unfold upd; simp) s₃ _ _ F₆ fun u s₄ k₄ r₄ => ?_
      have F₇ := F₆.keep k₄
      have hu : ∃ t, u = .int ns[i] t := by cases r₄; exact ⟨_, rfl⟩
      obtain ⟨t, rfl⟩ := hu
      have hplD : s₄.heap.PlainList D zs.toArray := by
        obtain ⟨nn, e⟩ := hpl₁
        exact ⟨nn, F₇.Ph D _ (.inr ⟨.cls rfl, rfl, hkk D _ hDwr e⟩)⟩
      have hzl : zs.length ≤ 1000000 := by
        have := hzs.length
        rw [List.length_append, List.length_take] at this
        exact lenZ this hz
      refine wpAny_list_append_plain hplD (fun h' hp hsb => ?_) (by simp only [List.size_toArray]; exact Nat.le_trans hzl (by decide))
      have k2 : (zs.toArray.push (Value.int ns[i] t)) = (zs ++ [Value.int ns[i] t]).toArray := by simp
      rw [k2] at hp
      have hst : St (i + 1) h' := by
        have hst1 : St (i + 1) s₄.heap := W.frame _ _ _ st₂ fun b hb ob e => by
          obtain ⟨o', e', n⟩ := S.fpx _ _ st₂ b hb
          have : o' = ob := Option.some.inj (e'.symm.trans e)
          exact F₇.Ph b ob (.inl (.inr ⟨this ▸ n.1, hb, e⟩))
        exact W.frame _ _ _ hst1 fun b hb ob e => (hsb.2 b fun e => hDfp (e ▸ hb)).trans e
      refine ⟨ns.length + 1 - (i + 1), stepLt hlt, i + 1, upd ρi y (.v (.int ns[i])), m', cm', zs ++ [.int ns[i] t], t₁.trans ((show Tr s' { s' with heap := h₂, toks := tk₁ } from ⟨_, _, rfl⟩).trans (t₃.trans (k₄.tr.trans ⟨_, _, rfl⟩))), hst, ?_, fun b => by rw [upd_upd, hρ], hp, ?_, hlt, rfl⟩
      · have F₈ := F₇.weakenP (P := P₂) (fun b ob h => .inl (.inl h)) F₁.gP
        refine F₈.othersG (S := (· = D)) (fun b ob hb e => (hsb.2 b hb).trans e) (fun b hb => hb ▸ List.mem_append_right _ hDV) hP₂D (fun b hb => ?_) hDc F₈.tk
        obtain ⟨nn, e⟩ := hp; exact ⟨_, hb ▸ e, .cls rfl⟩
      · rw [List.take_add_one, List.getElem?_eq_getElem hlt, Option.toList_some, ← List.append_assoc]
        exact hzs.snoc
    · have hin : i = ns.length := endEq hi hlt
      subst hin
      have hl : (ns.map T.int).length = ns.length := List.length_map ..
      refine withTok F₁.tk (W.done _ _ _ (hl.symm ▸ st₁) fun h₁ tk₁ hk₁ htk => ?_)
      rw [List.take_length] at hzs
      have F₆ := (F₁.leave hk₁ hP₂wr hcw htk).weakenP (P := P) (fun b ob h => .inl h) F.gP
      refine hR ρi m₁ cm₁ zs _ (k.tr.trans (t₁.trans ⟨_, _, rfl⟩)) F₆ hρ ?_ hzs
      obtain ⟨nn, e⟩ := hpl₁
      exact ⟨nn, hk₁ D _ hDwr e⟩
  exact codeAny_twoStart loop fun E => S.self 0 _ _ _ S.st loop
end Mine
set_option maxRecDepth 10000
namespace Mine
open PySem PySem.Calls PySem.W

variable {prog : Program} {w : World} {A : Around} {g : Heap} {env : Env} {ow : List (Str × Addr)} {V : List Addr} {ρ : Str → Option B}

theorem comp_list2 {c : Cx} {s s₂ : Shared} {scope : Scope} {cl : List (Str × Addr)} {x y : Str} {px px' py pos : Pos} {elt iter : Expr} {nss : List (List Int)} {I : Addr} {fp wr : List Addr} {Pp Md : Nat → Value → Heap → Prop} {St : Nat → Heap → Prop}
    {RR : Value → Addr → Result → Shared → Prop} {E : Value → Shared → Prop} (hh : A.handled = none) (ok : CompOk c.env scope cl x) (hy : scope.names.lookup y = some .local) (hpx : plainName x = true) (F : InF prog w c ρ s) (k : Kp s s₂) (S : SrcC prog w A (.Name x px) c.X (nss.map fun ns => T.list (ns.map .int)) s I s₂ fp wr Pp Md St)
    (helt : ∀ (c : Cx) ρ' n, ρ' y = some (.v (.int n)) → Ev prog w A c ρ' elt (.int n)) (hz : (nss.map (·.length)).sum ≤ 1000000)
    (hRR : ∀ D C vs s', Tr s s' → (∀ b o, NT b o → s.heap.get? b = some o → s'.heap.get? b = some o) → 1 ≤ s'.toks → TI s'.heap → (∀ b o, NT b o → s.heap.get? b = some o → b ≠ D ∧ b ≠ C) → D ≠ C → (∃ m, s'.heap.Ns C m) → s'.heap.PlainList D vs.toArray → Ivs vs nss.flatten → RR (.ref D) C (.ok .next) s') :
    wpAny (model prog w) A (newList []) (fun acc s₃ => wpAny (model prog w) A (newFunctionEnv scope c.env.globals cl [] c.env.qual none .none (some c.env)) (fun cenv s₄ =>
      codeAny (model prog w) A (.compStart (.ListComp elt [⟨.Name x px, iter, [], 0⟩, ⟨.Name y py, .Name x px', [], 0⟩] scope pos) 0 (.ref I) acc { cenv with scope := relabel scope c.env }) (RR acc cenv.locals) s₄) E s₃) E s₂ := by
  have hn : ∀ h X v d, d ∈ (nss.map fun ns => T.list (ns.map .int)) → ItR prog w h h X v d → R prog w h X v d := hn_map fun _ => rfl
  have W := S.turns
  refine wpAny_newObj_type (newEnv_comp ?_)
  obtain ⟨hacc, old, ncC, F₀⟩ := comp_ctx ok F k S.fresh S.nd (S.there 0 _ S.st) { cls := .type "list", dict := none, data := .seq ([] : List Value).toArray } rfl (.cls rfl) _ rfl
  dsimp only at hacc old ncC F₀ ⊢
  have hC : (s₂.heap.push { cls := .type "list", dict := none, data := .seq ([] : List Value).toArray }).objs.size = s₂.heap.objs.size + 1 := Heap.size_push ..
  rw [hC] at *
  generalize hh₁ : pushCells ((s₂.heap.push { cls := .type "list", dict := none, data := .seq ([] : List Value).toArray }).push { cls := .type "dict", data := .dict #[] }) scope.names = h₁ at hacc old F₀ ⊢
  generalize hCC : s₂.heap.objs.size + 1 = C at *
  generalize hD : s₂.heap.objs.size = D at *
  generalize hnc : cellsFrom (C + 1) scope.names [] = nc at *
  let P₂ : Addr → Obj → Prop := fun b o => NT b o ∧ s₂.heap.get? b = some o ∧ b ∉ wr
  let c₂ : (Addr → Obj → Prop) → (Str → Option Value) → (Str → Option Value) → Cx := fun P m cm => ⟨c.g, P, mkEnv scope cl c.env C, nc, wr ++ D :: c.X, [], m, cm⟩
  let X₂ : List Addr := Cx.X (c₂ P₂ (fun _ => none) fun _ => none)
  have ltD : ∀ b o, s₂.heap.get? b = some o → @LT.lt Nat _ b D := fun b o e => hD ▸ Heap.lt_size e
  have hW₂ : ∀ b, b ∈ Cx.W (c₂ P₂ (fun _ => none) fun _ => none) → @LT.lt Nat _ D b := fun b hb => by
    have h2 : @Eq Nat (D + 1) C := hCC
    rcases List.mem_cons.mp hb with h | h
    · exact ltC h2 h
    · have h0 : b ∈ nc.map (·.2) := by simpa [c₂, Cx.W] using h
      exact ltC' h2 (ncC b h0)
  have hDX : D ∉ c.X := fun hm => by obtain ⟨o, e, _⟩ := (F.keep k).ex D hm; exact Nat.lt_irrefl _ (ltD D o e)
  have hXw : ∀ b ∈ c.X, b ∉ wr := fun b hb hw => by
    obtain ⟨o, e, n⟩ := F.ex b hb
    exact S.fresh b hw o n.1 e
  have hwD : ∀ b ∈ wr, b ≠ D := fun b hb e => by
    obtain ⟨o, e', _⟩ := S.there 0 _ S.st b hb
    exact Nat.lt_irrefl _ (e ▸ ltD b o e')
  have hfW : ∀ b ∈ fp, b ∉ Cx.W (c₂ P₂ (fun _ => none) fun _ => none) := fun b hb hm => by
    obtain ⟨o, e, _⟩ := S.fpx 0 _ S.st b hb
    exact Nat.lt_irrefl _ (Nat.lt_trans (ltD b o e) (hW₂ b hm))
  have hfD : ∀ b ∈ fp, b ≠ D := fun b hb e => by
    obtain ⟨o, e', _⟩ := S.fpx 0 _ S.st b hb
    exact Nat.lt_irrefl _ (e ▸ ltD b o e')
  have hWw : ∀ b, b ∈ Cx.W (c₂ P₂ (fun _ => none) fun _ => none) → b ∉ wr := fun b hb hw => by
    obtain ⟨o, e', _⟩ := S.there 0 _ S.st b hw
    exact Nat.lt_irrefl _ (Nat.lt_trans (ltD b o e') (hW₂ b hb))
  have hDW : D ∉ Cx.W (c₂ P₂ (fun _ => none) fun _ => none) := fun h => Nat.lt_irrefl _ (hW₂ D h)
  have hmX : ∀ b, b ∉ X₂ → b ∉ Cx.W (c₂ P₂ (fun _ => none) fun _ => none) ∧ b ∉ wr ∧ b ≠ D ∧ b ∉ c.X := fun b hb => by
    refine ⟨fun h => hb (List.mem_append_left _ h), fun h => hb (List.mem_append_right _ (List.mem_append_left _ h)), fun h => hb (List.mem_append_right _ (List.mem_append_right _ (h ▸ List.mem_cons_self ..))), fun h => hb (List.mem_append_right _ (List.mem_append_right _ (List.mem_cons_of_mem _ h)))⟩
  have hXm : ∀ b, b ∉ Cx.W (c₂ P₂ (fun _ => none) fun _ => none) → b ∉ wr → b ≠ D → b ∉ c.X → b ∉ X₂ := fun b h1 h2 h3 h4 hm => by
    rcases List.mem_append.mp hm with h | h
    · exact h1 h
    · rcases List.mem_append.mp h with h | h
      · exact h2 h
      · rcases List.mem_cons.mp h with h | h
        · exact h3 h
        · exact h4 h
  have hcells : ∀ n a, (mkEnv scope cl c.env C).cells.lookup n = some a → a ∉ wr ∧ a ≠ D := fun n a e => by
    have e' : (nc ++ cl).lookup n = some a := by
      have := cellsFrom_append scope.names (C + 1) cl
      rw [hnc] at this
      rw [← this]; exact e
    rw [lookup_append] at e'
    cases hc : nc.lookup n with
    | some b =>
      rw [hc] at e'; cases e'
      have hm : a ∈ Cx.W (c₂ P₂ (fun _ => none) fun _ => none) := List.mem_cons_of_mem _ (List.mem_append_left _ (mem_cells hc))
      exact ⟨hWw a hm, fun e => hDW (e ▸ hm)⟩
    | none =>
      rw [hc] at e'
      have hcl := ok.cls (n, a) (mem_of_lookup e')
      refine ⟨fun hm => by obtain ⟨o, e1, d⟩ := F.cl n a hcl; exact S.fresh a hm o (.cell d) e1, fun e => ?_⟩
      have := ((F.keep k).cl n a hcl).lt
      rw [hD] at this
      exact Nat.lt_irrefl _ (e ▸ this)
  generalize hds : (nss.map fun ns => T.list (ns.map .int)) = ds at *
  have hdl : ds.length = nss.length := by rw [← hds, List.length_map]
  let Inv : Nat → Shared → Prop := fun kk s' => ∃ i ys ρi m cm, Tr s₂ s' ∧ St i s'.heap ∧ InF prog w (c₂ P₂ m cm) ρi s' ∧ s'.heap.PlainList D (List.toArray ys) ∧ Ivs ys (nss.take i).flatten ∧ i ≤ ds.length ∧ kk = ds.length + 1 - i
  have start : Inv (ds.length + 1) { s₂ with heap := h₁ } := ⟨0, [], inn cl ρ, _, _, ⟨_, _, rfl⟩, W.frame _ _ _ S.st (fun b _ o e => old b o e), F₀, ⟨_, hacc⟩, .nil, Nat.zero_le _, rfl⟩
  have hks : ∀ z, scope.names.lookup z = some .local → canStore nc (mkEnv scope cl c.env C) z := fun z hz => .inl (by have := kind_mk (env := c.env) (cl := cl) (C := C) hz; rw [this]; rfl)
  have loop : codeAny (model prog w) A (.compLoop (.ListComp elt [⟨.Name x px, iter, [], 0⟩, ⟨.Name y py, .Name x px', [], 0⟩] scope pos) 0 (.ref I) (.ref D) (mkEnv scope cl c.env C)) (RR (.ref D) C) { s₂ with heap := h₁ } := by
    refine codeAny_two0 Inv (fun _ => rfl) ?_ _ start
    intro n s' hI E'
    refine cps fun Cg hCg => ?_
    obtain ⟨i, ys, ρi, m, cm, t₁, st₁, F₁, hpl, hys, hi, rfl⟩ := hI
    refine hCg ?_
    by_cases hlt : i < ds.length
    · refine withTok F₁.tk (W.item i _ _ _ hlt st₁ fun v h₁ tk₁ hMd hk₁ htk => ?_)
      refine W.go i v _ _ _ hMd fun h₂ hPv st₂ hk₂ => ?_
      have hkk : ∀ b ob, b ∉ wr → s'.heap.get? b = some ob → h₂.get? b = some ob := fun b ob hb e => hk₂ b ob hb (hk₁ b ob hb e)
      have F₄ : InF prog w (c₂ P₂ m cm) ρi { s' with heap := h₂, toks := tk₁ } := F₁.othersG (S := (· ∈ wr)) hkk (fun b hb => List.mem_append_left _ hb) (fun b ob h => h.2.2) (S.there _ _ st₂) (fun n a e => (hcells n a e).1) htk
      obtain ⟨d, hd, hit⟩ := S.item i v h₂ hlt hPv
      have hmem : d ∈ ds := List.mem_of_getElem? hd
      have hin : i < nss.length := hdl ▸ hlt
      have hde : T.list (nss[i].map .int) = d := by
        rw [← hds, List.getElem?_map, List.getElem?_eq_getElem hin] at hd
        exact Option.some.inj hd
      have up : ∀ {u du}, R prog w s₂.heap (wr ++ c.X) u du → R prog w h₂ X₂ u du := fun r => by
        refine R.monoN (fun b ob hb n e => F₄.Ph b ob ⟨n, e, fun hm => hb (List.mem_append_left _ hm)⟩) (fun b ob hb n e => ?_) r
        exact hXm b (fun h => Nat.lt_irrefl _ (Nat.lt_trans (ltD b ob e) (hW₂ b h))) (fun h => hb (List.mem_append_left _ h)) (fun h => Nat.lt_irrefl _ (h ▸ ltD b ob e)) fun h => hb (List.mem_append_right _ h)
      have hit' : ItR prog w h₂ h₂ X₂ v d := by
        rcases hit with r | ⟨t, a, b, da, db, rfl, ht, rfl, ra, rb⟩
        · exact .inl (up r)
        · exact .inr ⟨t, a, b, da, db, rfl, ht, rfl, up ra, up rb⟩
      have rv : R prog w h₂ X₂ v d := hn _ _ _ _ hmem hit'
      subst hde
      let P₃ : Addr → Obj → Prop := fun b ob => NT b ob ∧ h₂.get? b = some ob ∧ b ∉ Cx.W (c₂ P₂ (fun _ => none) fun _ => none)
      let P₄ : Addr → Obj → Prop := fun b ob => P₃ b ob ∧ b ≠ D
      have F₅ : InF prog w (c₂ P₃ m cm) ρi { s' with heap := h₂, toks := tk₁ } := F₄.strengthenP (fun b ob h => ⟨h.1, F₄.Ph b ob h, F₄.PW b ob h⟩) (fun b ob h => h.1) (fun b ob h => h.2.1) fun b ob h => h.2.2
      have hksx : canStore nc (mkEnv scope cl c.env C) x := hnc ▸ canStore_mk ok
      refine wpAny_assign_Name (F₅.store hksx rv fun m' cm' s₃ t₃ F₆ => ?_)
      have F₆' : InF prog w (c₂ P₄ m' cm') (upd ρi x (.v (.list (nss[i].map .int)))) s₃ := F₆.weakenP (fun b ob h => h.1) fun b ob n e => ⟨F₆.gP b ob n e, fun e' => Nat.lt_irrefl _ (e' ▸ ltD b ob (k.heap b ob n (F.ground b ob n e)))⟩
      have G2 : GivesC prog w A (c₂ P₄ m' cm') (upd ρi x (.v (.list (nss[i].map .int)))) (.Name y py) (.Name x px') (nss[i].map .int) := GivesC.list hh (Ev.name (by unfold upd; simp) hpx)
      refine G2 s₃ _ _ F₆' fun s₄ I2 fp2 wr2 Pp2 Md2 St2 k2 S2 RE => ?_
      have hplD : s₄.heap.PlainList D ys.toArray := by
        obtain ⟨nn, e⟩ := hpl
        exact ⟨nn, k2.heap _ _ (.cls rfl) (F₆.Ph D _ ⟨.cls rfl, hkk D _ (fun h => hwD D h rfl) e, hDW⟩)⟩
      have hlen : (nss.take i).flatten.length + nss[i].length ≤ 1000000 := by
        have e1 : (nss.take (i + 1)).flatten = (nss.take i).flatten ++ nss[i] := by
          rw [List.take_add_one, List.getElem?_eq_getElem hin, Option.toList_some, List.flatten_append]; simp
        have e2 : (nss.take (i + 1)).flatten.length ≤ nss.flatten.length := by
          conv => rhs; rw [← List.take_append_drop (i + 1) nss, List.flatten_append, List.length_append]
          exact Nat.le_add_right ..
        rw [e1, List.length_append] at e2
        exact Nat.le_trans e2 (List.length_flatten ▸ hz)
      refine two_inner F₆' k2 S2 (hks y hy) (fun c' ρ' n _ hρ' => helt c' ρ' n hρ') (List.mem_append_right _ (List.mem_cons_self ..)) (fun b ob h => h.2) (fun n a e => (hcells n a e).2) hplD hys hlen fun ρ' m'' cm'' ys' s₅ t₅ F₇ _ hpl' hys' => ?_
      refine ⟨ds.length + 1 - (i + 1), stepLt hlt, i + 1, ys', ρ', m'', cm'', t₁.trans ((show Tr s' { s' with heap := h₂, toks := tk₁ } from ⟨_, _, rfl⟩).trans (t₃.trans t₅)), ?_, F₇.weakenP (fun b ob h => ⟨⟨h.1, F₄.Ph b ob h, F₄.PW b ob h⟩, fun e' => Nat.lt_irrefl _ (e' ▸ ltD b ob h.2.1)⟩) F₁.gP, hpl', ?_, hlt, rfl⟩
      · exact W.frame _ _ _ st₂ fun b hb ob e => by
          obtain ⟨o', e', n⟩ := S.fpx _ _ st₂ b hb
          have : o' = ob := Option.some.inj (e'.symm.trans e)
          exact F₇.Ph b ob ⟨⟨this ▸ n.1, e, hfW b hb⟩, hfD b hb⟩
      · rw [List.take_add_one, List.getElem?_eq_getElem hin, Option.toList_some, List.flatten_append]
        simpa using hys'
    · have hin : i = ds.length := endEq hi hlt
      subst hin
      refine withTok F₁.tk (W.done _ _ _ st₁ fun h₂ tk₁ hk₁ htk => ?_)
      rw [hdl, List.take_length] at hys
      refine hRR D C ys _ ?_ ?_ htk (F₁.ti.off (S := (· ∈ wr)) hk₁ fun b hb => S.there _ _ st₁ b hb) ?_ ?_ ?_ ?_ hys
      · exact k.tr.trans (t₁.trans ⟨_, _, rfl⟩)
      · intro b ob nt e
        have hbw : b ∉ wr := fun hm => S.fresh b hm ob nt e
        exact hk₁ b ob hbw (F₁.Ph b ob ⟨nt, k.heap b ob nt e, hbw⟩)
      · intro b ob nt e
        have h1 := ltD b ob (k.heap b ob nt e)
        have h2 : @Eq Nat (D + 1) C := hCC
        refine ⟨fun e => ?_, fun e => ?_⟩
        · exact neD h1 e
        · exact neC h2 h1 e
      · intro e
        have h2 : @Eq Nat (D + 1) C := hCC
        exact neDC h2 e
      · exact ⟨m, F₁.ns.at' fun o e => hk₁ _ o (hWw _ (List.mem_cons_self ..)) e⟩
      · obtain ⟨nn, e⟩ := hpl
        exact ⟨nn, hk₁ D _ (fun h => hwD D h rfl) e⟩
  exact codeAny_compStart_list loop (S.self 0 _ _ _ (W.frame _ _ _ S.st fun b _ o e => old b o e) loop)


theorem Ev.listComp2 {c : Cx} {scope : Scope} {cl : List (Str × Addr)} {x y : Str} {px px' py pos : Pos} {elt iter : Expr} {nss : List (List Int)} (hh : A.handled = none) (ok : CompOk c.env scope cl x) (hy : scope.names.lookup y = some .local) (hpx : plainName x = true) (hs : ∀ x, foldedSetIterable iter c.env x = pure x)
    (hg : GivesC prog w A c ρ (.Name x px) iter (nss.map fun ns => T.list (ns.map .int))) (helt : ∀ (c : Cx) ρ' n, ρ' y = some (.v (.int n)) → Ev prog w A c ρ' elt (.int n)) (hz : (nss.map (·.length)).sum ≤ 1000000) :
    Ev prog w A c ρ (.ListComp elt [⟨.Name x px, iter, [], 0⟩, ⟨.Name y py, .Name x px', [], 0⟩] scope pos) (.list (nss.flatten.map .int)) := fun s Q E F hq => by
  rw [eval_ListComp]
  refine wpAny_comprehension_free (use := none) rfl hs ok.clos ok.kind ok.names (hg s _ _ F fun s₂ I fp wr Pp Md St k S => comp_list2 (RR := fun acc C => compPost (model prog w) A E none Q acc C) hh ok hy hpx F k S helt hz ?_)
  intro D C vs s' t hk htk hti hfr hDC hns hpl hrs
  obtain ⟨m, hm⟩ := hns
  have hCo : ∃ o, s'.heap.get? C = some o ∧ XO o := let ⟨o, _, _, e, d, _⟩ := hm; ⟨o, e, .dict d⟩
  refine ⟨m, hm, fun h' hs' => hq (.ref D) _ (t.kp (SameBut.keep hs' hk fun b o n e => (hfr b o n e).2) htk (hti.same hs' hCo)) ?_⟩
  have hDX : D ∉ c.X := fun h => by obtain ⟨o, e, n⟩ := F.ex D h; exact (hfr D o n.1 e).1 rfl
  exact .list hDX (hpl.extBut hs'.extBut hDC) hrs.rs
end Mine
set_option maxRecDepth 10000
namespace Mine
open PySem PySem.Calls PySem.W

variable {prog : Program} {w : World} {A : Around} {g : Heap} {env : Env} {ow : List (Str × Addr)} {V : List Addr} {ρ : Str → Option B} {c : Cx} {mg mb : Str → Option Value}

theorem fdiv' {x y : Int} (h : y ≠ 0) (h' : bits y ≤ 5000) : binop .FloorDiv (.int x) (.int y) = some (.int (x.fdiv y)) := by
  show (if y ≠ 0 ∧ bits y ≤ 5000 then some (T.int (x.fdiv y)) else none) = _
  rw [if_pos ⟨h, h'⟩]
theorem cutL_map {α β : Type} (f : α → β) (xs : List α) (lo hi st : Option Int) : cutL (xs.map f) lo hi st = (cutL xs lo hi st).map f := by
  unfold cutL
  rw [List.length_map, List.map_filterMap]
  congr 1
  funext i
  rw [List.getElem?_map]
theorem cut_ints {xs : List Int} {lo hi : Option Int} {k : Int} (hk : k ≠ 0) (hx : xs.length ≤ 1000000) : Mine.cut (.list (xs.map .int)) lo hi (some k) = some (.list ((cutL xs lo hi (some k)).map .int)) := by
  show (if some k ≠ some 0 ∧ (xs.map T.int).length ≤ 1000000 then some (T.list (cutL (xs.map T.int) lo hi (some k))) else none) = _
  rw [if_pos ⟨by simpa using hk, by simpa using hx⟩, cutL_map]
def slS (xs : List Int) (k st : Nat) : Int := (cutL xs (some (k : Int)) (some 60) (some (st : Int))).sum
def wordsT (ws : List (List Nat)) : T := .list (ws.map fun w => T.list (w.map fun (f : Nat) => T.int f))
theorem intsOf_ints (l : List Int) : intsOf (l.map T.int) = some l := by
  have := intsOf_map (fun i : Int => i) l
  simpa using this
def priceL (xs : List Int) (n : Nat) : List Int := (List.range n).map fun k => (slS xs k n + 500003 + (k : Int)).fmod 1000001 - 500000
theorem price_bd {xs : List Int} {n : Nat} : ∀ p ∈ priceL xs n, p.natAbs ≤ 500000 := fun p hp => by
  obtain ⟨k, _, rfl⟩ := List.mem_map.mp hp
  have h1 := Int.fmod_nonneg_of_pos (slS xs k n + 500003 + (k : Int)) (show (0 : Int) < 1000001 by decide)
  have h2 := Int.fmod_lt_of_pos (slS xs k n + 500003 + (k : Int)) (show (0 : Int) < 1000001 by decide)
  omega
theorem price_len (xs : List Int) (n : Nat) : (priceL xs n).length = n := by simp [priceL]

structure Law3 (xs : List Int) (first : Int) (n M b q : Nat) (words turned : List (List Nat)) : Prop where
  hx : xs.length ≤ 63
  hn : 1 ≤ n ∧ n ≤ 6
  hM : 1 ≤ M ∧ M ≤ 7
  hb : b ∈ bares
  hbi : item (.str "o>;'") (.int ((first.fdiv 6).fmod 4)) = some (.str ⟨#[b]⟩)
  hw : ∀ w ∈ words, w.length = n ∧ ∀ f ∈ w, f < 7
  ht : ∀ w ∈ turned, w.length = n ∧ ∀ f ∈ w, f < 7
  hwl : words.length ≤ 1000
  htl : turned.length ≤ 1000
  hq : bits (q : Int) ≤ 1000
  hab : bits (worthN words ((priceL xs n).map fun p => 1 + ((M : Int) - 1) * p) ((priceL xs n).map fun p => 1 - p)) ≤ 1000
  hdf : DF (worthN words ((priceL xs n).map fun p => 1 + ((M : Int) - 1) * p) ((priceL xs n).map fun p => 1 - p) * q) (words.length * q)
  hdiv : (worthN words ((priceL xs n).map fun p => 1 + ((M : Int) - 1) * p) ((priceL xs n).map fun p => 1 - p) * q) / ((words.length * q : Nat) : Int) = worthN turned ((priceL xs n).map fun _ => 1) (priceL xs n)
  hmod : (worthN words ((priceL xs n).map fun p => 1 + ((M : Int) - 1) * p) ((priceL xs n).map fun p => 1 - p) * q) % ((words.length * q : Nat) : Int) = 0

theorem law_s3 {m n M b q : Nat} {first : Int} {xs : List Int} {words turned : List (List Nat)} {pm code doc : Value} {L fa : Addr} (G : Gr g mg mb) (r : Room A (m + 40)) (H : Law3 xs first n M b q words turned)
    (h1 : ρ "script" = some (.v (.list (xs.map .int)))) (h2 : ρ "first" = some (.v (.int first))) (h3 : ρ "size" = some (.v (.int n))) (h4 : ρ "modulus" = some (.v (.int M))) (h5 : ρ "words" = some (.v (wordsT words)))
    (h6 : ρ "turned" = some (.v (wordsT turned))) (h7 : ρ "quotient" = some (.v (.int q))) :
    Ex prog w A g (fenv 22 pm code doc L fa) (fenv 22 pm code doc L fa).cells V ρ ((bodyAt 22).drop 20) (.ret (.bool true)) := by
  conv => arg 9; whnf
  have r4 : Room A 4 := r.mono (by first | assumption | exact Nat.le_trans ‹_› (by decide) | exact Nat.le_trans (And.right ‹_›) (by decide) | exact mono2 (by decide) | exact Nat.add_le_add_left (by decide) _ | exact leEq ‹_› ‹_› (by decide) | exact leEq ‹_› (And.right ‹_›) (by decide) | exact leLt ‹_› ‹_› (by decide) | exact leLt ‹_› (And.right ‹_›) (by decide) | exact bd0 ‹_› (by decide) | exact bd0 (And.right ‹_›) (by decide) | omega)
  have hn := H.hn
  have hM := H.hM
  have hpl := price_len xs n
  have hx := H.hx
  refine Ex.cons_next (Ex1.assign (d := .str ⟨#[b]⟩) (swapsWith_plain rfl) (.inl rfl) fun c hc hg => Ev.sub (a := .str "o>;'") (b := .int ((first.fdiv 6).fmod 4)) rfl Ev.str
    (Ev.bin (a := .int (first.fdiv 6)) (b := .int 4) (Ev.bin (a := .int first) (b := .int 6) (Ev.name h2 rfl) Ev.int (binop_ok (fdiv' (by decide) (by decide)))) Ev.int (binop_ok (mod' (by decide)))) (item_ok H.hbi)) ?_
  refine Ex.cons_next (ρ' := upd (upd ρ "bare" (.v (.str ⟨#[b]⟩))) "prices" (.v (.list ((priceL xs n).map .int)))) ?_ ?_
  · have e : (priceL xs n).map T.int = (List.range n).map fun k => T.int ((slS xs k n + 500003 + (k : Int)).fmod 1000001 - 500000) := by simp [priceL]
    rw [e]
    refine Ex1.assignListComp (ds := rngT 0 1 n) (cl := [(("size" : Str), L + 3), (("script" : Str), L + 1)]) rfl (.inl rfl) (CompOk.mk' rfl rfl (by decide) (.inl rfl) (show [("size" : Str), "script"].Nodup by decide) (List.forall_mem_cons.mpr ⟨⟨rfl, rfl, .inl rfl, fun _ => rfl⟩, List.forall_mem_cons.mpr ⟨⟨rfl, rfl, .inl rfl, fun _ => rfl⟩, fun _ h => nomatch h⟩⟩)) (fun _ => rfl)
      (fun c hc hg => GivesC.range1 r.h (hg ▸ G.gnd) (by rw [hc]; rfl) (G.bi "range" (by decide)).1 ((G.bi "range" (by decide)).2.trans rfl) rfl (Ev.name h3 rfl) (by first | assumption | exact Nat.le_trans ‹_› (by decide) | exact Nat.le_trans (And.right ‹_›) (by decide) | exact mono2 (by decide) | exact Nat.add_le_add_left (by decide) _ | exact leEq ‹_› ‹_› (by decide) | exact leEq ‹_› (And.right ‹_›) (by decide) | exact leLt ‹_› ‹_› (by decide) | exact leLt ‹_› (And.right ‹_›) (by decide) | exact bd0 ‹_› (by decide) | exact bd0 (And.right ‹_›) (by decide) | omega)) (by rw [rng_map]; exact hn_map fun _ => rfl) ?_ (by simp [rngT]; first | assumption | exact Nat.le_trans ‹_› (by decide) | exact Nat.le_trans (And.right ‹_›) (by decide) | exact mono2 (by decide) | exact Nat.add_le_add_left (by decide) _ | exact leEq ‹_› ‹_› (by decide) | exact leEq ‹_› (And.right ‹_›) (by decide) | exact leLt ‹_› ‹_› (by decide) | exact leLt ‹_› (And.right ‹_›) (by decide) | exact bd0 ‹_› (by decide) | exact bd0 (And.right ‹_›) (by decide) | omega)
    rw [rng_map]
    refine CL.map _ _ _ fun k hk C c hc hg => ?_
    have hsc : upd (inn [(("size" : Str), L + 3), (("script" : Str), L + 1)] (upd ρ "bare" (.v (.str ⟨#[b]⟩)))) "k" (.v (.int (k : Int))) "script" = some (.v (.list (xs.map .int))) := inn_upd (a := L + 1) rfl rfl h1
    have hsz : upd (inn [(("size" : Str), L + 3), (("script" : Str), L + 1)] (upd ρ "bare" (.v (.str ⟨#[b]⟩)))) "k" (.v (.int (k : Int))) "size" = some (.v (.int n)) := inn_upd (a := L + 3) rfl rfl h3
    refine Ev.bin (a := .int ((slS xs k n + 500003 + (k : Int)).fmod 1000001)) (b := .int 500000) (Ev.bin (a := .int (slS xs k n + 500003 + (k : Int))) (b := .int 1000001) (Ev.bin (a := .int (slS xs k n + 500003)) (b := .int k) (Ev.bin (a := .int (slS xs k n)) (b := .int 500003) ?_ Ev.int (binop_ok rfl)) (Ev.name rfl rfl) (binop_ok rfl)) Ev.int (binop_ok (mod' (by decide)))) Ev.int (binop_ok rfl)
    exact Ev.callG (hg ▸ G) (by decide) (by rw [hc]; rfl) rfl rfl rfl rfl (EvL.cons rfl (Ev.cut (lo := some (k : Int)) (hi := some 60) (st := some (n : Int)) (Ev.name hsc rfl) (.some (Ev.name rfl rfl)) (.some Ev.int) (.some (Ev.name hsz rfl)) (cut_ints (by first | assumption | exact Nat.le_trans ‹_› (by decide) | exact Nat.le_trans (And.right ‹_›) (by decide) | exact mono2 (by decide) | exact Nat.add_le_add_left (by decide) _ | exact leEq ‹_› ‹_› (by decide) | exact leEq ‹_› (And.right ‹_›) (by decide) | exact leLt ‹_› ‹_› (by decide) | exact leLt ‹_› (And.right ‹_›) (by decide) | exact bd0 ‹_› (by decide) | exact bd0 (And.right ‹_›) (by decide) | omega) (by first | assumption | exact Nat.le_trans ‹_› (by decide) | exact Nat.le_trans (And.right ‹_›) (by decide) | exact mono2 (by decide) | exact Nat.add_le_add_left (by decide) _ | exact leEq ‹_› ‹_› (by decide) | exact leEq ‹_› (And.right ‹_›) (by decide) | exact leLt ‹_› ‹_› (by decide) | exact leLt ‹_› (And.right ‹_›) (by decide) | exact bd0 ‹_› (by decide) | exact bd0 (And.right ‹_›) (by decide) | omega))) .nil) (sum_ok r.h (intsOf_ints _))
  have hp40 : ∀ p ∈ priceL xs n, p.natAbs < 2 ^ 40 ∧ (1 - p).natAbs < 2 ^ 40 ∧ (1 + ((M : Int) - 1) * p).natAbs < 2 ^ 40 := fun p hp => by
    have h := price_bd p hp
    refine ⟨by omega, by omega, ?_⟩
    have h8 : (((M : Int) - 1) * p).natAbs ≤ 6 * 500000 := by
      rw [Int.natAbs_mul]
      exact Nat.mul_le_mul (by first | assumption | exact Nat.le_trans ‹_› (by decide) | exact Nat.le_trans (And.right ‹_›) (by decide) | exact mono2 (by decide) | exact Nat.add_le_add_left (by decide) _ | exact leEq ‹_› ‹_› (by decide) | exact leEq ‹_› (And.right ‹_›) (by decide) | exact leLt ‹_› ‹_› (by decide) | exact leLt ‹_› (And.right ‹_›) (by decide) | exact bd0 ‹_› (by decide) | exact bd0 (And.right ‹_›) (by decide) | omega) h
    omega
  refine Ex.cons_next (Ex1.assign (d := .int (worthN words ((priceL xs n).map fun p => 1 + ((M : Int) - 1) * p) ((priceL xs n).map fun p => 1 - p))) (swapsWith_plain rfl) (.inl rfl) fun c hc hg => Ev.callF (hg ▸ G.gnd) (by rw [hc]; rfl) rfl rfl
    (EvL.cons (d := wordsT words) rfl (Ev.name h5 rfl) (.cons rfl (Ev.name rfl rfl) (.cons (d := .list (((priceL xs n).map fun p => 1 + ((M : Int) - 1) * p).map .int)) rfl ?_ (.cons (d := .list (((priceL xs n).map fun p => 1 - p).map .int)) rfl ?_ .nil))))
    (hg ▸ law_worth_ok (m := m) G (r.mono (by first | assumption | exact Nat.le_trans ‹_› (by decide) | exact Nat.le_trans (And.right ‹_›) (by decide) | exact mono2 (by decide) | exact Nat.add_le_add_left (by decide) _ | exact leEq ‹_› ‹_› (by decide) | exact leEq ‹_› (And.right ‹_›) (by decide) | exact leLt ‹_› ‹_› (by decide) | exact leLt ‹_› (And.right ‹_›) (by decide) | exact bd0 ‹_› (by decide) | exact bd0 (And.right ‹_›) (by decide) | omega)) H.hb H.hw (by first | assumption | exact Nat.le_trans ‹_› (by decide) | exact Nat.le_trans (And.right ‹_›) (by decide) | exact mono2 (by decide) | exact Nat.add_le_add_left (by decide) _ | exact leEq ‹_› ‹_› (by decide) | exact leEq ‹_› (And.right ‹_›) (by decide) | exact leLt ‹_› ‹_› (by decide) | exact leLt ‹_› (And.right ‹_›) (by decide) | exact bd0 ‹_› (by decide) | exact bd0 (And.right ‹_›) (by decide) | omega) (by have := H.hwl; omega) (by simp [hpl]) (by simp [hpl]) (fun x hx => by obtain ⟨p, hp, rfl⟩ := List.mem_map.mp hx; exact (hp40 p hp).2.2) (fun x hx => by obtain ⟨p, hp, rfl⟩ := List.mem_map.mp hx; exact (hp40 p hp).2.1))) ?_
  · have e : ((priceL xs n).map fun p => 1 + ((M : Int) - 1) * p).map T.int = (priceL xs n).map fun p => T.int (1 + ((M : Int) - 1) * p) := by simp
    rw [e]
    refine Ev.listComp (ds := (priceL xs n).map T.int) (cl := [(("modulus" : Str), L + 2)]) (CompOk.mk' (by rw [hc]; rfl) rfl (by decide) (.inl rfl) (show [("modulus" : Str)].Nodup by decide) (by rw [hc]; exact List.forall_mem_cons.mpr ⟨⟨rfl, rfl, .inl rfl, fun _ => rfl⟩, fun _ h => nomatch h⟩)) (fun _ => rfl)
      (GivesC.list r.h (Ev.name rfl rfl)) (hn_map fun _ => rfl) ?_ (by rw [List.length_map, hpl]; omega)
    refine CL.map _ _ _ fun p hp C c' hc' hg' => ?_
    have hb := price_bd p hp
    refine Ev.bin (a := .int 1) (b := .int (((M : Int) - 1) * p)) Ev.int (Ev.bin (a := .int ((M : Int) - 1)) (b := .int p) (Ev.bin (a := .int M) (b := .int 1) (Ev.name (inn_upd (a := L + 2) rfl rfl h4) rfl) Ev.int (binop_ok rfl)) (Ev.name rfl rfl) (binop_ok (mulN ⟨?_, ?_⟩))) (binop_ok rfl)
    · exact Nat.le_trans (bits_le (k := 20) (by first | assumption | exact Nat.le_trans ‹_› (by decide) | exact Nat.le_trans (And.right ‹_›) (by decide) | exact mono2 (by decide) | exact Nat.add_le_add_left (by decide) _ | exact leEq ‹_› ‹_› (by decide) | exact leEq ‹_› (And.right ‹_›) (by decide) | exact leLt ‹_› ‹_› (by decide) | exact leLt ‹_› (And.right ‹_›) (by decide) | exact bd0 ‹_› (by decide) | exact bd0 (And.right ‹_›) (by decide) | omega)) (by decide)
    · exact Nat.le_trans (bits_le (k := 20) (by first | assumption | exact Nat.le_trans ‹_› (by decide) | exact Nat.le_trans (And.right ‹_›) (by decide) | exact mono2 (by decide) | exact Nat.add_le_add_left (by decide) _ | exact leEq ‹_› ‹_› (by decide) | exact leEq ‹_› (And.right ‹_›) (by decide) | exact leLt ‹_› ‹_› (by decide) | exact leLt ‹_› (And.right ‹_›) (by decide) | exact bd0 ‹_› (by decide) | exact bd0 (And.right ‹_›) (by decide) | omega)) (by decide)
  · have e : ((priceL xs n).map fun p => 1 - p).map T.int = (priceL xs n).map fun p => T.int (1 - p) := by simp
    rw [e]
    refine Ev.listComp (ds := (priceL xs n).map T.int) (cl := []) (CompOk.mk' (by rw [hc]; rfl) rfl (by decide) (.inl rfl) (by simp) (fun _ h => nomatch h)) (fun _ => rfl)
      (GivesC.list r.h (Ev.name rfl rfl)) (hn_map fun _ => rfl) ?_ (by rw [List.length_map, hpl]; omega)
    refine CL.map _ _ _ fun p hp C c' hc' hg' => ?_
    exact Ev.bin (a := .int 1) (b := .int p) Ev.int (Ev.name rfl rfl) (binop_ok rfl)
  refine Ex.cons_next (Ex1.assign (d := .int (worthN turned ((priceL xs n).map fun _ => 1) (priceL xs n))) (swapsWith_plain rfl) (.inl rfl) fun c hc hg => Ev.callF (hg ▸ G.gnd) (by rw [hc]; rfl) rfl rfl
    (EvL.cons (d := wordsT turned) rfl (Ev.name h6 rfl) (.cons rfl (Ev.name rfl rfl) (.cons (d := .list (((priceL xs n).map fun _ => (1 : Int)).map .int)) rfl ?_ (.cons (d := .list ((priceL xs n).map .int)) rfl (Ev.name rfl rfl) .nil))))
    (hg ▸ law_worth_ok (m := m) G (r.mono (by first | assumption | exact Nat.le_trans ‹_› (by decide) | exact Nat.le_trans (And.right ‹_›) (by decide) | exact mono2 (by decide) | exact Nat.add_le_add_left (by decide) _ | exact leEq ‹_› ‹_› (by decide) | exact leEq ‹_› (And.right ‹_›) (by decide) | exact leLt ‹_› ‹_› (by decide) | exact leLt ‹_› (And.right ‹_›) (by decide) | exact bd0 ‹_› (by decide) | exact bd0 (And.right ‹_›) (by decide) | omega)) H.hb H.ht (by first | assumption | exact Nat.le_trans ‹_› (by decide) | exact Nat.le_trans (And.right ‹_›) (by decide) | exact mono2 (by decide) | exact Nat.add_le_add_left (by decide) _ | exact leEq ‹_› ‹_› (by decide) | exact leEq ‹_› (And.right ‹_›) (by decide) | exact leLt ‹_› ‹_› (by decide) | exact leLt ‹_› (And.right ‹_›) (by decide) | exact bd0 ‹_› (by decide) | exact bd0 (And.right ‹_›) (by decide) | omega) (by have := H.htl; omega) (by simp [hpl]) (by simp [hpl]) (fun x hx => by obtain ⟨p, hp, rfl⟩ := List.mem_map.mp hx; decide) (fun x hx => (hp40 x hx).1))) ?_
  · have e : ((priceL xs n).map fun _ => (1 : Int)).map T.int = (priceL xs n).map fun _ => T.int 1 := by simp
    rw [e]
    refine Ev.listComp (ds := (priceL xs n).map T.int) (cl := []) (CompOk.mk' (by rw [hc]; rfl) rfl (by decide) (.inl rfl) (by simp) (fun _ h => nomatch h)) (fun _ => rfl)
      (GivesC.list r.h (Ev.name rfl rfl)) (hn_map fun _ => rfl) ?_ (by rw [List.length_map, hpl]; omega)
    exact CL.map _ _ _ fun p hp C c' hc' hg' => Ev.int
  refine Ex.cons_next (Ex1.ite (b := false) (fun c hc hg => EvT.cmp rfl (Ev.name rfl rfl) Ev.noneC is_none_ok) (fun h => by cases h) fun _ => Ex.nil) ?_
  have ha := H.hab
  have hwl := H.hwl
  have hdf := H.hdf
  have hdiv := H.hdiv
  have hmod := H.hmod
  generalize hA : worthN words ((priceL xs n).map fun p => 1 + ((M : Int) - 1) * p) ((priceL xs n).map fun p => 1 - p) = a at *
  generalize hB : worthN turned ((priceL xs n).map fun _ => 1) (priceL xs n) = bh at *
  refine Ex.cons_ret (Ex1.ret fun c hc hg => Ev.cmp rfl (a := .tuple [.int (a * q / ((words.length * q : Nat) : Int)), .int (a * q % ((words.length * q : Nat) : Int))]) (b := .tuple [.int bh, .int 0])
    (Ev.callF (hg ▸ G.gnd) (by rw [hc]; rfl) rfl rfl (EvL.cons rfl (Ev.bin (a := .int a) (b := .int q) (Ev.name rfl rfl) (Ev.name ?_ rfl) (binop_ok (mulN ⟨by omega, by have := H.hq; omega⟩)))
      (.cons rfl (Ev.bin (a := .int words.length) (b := .int q) (Ev.callG (hg ▸ G) (by decide) (by rw [hc]; rfl) rfl rfl rfl rfl (EvL.cons rfl (Ev.name (d := wordsT words) ?_ rfl) .nil) ?_) (Ev.name ?_ rfl) (binop_ok ?_)) .nil)) (hg ▸ int_divmod_ok (m := m) (k := 10) G (r.mono (by first | assumption | exact Nat.le_trans ‹_› (by decide) | exact Nat.le_trans (And.right ‹_›) (by decide) | exact mono2 (by decide) | exact Nat.add_le_add_left (by decide) _ | exact leEq ‹_› ‹_› (by decide) | exact leEq ‹_› (And.right ‹_›) (by decide) | exact leLt ‹_› ‹_› (by decide) | exact leLt ‹_› (And.right ‹_›) (by decide) | exact bd0 ‹_› (by decide) | exact bd0 (And.right ‹_›) (by decide) | omega)) hdf))
    (Ev.tuple (EvL.cons rfl (Ev.name rfl rfl) (.cons rfl Ev.int .nil)) (show 2 ≤ sizeLine by decide)) (.b ?_ (eq_tuple_ok r4 rfl rfl)))
  · show dis ρ "quotient" = _; unfold dis; rw [h7]
  · show dis ρ "words" = _; unfold dis; rw [h5]
  · have := len_list_ok (prog := prog) (w := w) (A := A) (xs := words.map fun w => T.list (w.map fun (f : Nat) => T.int f)) (by simp; first | assumption | exact Nat.le_trans ‹_› (by decide) | exact Nat.le_trans (And.right ‹_›) (by decide) | exact mono2 (by decide) | exact Nat.add_le_add_left (by decide) _ | exact leEq ‹_› ‹_› (by decide) | exact leEq ‹_› (And.right ‹_›) (by decide) | exact leLt ‹_› ‹_› (by decide) | exact leLt ‹_› (And.right ‹_›) (by decide) | exact bd0 ‹_› (by decide) | exact bd0 (And.right ‹_›) (by decide) | omega)
    rw [List.length_map] at this; exact this
  · show dis ρ "quotient" = _; unfold dis; rw [h7]
  · rw [mulN ⟨Nat.le_trans (bitsN_le (k := 20) (by first | assumption | exact Nat.le_trans ‹_› (by decide) | exact Nat.le_trans (And.right ‹_›) (by decide) | exact mono2 (by decide) | exact Nat.add_le_add_left (by decide) _ | exact leEq ‹_› ‹_› (by decide) | exact leEq ‹_› (And.right ‹_›) (by decide) | exact leLt ‹_› ‹_› (by decide) | exact leLt ‹_› (And.right ‹_›) (by decide) | exact bd0 ‹_› (by decide) | exact bd0 (And.right ‹_›) (by decide) | omega)) (by decide), by have := H.hq; omega⟩]
    simp
  · rw [hdiv, hmod]; exact decide_eq_true rfl
end Mine
set_option maxRecDepth 10000
namespace Mine
open PySem PySem.Calls PySem.W

theorem getD_set {b : Array UInt8} {i p : Nat} {v : UInt8} (h : i < b.size) : (b.setIfInBounds i v).getD p 0 = if i = p then v else b.getD p 0 := by
  rw [Array.getD_eq_getD_getElem?, Array.getD_eq_getD_getElem?, Array.getElem?_setIfInBounds]
  by_cases e : i = p
  · subst e; simp [h]
  · simp [e]
theorem swIn_getD (data : Array UInt8) (n i p : Nat) : ∀ (js : List Nat) (b : Array UInt8), (∀ j ∈ js, j < n) → i + n ≤ b.size →
    (swIn data n i js b).getD p 0 = if i ≤ p ∧ p < i + n ∧ i + n - 1 - p ∈ js then data.getD (i + (i + n - 1 - p)) 0 else b.getD p 0
  | [], b, _, _ => by simp [swIn]
  | j :: js, b, hj, hb => by
    have hjn := hj j (.head _)
    show (swIn data n i js (b.setIfInBounds (i + n - 1 - j) (data.getD (i + j) 0))).getD p 0 = _
    rw [swIn_getD data n i p js _ (fun k hk => hj k (.tail _ hk)) (by rw [Array.size_setIfInBounds]; exact hb), getD_set (by first | assumption | exact Nat.le_trans ‹_› (by decide) | exact Nat.le_trans (And.right ‹_›) (by decide) | exact mono2 (by decide) | exact Nat.add_le_add_left (by decide) _ | exact leEq ‹_› ‹_› (by decide) | exact leEq ‹_› (And.right ‹_›) (by decide) | exact leLt ‹_› ‹_› (by decide) | exact leLt ‹_› (And.right ‹_›) (by decide) | exact bd0 ‹_› (by decide) | exact bd0 (And.right ‹_›) (by decide) | omega)]
    by_cases h1 : i ≤ p ∧ p < i + n ∧ i + n - 1 - p ∈ js
    · rw [if_pos h1, if_pos ⟨h1.1, h1.2.1, .tail _ h1.2.2⟩]
    · rw [if_neg h1]
      by_cases h2 : i + n - 1 - j = p
      · rw [if_pos h2]
        have e : i + n - 1 - p = j := by omega
        rw [e, if_pos ⟨by omega, by omega, .head _⟩]
      · rw [if_neg h2, if_neg]
        rintro ⟨a1, a2, a3⟩
        rcases List.mem_cons.mp a3 with h | h
        · exact h2 (by first | assumption | exact Nat.le_trans ‹_› (by decide) | exact Nat.le_trans (And.right ‹_›) (by decide) | exact mono2 (by decide) | exact Nat.add_le_add_left (by decide) _ | exact leEq ‹_› ‹_› (by decide) | exact leEq ‹_› (And.right ‹_›) (by decide) | exact leLt ‹_› ‹_› (by decide) | exact leLt ‹_› (And.right ‹_›) (by decide) | exact bd0 ‹_› (by decide) | exact bd0 (And.right ‹_›) (by decide) | omega)
        · exact h1 ⟨a1, a2, h⟩
theorem swFold_getD (data : Array UInt8) (n k j : Nat) (hj : j < n) : ∀ (ks : List Nat) (b : Array UInt8), (∀ k ∈ ks, k * n + n ≤ b.size) →
    (ks.foldl (fun b k => swIn data n (k * n) (List.range n) b) b).getD (k * n + j) 0 = if k ∈ ks then data.getD (k * n + (n - 1 - j)) 0 else b.getD (k * n + j) 0
  | [], b, _ => by simp
  | k' :: ks, b, hk => by
    simp only [List.foldl_cons]
    rw [swFold_getD data n k j hj ks _ (fun x hx => by rw [swIn_size]; exact hk x (.tail _ hx)), swIn_getD data n (k' * n) _ _ _ (fun x hx => List.mem_range.mp hx) (hk k' (.head _))]
    by_cases h1 : k ∈ ks
    · rw [if_pos h1, if_pos (.tail _ h1)]
    · rw [if_neg h1]
      by_cases h2 : k = k'
      · subst h2
        rw [if_pos ⟨by omega, by omega, List.mem_range.mpr (by first | assumption | exact Nat.le_trans ‹_› (by decide) | exact Nat.le_trans (And.right ‹_›) (by decide) | exact mono2 (by decide) | exact Nat.add_le_add_left (by decide) _ | exact leEq ‹_› ‹_› (by decide) | exact leEq ‹_› (And.right ‹_›) (by decide) | exact leLt ‹_› ‹_› (by decide) | exact leLt ‹_› (And.right ‹_›) (by decide) | exact bd0 ‹_› (by decide) | exact bd0 (And.right ‹_›) (by decide) | omega)⟩, if_pos (.head _)]
        congr 1; omega
      · have hne : ¬ (k' * n ≤ k * n + j ∧ k * n + j < k' * n + n ∧ k' * n + n - 1 - (k * n + j) ∈ List.range n) := by
          rintro ⟨a1, a2, _⟩
          rcases Nat.lt_or_gt_of_ne h2 with h | h
          · have := Nat.mul_le_mul_right n (Nat.succ_le_of_lt h)
            rw [Nat.succ_mul] at this; omega
          · have := Nat.mul_le_mul_right n (Nat.succ_le_of_lt h)
            rw [Nat.succ_mul] at this; omega
        rw [if_neg hne, if_neg]
        intro hm
        rcases List.mem_cons.mp hm with h | h
        · exact h2 h
        · exact h1 h
theorem swFold_size (data : Array UInt8) (n : Nat) : ∀ (ks : List Nat) (b : Array UInt8), (ks.foldl (fun b k => swIn data n (k * n) (List.range n) b) b).size = b.size
  | [], b => rfl
  | k :: ks, b => by simp only [List.foldl_cons]; rw [swFold_size data n ks, swIn_size]
theorem swAll_size (data : Array UInt8) (n q : Nat) : (swAll data n q).size = data.size := by unfold swAll; rw [swFold_size]; simp
theorem swAll_getD {data : Array UInt8} {n q k j : Nat} (hs : data.size = q * n) (hk : k < q) (hj : j < n) : (swAll data n q).getD (k * n + j) 0 = data.getD (k * n + (n - 1 - j)) 0 := by
  unfold swAll
  rw [swFold_getD data n k j hj _ _ fun x hx => by
    have := Nat.mul_le_mul_right n (Nat.succ_le_of_lt (List.mem_range.mp hx))
    rw [Nat.succ_mul] at this
    simp; omega]
  rw [if_pos (List.mem_range.mpr hk)]
theorem picked_nat {b : Array UInt8} {lo n : Nat} (h : lo + n ≤ b.size) : (KBy.picked b (some (lo : Int)) (some ((lo + n : Nat) : Int))).toList = (List.range n).map fun j => b.getD (lo + j) 0 := by
  unfold KBy.picked Builtin.Bytes.sliced
  have e1 : (sliceBounds (some (lo : Int)) (some ((lo + n : Nat) : Int)) none b.size) = ((lo : Int), ((lo + n : Nat) : Int), 1) := by
    have h1 : min (lo : Int) b.size = lo := by omega
    have h2 : max (0 : Int) lo = lo := by omega
    have h3 : min ((lo + n : Nat) : Int) b.size = ((lo + n : Nat) : Int) := by omega
    have h4 : max (0 : Int) ((lo + n : Nat) : Int) = ((lo + n : Nat) : Int) := by omega
    have h5 : ¬ ((lo : Int) < 0) := by omega
    have h6 : ¬ (((lo + n : Nat) : Int) < 0) := by omega
    simp only [sliceBounds, Option.getD_none, h5, h6, if_false, show (1 : Int) > 0 by decide, if_true, h1, h2, h3, h4]
  rw [e1]
  show ((sliceRange (lo : Int) ((lo + n : Nat) : Int) 1).filterMap (b[·]?)) = _
  have e2 : sliceRange (lo : Int) ((lo + n : Nat) : Int) 1 = (List.range n).map fun j => lo + j := by
    unfold sliceRange
    have : (if (1 : Int) > 0 then (if (lo : Int) < ((lo + n : Nat) : Int) then (((lo + n : Nat) : Int) - lo + 1 - 1) / 1 else 0) else (if (lo : Int) > ((lo + n : Nat) : Int) then ((lo : Int) - ((lo + n : Nat) : Int) - 1 - 1) / (-1) else 0)).toNat = n := by
      rw [if_pos (by decide)]
      split
      · rw [Int.ediv_one]; omega
      · omega
    dsimp only
    rw [this]
    refine List.map_congr_left fun j _ => ?_
    omega
  rw [e2, List.filterMap_map]
  have : ∀ l : List Nat, (∀ j ∈ l, j < n) → l.filterMap ((b[·]?) ∘ fun j => lo + j) = l.map fun j => b.getD (lo + j) 0 := by
    intro l
    induction l with
    | nil => intro _; rfl
    | cons a l ih =>
      intro hl
      have ha := hl a (.head _)
      have hlt : lo + a < b.size := by omega
      rw [List.filterMap_cons, List.map_cons, ih fun j hj => hl j (.tail _ hj)]
      simp [Array.getElem?_eq_getElem hlt, Array.getD, hlt]
  exact this _ fun j hj => List.mem_range.mp hj

theorem flat_get {n : Nat} : ∀ (ss : List (List Nat)) (k j : Nat), (∀ s ∈ ss, s.length = n) → j < n → ss.flatten[k * n + j]? = ss[k]?.bind (·[j]?)
  | [], k, j, _, _ => by simp
  | s :: ss, 0, j, h, hj => by
    have hs := h s (.head _)
    rw [List.flatten_cons, Nat.zero_mul, Nat.zero_add, List.getElem?_append_left (by first | assumption | exact Nat.le_trans ‹_› (by decide) | exact Nat.le_trans (And.right ‹_›) (by decide) | exact mono2 (by decide) | exact Nat.add_le_add_left (by decide) _ | exact leEq ‹_› ‹_› (by decide) | exact leEq ‹_› (And.right ‹_›) (by decide) | exact leLt ‹_› ‹_› (by decide) | exact leLt ‹_› (And.right ‹_›) (by decide) | exact bd0 ‹_› (by decide) | exact bd0 (And.right ‹_›) (by decide) | omega)]; rfl
  | s :: ss, k + 1, j, h, hj => by
    have hs := h s (.head _)
    rw [List.flatten_cons, List.getElem?_append_right (by rw [Nat.succ_mul]; omega)]
    have e : (k + 1) * n + j - s.length = k * n + j := by rw [Nat.succ_mul]; omega
    rw [e, flat_get ss k j (fun x hx => h x (.tail _ hx)) hj]; rfl
theorem flat_len {n : Nat} : ∀ (ss : List (List Nat)), (∀ s ∈ ss, s.length = n) → ss.flatten.length = ss.length * n
  | [], _ => by simp
  | s :: ss, h => by
    rw [List.flatten_cons, List.length_append, flat_len ss fun x hx => h x (.tail _ hx), h s (.head _), List.length_cons, Nat.succ_mul]; omega
def tapeOf (ss : List (List Nat)) : Array UInt8 := PySem.byteArr (ss.flatten.map fun (x : Nat) => (x : Int))
theorem tape_size {n : Nat} {ss : List (List Nat)} (h : ∀ s ∈ ss, s.length = n) : (tapeOf ss).size = ss.length * n := by
  have hf := flat_len ss h
  unfold tapeOf byteArr
  generalize ss.flatten = l at *
  simpa using hf
theorem tape_getD {ss : List (List Nat)} {i x : Nat} (h : ss.flatten[i]? = some x) : (tapeOf ss).getD i 0 = x.toUInt8 := by
  unfold tapeOf byteArr
  rw [Array.getD_eq_getD_getElem?]
  generalize ss.flatten = l at *
  simp [h]
theorem turn_piece {n : Nat} {ss : List (List Nat)} (h : ∀ s ∈ ss, s.length = n ∧ ∀ f ∈ s, f < 7) {k : Nat} (hk : k < ss.length) :
    byteT (KBy.picked (swAll (tapeOf ss) n ss.length) (some ((k * n : Nat) : Int)) (some ((k * n + n : Nat) : Int))) = ss[k].reverse.map fun (f : Nat) => T.int f := by
  have hl : ∀ s ∈ ss, s.length = n := fun s hs => (h s hs).1
  have hsz := tape_size hl
  have hb := Nat.mul_le_mul_right n (Nat.succ_le_of_lt hk)
  rw [Nat.succ_mul] at hb
  unfold byteT
  rw [picked_nat (by rw [swAll_size, hsz]; exact hb), List.map_map]
  have hkn := hl _ (List.getElem_mem hk)
  refine List.ext_getElem? fun j => ?_
  rw [List.getElem?_map, List.getElem?_map]
  by_cases hj : j < n
  · rw [List.getElem?_range hj, List.getElem?_reverse (by first | assumption | exact Nat.le_trans ‹_› (by decide) | exact Nat.le_trans (And.right ‹_›) (by decide) | exact mono2 (by decide) | exact Nat.add_le_add_left (by decide) _ | exact leEq ‹_› ‹_› (by decide) | exact leEq ‹_› (And.right ‹_›) (by decide) | exact leLt ‹_› ‹_› (by decide) | exact leLt ‹_› (And.right ‹_›) (by decide) | exact bd0 ‹_› (by decide) | exact bd0 (And.right ‹_›) (by decide) | omega), hkn]
    have hj' : n - 1 - j < ss[k].length := by omega
    have hf : ss.flatten[k * n + (n - 1 - j)]? = some (ss[k][n - 1 - j]) := by
      rw [flat_get ss k _ hl (by first | assumption | exact Nat.le_trans ‹_› (by decide) | exact Nat.le_trans (And.right ‹_›) (by decide) | exact mono2 (by decide) | exact Nat.add_le_add_left (by decide) _ | exact leEq ‹_› ‹_› (by decide) | exact leEq ‹_› (And.right ‹_›) (by decide) | exact leLt ‹_› ‹_› (by decide) | exact leLt ‹_› (And.right ‹_›) (by decide) | exact bd0 ‹_› (by decide) | exact bd0 (And.right ‹_›) (by decide) | omega), List.getElem?_eq_getElem hk, Option.bind_some, List.getElem?_eq_getElem hj']
    show some (T.int (((swAll (tapeOf ss) n ss.length).getD (k * n + j) 0).toNat : Int)) = _
    rw [swAll_getD hsz hk hj, tape_getD hf, List.getElem?_eq_getElem hj']
    have := (h _ (List.getElem_mem hk)).2 _ (List.getElem_mem hj')
    have e : (ss[k][n - 1 - j]).toUInt8.toNat = ss[k][n - 1 - j] := by
      rw [Nat.toUInt8_eq, UInt8.toNat_ofNat']; omega
    rw [e]; rfl
  · rw [List.getElem?_eq_none (by simp; first | assumption | exact Nat.le_trans ‹_› (by decide) | exact Nat.le_trans (And.right ‹_›) (by decide) | exact mono2 (by decide) | exact Nat.add_le_add_left (by decide) _ | exact leEq ‹_› ‹_› (by decide) | exact leEq ‹_› (And.right ‹_›) (by decide) | exact leLt ‹_› ‹_› (by decide) | exact leLt ‹_› (And.right ‹_›) (by decide) | exact bd0 ‹_› (by decide) | exact bd0 (And.right ‹_›) (by decide) | omega), List.getElem?_eq_none (by simp; first | assumption | exact Nat.le_trans ‹_› (by decide) | exact Nat.le_trans (And.right ‹_›) (by decide) | exact mono2 (by decide) | exact Nat.add_le_add_left (by decide) _ | exact leEq ‹_› ‹_› (by decide) | exact leEq ‹_› (And.right ‹_›) (by decide) | exact leLt ‹_› ‹_› (by decide) | exact leLt ‹_› (And.right ‹_›) (by decide) | exact bd0 ‹_› (by decide) | exact bd0 (And.right ‹_›) (by decide) | omega)]; rfl
end Mine
set_option maxRecDepth 10000
namespace Mine
open PySem PySem.Calls PySem.W

variable {prog : Program} {w : World} {A : Around} {g : Heap} {env : Env} {ow : List (Str × Addr)} {V : List Addr} {ρ : Str → Option B} {c : Cx} {mg mb : Str → Option Value}

theorem sum_cast {α : Type} (f : α → Nat) : ∀ l : List α, (l.map fun i => ((f i : Nat) : Int)).sum = ((l.map f).sum : Nat)
  | [] => rfl
  | a :: l => by simp only [List.map_cons, List.sum_cons]; rw [sum_cast f l]; simp
theorem mod_nat {a b : Nat} (h : b ≠ 0) : binop .Mod (.int (a : Int)) (.int (b : Int)) = some (.int ((a % b : Nat) : Int)) := by
  rw [mod' (by first | assumption | exact Nat.le_trans ‹_› (by decide) | exact Nat.le_trans (And.right ‹_›) (by decide) | exact mono2 (by decide) | exact Nat.add_le_add_left (by decide) _ | exact leEq ‹_› ‹_› (by decide) | exact leEq ‹_› (And.right ‹_›) (by decide) | exact leLt ‹_› ‹_› (by decide) | exact leLt ‹_› (And.right ‹_›) (by decide) | exact bd0 ‹_› (by decide) | exact bd0 (And.right ‹_›) (by decide) | omega), Int.fmod_eq_emod_of_nonneg _ (by first | assumption | exact Nat.le_trans ‹_› (by decide) | exact Nat.le_trans (And.right ‹_›) (by decide) | exact mono2 (by decide) | exact Nat.add_le_add_left (by decide) _ | exact leEq ‹_› ‹_› (by decide) | exact leEq ‹_› (And.right ‹_›) (by decide) | exact leLt ‹_› ‹_› (by decide) | exact leLt ‹_› (And.right ‹_›) (by decide) | exact bd0 ‹_› (by decide) | exact bd0 (And.right ‹_›) (by decide) | omega)]
  rfl
theorem zipT_map {α : Type} (f h : α → T) : ∀ l : List α, zipT (l.map f) (l.map h) = l.map fun a => T.tuple [f a, h a]
  | [] => rfl
  | a :: l => by simp only [List.map_cons, zipT]; rw [zipT_map f h l]
theorem range_size (q n : Nat) (hn : 1 ≤ n) : Builtin.Range.rangeSize 0 ((q * n : Nat) : Int) (n : Int) = (q : Int) := by
  unfold Builtin.Range.rangeSize
  have h1 : (n : Int) > 0 := by omega
  rw [if_pos h1]
  split
  · rename_i h
    have h2 : ((q * n : Nat) : Int) - 0 - 1 = (((q - 1) * n + (n - 1) : Nat) : Int) := by
      have h0 : 0 < q * n := by omega
      have : 0 < q := by
        rcases Nat.eq_zero_or_pos q with h | h
        · subst h; simp at h0
        · exact h
      have e : q * n = (q - 1) * n + n := by
        conv => lhs; rw [show q = (q - 1) + 1 by omega]
        rw [Nat.succ_mul]
      omega
    have h0 : 0 < q * n := by omega
    have hq : 0 < q := by
      rcases Nat.eq_zero_or_pos q with h | h
      · subst h; simp at h0
      · exact h
    first
      | (rw [h2]
         have h3 : (((q - 1) * n + (n - 1) : Nat) : Int) / (n : Int) = ((q - 1 : Nat) : Int) := by
           rw [← Int.natCast_ediv]
           congr 1
           rw [Nat.add_comm, Nat.add_mul_div_right _ _ (by first | assumption | exact Nat.le_trans ‹_› (by decide) | exact Nat.le_trans (And.right ‹_›) (by decide) | exact mono2 (by decide) | exact Nat.add_le_add_left (by decide) _ | exact leEq ‹_› ‹_› (by decide) | exact leEq ‹_› (And.right ‹_›) (by decide) | exact leLt ‹_› ‹_› (by decide) | exact leLt ‹_› (And.right ‹_›) (by decide) | exact bd0 ‹_› (by decide) | exact bd0 (And.right ‹_›) (by decide) | omega), Nat.div_eq_of_lt (by first | assumption | exact Nat.le_trans ‹_› (by decide) | exact Nat.le_trans (And.right ‹_›) (by decide) | exact mono2 (by decide) | exact Nat.add_le_add_left (by decide) _ | exact leEq ‹_› ‹_› (by decide) | exact leEq ‹_› (And.right ‹_›) (by decide) | exact leLt ‹_› ‹_› (by decide) | exact leLt ‹_› (And.right ‹_›) (by decide) | exact bd0 ‹_› (by decide) | exact bd0 (And.right ‹_›) (by decide) | omega)]; omega
         rw [h3]; omega)
      | (have h3 : (((q * n : Nat) : Int) - 0 + (n : Int) - 1) / (n : Int) = (q : Int) := by
           have e : (((q * n : Nat) : Int) - 0 + (n : Int) - 1) = ((n - 1 + q * n : Nat) : Int) := by omega
           rw [e, ← Int.natCast_ediv]
           congr 1
           rw [Nat.add_mul_div_right _ _ (by first | assumption | exact Nat.le_trans ‹_› (by decide) | exact Nat.le_trans (And.right ‹_›) (by decide) | exact mono2 (by decide) | exact Nat.add_le_add_left (by decide) _ | exact leEq ‹_› ‹_› (by decide) | exact leEq ‹_› (And.right ‹_›) (by decide) | exact leLt ‹_› ‹_› (by decide) | exact leLt ‹_› (And.right ‹_›) (by decide) | exact bd0 ‹_› (by decide) | exact bd0 (And.right ‹_›) (by decide) | omega), Nat.div_eq_of_lt (by first | assumption | exact Nat.le_trans ‹_› (by decide) | exact Nat.le_trans (And.right ‹_›) (by decide) | exact mono2 (by decide) | exact Nat.add_le_add_left (by decide) _ | exact leEq ‹_› ‹_› (by decide) | exact leEq ‹_› (And.right ‹_›) (by decide) | exact leLt ‹_› ‹_› (by decide) | exact leLt ‹_› (And.right ‹_›) (by decide) | exact bd0 ‹_› (by decide) | exact bd0 (And.right ‹_›) (by decide) | omega)]; omega
         rw [h3])
  · rename_i h
    have : q * n = 0 := by omega
    rcases Nat.mul_eq_zero.mp this with h | h
    · subst h; simp
    · omega

def rowT (row : List Nat) : T := .list (row.map fun (f : Nat) => T.int f)
def shN (l : List Nat) (n : Nat) : Nat := ((List.range n).map fun k => l.getD k 0 * 2 ^ (8 * k)).sum
def tallyN (row span : List Nat) (mv : Nat) : Nat := ((List.range row.length).map fun k => row.getD k 0 * span.reverse.getD (mv + k) 0).sum
structure Law2 (n M dg : Nat) (row : List Nat) (spans : List (List Nat)) : Prop where
  hn : 1 ≤ n ∧ n ≤ 6
  hM : 1 ≤ M ∧ M ≤ 7
  hd : dg ≤ n
  hrow : row.length = dg + 1
  hr7 : ∀ f ∈ row, f < 7
  hs : ∀ s ∈ spans, s.length = n ∧ ∀ f ∈ s, f < 7
  hsl : spans.length ≤ 1000
  chk : ∀ s ∈ spans, ∀ mv ∈ List.range (n - dg), tallyN row s mv = shN row row.length * shN s n / 2 ^ (8 * (n - 1 - mv)) % 256 ∧ tallyN row s mv % M = 0

theorem item_row {row : List Nat} {k : Nat} (hk : k < row.length) (hz : row.length ≤ 1000) : item (rowT row) (.int k) = some (.int (row.getD k 0 : Nat)) := by
  unfold rowT
  rw [item_listN (by first | assumption | exact Nat.le_trans ‹_› (by decide) | exact Nat.le_trans (And.right ‹_›) (by decide) | exact mono2 (by decide) | exact Nat.add_le_add_left (by decide) _ | exact leEq ‹_› ‹_› (by decide) | exact leEq ‹_› (And.right ‹_›) (by decide) | exact leLt ‹_› ‹_› (by decide) | exact leLt ‹_› (And.right ‹_›) (by decide) | exact bd0 ‹_› (by decide) | exact bd0 (And.right ‹_›) (by decide) | omega), List.getElem?_map, List.getElem?_eq_getElem hk]
  simp [List.getD, List.getElem?_eq_getElem hk]
theorem getD_lt {row : List Nat} (h : ∀ f ∈ row, f < 7) (k : Nat) : row.getD k 0 < 7 := by
  by_cases hk : k < row.length
  · simp only [List.getD, List.getElem?_eq_getElem hk, Option.getD_some]; exact h _ (List.getElem_mem hk)
  · simp [List.getD, List.getElem?_eq_none (by omega : row.length ≤ k)]
theorem bits7 {x : Nat} (h : x < 7) : bits (x : Int) ≤ 100000 := Nat.le_trans (bitsN_le (k := 3) (by first | assumption | exact Nat.le_trans ‹_› (by decide) | exact Nat.le_trans (And.right ‹_›) (by decide) | exact mono2 (by decide) | exact Nat.add_le_add_left (by decide) _ | exact leEq ‹_› ‹_› (by decide) | exact leEq ‹_› (And.right ‹_›) (by decide) | exact leLt ‹_› ‹_› (by decide) | exact leLt ‹_› (And.right ‹_›) (by decide) | exact bd0 ‹_› (by decide) | exact bd0 (And.right ‹_›) (by decide) | omega)) (by decide)
theorem sh_item {x k : Nat} (hx : x < 7) (hk : k ≤ 20) : binop .LShift (.int (x : Nat)) (.int ((8 * k : Nat) : Int)) = some (.int ((x * 2 ^ (8 * k) : Nat) : Int)) := by
  rw [shl' (n := 8 * k) rfl (by first | assumption | exact Nat.le_trans ‹_› (by decide) | exact Nat.le_trans (And.right ‹_›) (by decide) | exact mono2 (by decide) | exact Nat.add_le_add_left (by decide) _ | exact leEq ‹_› ‹_› (by decide) | exact leEq ‹_› (And.right ‹_›) (by decide) | exact leLt ‹_› ‹_› (by decide) | exact leLt ‹_› (And.right ‹_›) (by decide) | exact bd0 ‹_› (by decide) | exact bd0 (And.right ‹_›) (by decide) | omega) (bits7 hx)]
  simp
theorem mul8 {k : Nat} (hk : k ≤ 20) : binop .Mult (.int 8) (.int k) = some (.int ((8 * k : Nat) : Int)) := by
  have h8 : bits 8 ≤ 100000 := by decide
  rw [mulN ⟨h8, Nat.le_trans (bitsN_le (k := 20) (by first | assumption | exact Nat.le_trans ‹_› (by decide) | exact Nat.le_trans (And.right ‹_›) (by decide) | exact mono2 (by decide) | exact Nat.add_le_add_left (by decide) _ | exact leEq ‹_› ‹_› (by decide) | exact leEq ‹_› (And.right ‹_›) (by decide) | exact leLt ‹_› ‹_› (by decide) | exact leLt ‹_› (And.right ‹_›) (by decide) | exact bd0 ‹_› (by decide) | exact bd0 (And.right ‹_›) (by decide) | omega)) (by decide)⟩]
  simp
theorem sh_lt {l : List Nat} (h : ∀ f ∈ l, f < 7) {n : Nat} (hn : n ≤ 20) : shN l n < 2 ^ 200 := by
  unfold shN
  have : ∀ ks : List Nat, (∀ k ∈ ks, k < n) → (ks.map fun k => l.getD k 0 * 2 ^ (8 * k)).sum ≤ ks.length * (7 * 2 ^ 160) := by
    intro ks
    induction ks with
    | nil => intro _; simp
    | cons a ks ih =>
      intro hk
      have h1 := ih fun k hk' => hk k (.tail _ hk')
      have h2 : l.getD a 0 * 2 ^ (8 * a) ≤ 7 * 2 ^ 160 := Nat.mul_le_mul (Nat.le_of_lt (getD_lt h a)) (Nat.pow_le_pow_right (by decide) (by have := hk a (.head _); omega))
      simp only [List.map_cons, List.sum_cons, List.length_cons]
      rw [Nat.add_mul, Nat.one_mul, Nat.add_comm (ks.length * _)]
      exact Nat.add_le_add h2 h1
  have h2 := this (List.range n) fun k hk => List.mem_range.mp hk
  rw [List.length_range] at h2
  have h3 : n * (7 * 2 ^ 160) ≤ 20 * (7 * 2 ^ 160) := Nat.mul_le_mul_right _ hn
  refine Nat.lt_of_le_of_lt (Nat.le_trans h2 h3) (by decide)

/-- sum([l[k] << 8 * k for k in ...]) -/
theorem sum_sh_ok {l : List Nat} {n : Nat} (hh : A.handled = none) : Op prog w A (fun vs => call (.builtin "sum") vs) [.list ((List.range n).map fun k => T.int ((l.getD k 0 * 2 ^ (8 * k) : Nat) : Int))] (.int (shN l n : Nat)) := by
  have := sum_ok (prog := prog) (w := w) hh (intsOf_map (fun k : Nat => ((l.getD k 0 * 2 ^ (8 * k) : Nat) : Int)) (List.range n))
  rw [sum_cast] at this
  exact this

theorem law_s2 {m n M dg : Nat} {row : List Nat} {words spans : List (List Nat)} {first : Int} {xs : List Int} {q b : Nat} {pm code doc : Value} {L fa : Addr} (G : Gr g mg mb) (r : Room A (m + 40)) (hgd : A.guards = some []) (H : Law2 n M dg row spans) (H3 : Law3 xs first n M b q words (spans.map List.reverse))
    (h1 : ρ "script" = some (.v (.list (xs.map .int)))) (h2 : ρ "first" = some (.v (.int first))) (h3 : ρ "size" = some (.v (.int n))) (h4 : ρ "modulus" = some (.v (.int M))) (h5 : ρ "words" = some (.v (wordsT words)))
    (h7 : ρ "quotient" = some (.v (.int q))) (h8 : ρ "spans" = some (.v (wordsT spans))) (h9 : ρ "row" = some (.v (rowT row))) (h10 : ρ "degree" = some (.v (.int dg))) :
    ExN prog w A g (fenv 22 pm code doc L fa) (fenv 22 pm code doc L fa).cells V ρ ((bodyAt 22).drop 16) (.ret (.bool true)) := by
  conv => arg 9; whnf
  have hn := H.hn
  have hM := H.hM
  have hsl := H.hsl
  have hd := H.hd
  have hrow := H.hrow
  have hs1 : ∀ s ∈ spans, s.length = n := fun s hs => (H.hs s hs).1
  have hq8 : spans.length * n ≤ 1000 * 6 := Nat.mul_le_mul hsl hn.2
  have hts : (tapeOf spans).size = spans.length * n := tape_size hs1
  have esp : wordsT spans = .list ((spans.map fun s => s.map fun (x : Nat) => (x : Int)).map fun ns => T.list (ns.map .int)) := by simp [wordsT, Function.comp_def]
  refine ExN.cons_next (Ex1N.assign (d := .bytes (swAll (tapeOf spans) n spans.length)) rfl (.inr ⟨rfl, _, rfl, rfl⟩) fun c hc hg => EvN.callF (hg ▸ G.gnd) (by rw [hc]; rfl) rfl rfl
    (EvL.cons (d := .bytes (tapeOf spans)) rfl (Ev.callG (hg ▸ G) (by decide) (by rw [hc]; rfl) rfl rfl rfl rfl (EvL.cons (d := .list ((spans.map fun s => s.map fun (x : Nat) => (x : Int)).flatten.map .int)) rfl ?_ .nil) ?_) (.cons rfl (Ev.name h3 rfl) .nil))
    (hg ▸ byteswap_ok (m := m) G (r.mono (by first | assumption | exact Nat.le_trans ‹_› (by decide) | exact Nat.le_trans (And.right ‹_›) (by decide) | exact mono2 (by decide) | exact Nat.add_le_add_left (by decide) _ | exact leEq ‹_› ‹_› (by decide) | exact leEq ‹_› (And.right ‹_›) (by decide) | exact leLt ‹_› ‹_› (by decide) | exact leLt ‹_› (And.right ‹_›) (by decide) | exact bd0 ‹_› (by decide) | exact bd0 (And.right ‹_›) (by decide) | omega)) hgd (by first | assumption | exact Nat.le_trans ‹_› (by decide) | exact Nat.le_trans (And.right ‹_›) (by decide) | exact mono2 (by decide) | exact Nat.add_le_add_left (by decide) _ | exact leEq ‹_› ‹_› (by decide) | exact leEq ‹_› (And.right ‹_›) (by decide) | exact leLt ‹_› ‹_› (by decide) | exact leLt ‹_› (And.right ‹_›) (by decide) | exact bd0 ‹_› (by decide) | exact bd0 (And.right ‹_›) (by decide) | omega) hts (by first | assumption | exact Nat.le_trans ‹_› (by decide) | exact Nat.le_trans (And.right ‹_›) (by decide) | exact mono2 (by decide) | exact Nat.add_le_add_left (by decide) _ | exact leEq ‹_› ‹_› (by decide) | exact leEq ‹_› (And.right ‹_›) (by decide) | exact leLt ‹_› ‹_› (by decide) | exact leLt ‹_› (And.right ‹_›) (by decide) | exact bd0 ‹_› (by decide) | exact bd0 (And.right ‹_›) (by decide) | omega) (by first | assumption | exact Nat.le_trans ‹_› (by decide) | exact Nat.le_trans (And.right ‹_›) (by decide) | exact mono2 (by decide) | exact Nat.add_le_add_left (by decide) _ | exact leEq ‹_› ‹_› (by decide) | exact leEq ‹_› (And.right ‹_›) (by decide) | exact leLt ‹_› ‹_› (by decide) | exact leLt ‹_› (And.right ‹_›) (by decide) | exact bd0 ‹_› (by decide) | exact bd0 (And.right ‹_›) (by decide) | omega) (by rw [hts]; exact range_size _ _ (by first | assumption | exact Nat.le_trans ‹_› (by decide) | exact Nat.le_trans (And.right ‹_›) (by decide) | exact mono2 (by decide) | exact Nat.add_le_add_left (by decide) _ | exact leEq ‹_› ‹_› (by decide) | exact leEq ‹_› (And.right ‹_›) (by decide) | exact leLt ‹_› ‹_› (by decide) | exact leLt ‹_› (And.right ‹_›) (by decide) | exact bd0 ‹_› (by decide) | exact bd0 (And.right ‹_›) (by decide) | omega)))) (.of ?_)
  · refine Ev.listComp2 (cl := []) r.h (CompOk.mk' (by rw [hc]; rfl) rfl (by decide) (.inl rfl) (by simp) (fun _ h => nomatch h)) rfl rfl (fun _ => rfl) (GivesC.list r.h (Ev.name (esp ▸ h8) rfl)) (fun c ρ' n hρ' => Ev.name hρ' rfl) ?_
    rw [List.map_map]
    have e : (List.length ∘ fun (s : List Nat) => s.map fun (x : Nat) => (x : Int)) = List.length := by funext s; simp
    rw [e, ← List.length_flatten, flat_len spans hs1]; omega
  · have e : (spans.map fun s => s.map fun (x : Nat) => (x : Int)).flatten = spans.flatten.map fun (x : Nat) => (x : Int) := by rw [List.map_flatten]
    rw [e]
    have hfl := flat_len spans hs1
    refine bytes_ok r.h (intsOf_ints _) (fun z hz => ?_) (by simp only [List.length_map]; omega)
    obtain ⟨x, hx, rfl⟩ := List.mem_map.mp hz
    obtain ⟨s, hs, hxs⟩ := List.mem_flatten.mp hx
    have := (H.hs s hs).2 x hxs
    omega
  refine Ex.cons_next (ρ' := upd (upd ρ "tape" (.v (.bytes (swAll (tapeOf spans) n spans.length)))) "turned" (.v (wordsT (spans.map List.reverse)))) ?_ ?_
  · have e : wordsT (spans.map List.reverse) = .list ((List.range spans.length).map fun k => T.list (byteT (KBy.picked (swAll (tapeOf spans) n spans.length) (some ((k * n : Nat) : Int)) (some ((k * n + n : Nat) : Int))))) := by
      unfold wordsT
      congr 1
      refine List.ext_getElem? fun i => ?_
      rw [List.map_map, List.getElem?_map, List.getElem?_map]
      by_cases hi : i < spans.length
      · rw [List.getElem?_range hi, List.getElem?_eq_getElem hi]
        exact congrArg (fun x => some (T.list x)) (turn_piece H.hs hi).symm
      · rw [List.getElem?_eq_none (by first | assumption | exact Nat.le_trans ‹_› (by decide) | exact Nat.le_trans (And.right ‹_›) (by decide) | exact mono2 (by decide) | exact Nat.add_le_add_left (by decide) _ | exact leEq ‹_› ‹_› (by decide) | exact leEq ‹_› (And.right ‹_›) (by decide) | exact leLt ‹_› ‹_› (by decide) | exact leLt ‹_› (And.right ‹_›) (by decide) | exact bd0 ‹_› (by decide) | exact bd0 (And.right ‹_›) (by decide) | omega), List.getElem?_eq_none (by simp; first | assumption | exact Nat.le_trans ‹_› (by decide) | exact Nat.le_trans (And.right ‹_›) (by decide) | exact mono2 (by decide) | exact Nat.add_le_add_left (by decide) _ | exact leEq ‹_› ‹_› (by decide) | exact leEq ‹_› (And.right ‹_›) (by decide) | exact leLt ‹_› ‹_› (by decide) | exact leLt ‹_› (And.right ‹_›) (by decide) | exact bd0 ‹_› (by decide) | exact bd0 (And.right ‹_›) (by decide) | omega)]; rfl
    rw [e]
    refine Ex1.assignListComp (ds := rngT 0 n spans.length) (cl := [(("tape" : Str), L + 6), (("size" : Str), L + 3)]) rfl (.inl rfl) (CompOk.mk' rfl rfl (by decide) (.inl rfl) (show [("tape" : Str), "size"].Nodup by decide) (List.forall_mem_cons.mpr ⟨⟨rfl, rfl, .inl rfl, fun _ => rfl⟩, List.forall_mem_cons.mpr ⟨⟨rfl, rfl, .inl rfl, fun _ => rfl⟩, fun _ h => nomatch h⟩⟩)) (fun _ => rfl)
      (fun c hc hg => GivesC.range3 (a := 0) (b := ((spans.length * n : Nat) : Int)) (cc := n) r.h (hg ▸ G.gnd) (by rw [hc]; rfl) (G.bi "range" (by decide)).1 ((G.bi "range" (by decide)).2.trans rfl) rfl rfl rfl Ev.int (Ev.callG (hg ▸ G) (by decide) (by rw [hc]; rfl) rfl rfl rfl rfl (EvL.cons rfl (Ev.name (d := .bytes (swAll (tapeOf spans) n spans.length)) rfl rfl) .nil) (by
        have := len_bytes_ok (prog := prog) (w := w) (A := A) (b := swAll (tapeOf spans) n spans.length) (by rw [swAll_size, hts]; omega)
        rw [swAll_size, hts] at this; exact this)) (Ev.name h3 rfl) (by first | assumption | exact Nat.le_trans ‹_› (by decide) | exact Nat.le_trans (And.right ‹_›) (by decide) | exact mono2 (by decide) | exact Nat.add_le_add_left (by decide) _ | exact leEq ‹_› ‹_› (by decide) | exact leEq ‹_› (And.right ‹_›) (by decide) | exact leLt ‹_› ‹_› (by decide) | exact leLt ‹_› (And.right ‹_›) (by decide) | exact bd0 ‹_› (by decide) | exact bd0 (And.right ‹_›) (by decide) | omega) (by first | assumption | exact Nat.le_trans ‹_› (by decide) | exact Nat.le_trans (And.right ‹_›) (by decide) | exact mono2 (by decide) | exact Nat.add_le_add_left (by decide) _ | exact leEq ‹_› ‹_› (by decide) | exact leEq ‹_› (And.right ‹_›) (by decide) | exact leLt ‹_› ‹_› (by decide) | exact leLt ‹_› (And.right ‹_›) (by decide) | exact bd0 ‹_› (by decide) | exact bd0 (And.right ‹_›) (by decide) | omega) (by first | assumption | exact Nat.le_trans ‹_› (by decide) | exact Nat.le_trans (And.right ‹_›) (by decide) | exact mono2 (by decide) | exact Nat.add_le_add_left (by decide) _ | exact leEq ‹_› ‹_› (by decide) | exact leEq ‹_› (And.right ‹_›) (by decide) | exact leLt ‹_› ‹_› (by decide) | exact leLt ‹_› (And.right ‹_›) (by decide) | exact bd0 ‹_› (by decide) | exact bd0 (And.right ‹_›) (by decide) | omega) (range_size _ _ (by first | assumption | exact Nat.le_trans ‹_› (by decide) | exact Nat.le_trans (And.right ‹_›) (by decide) | exact mono2 (by decide) | exact Nat.add_le_add_left (by decide) _ | exact leEq ‹_› ‹_› (by decide) | exact leEq ‹_› (And.right ‹_›) (by decide) | exact leLt ‹_› ‹_› (by decide) | exact leLt ‹_› (And.right ‹_›) (by decide) | exact bd0 ‹_› (by decide) | exact bd0 (And.right ‹_›) (by decide) | omega))) (by rw [rng_map3]; exact hn_map fun _ => rfl) ?_ (by simp [rngT]; first | assumption | exact Nat.le_trans ‹_› (by decide) | exact Nat.le_trans (And.right ‹_›) (by decide) | exact mono2 (by decide) | exact Nat.add_le_add_left (by decide) _ | exact leEq ‹_› ‹_› (by decide) | exact leEq ‹_› (And.right ‹_›) (by decide) | exact leLt ‹_› ‹_› (by decide) | exact leLt ‹_› (And.right ‹_›) (by decide) | exact bd0 ‹_› (by decide) | exact bd0 (And.right ‹_›) (by decide) | omega)
    rw [rng_map3]
    refine CL.map _ _ _ fun k hk C c hc hg => ?_
    have hsz : upd (inn [(("tape" : Str), L + 6), (("size" : Str), L + 3)] (upd ρ "tape" (.v (.bytes (swAll (tapeOf spans) n spans.length))))) "k" (.v (.int ((k * n : Nat) : Int))) "size" = some (.v (.int n)) := inn_upd (a := L + 3) rfl rfl h3
    have htp : upd (inn [(("tape" : Str), L + 6), (("size" : Str), L + 3)] (upd ρ "tape" (.v (.bytes (swAll (tapeOf spans) n spans.length))))) "k" (.v (.int ((k * n : Nat) : Int))) "tape" = some (.v (.bytes (swAll (tapeOf spans) n spans.length))) := inn_upd (a := L + 6) rfl rfl rfl
    refine Ev.callG (hg ▸ G) (by decide) (by rw [hc]; rfl) rfl rfl rfl rfl (EvL.cons (d := .bytes (KBy.picked (swAll (tapeOf spans) n spans.length) (some ((k * n : Nat) : Int)) (some ((k * n + n : Nat) : Int)))) rfl (Ev.cut (lo := some ((k * n : Nat) : Int)) (hi := some ((k * n + n : Nat) : Int)) (st := none) (Ev.name htp rfl) (.some (Ev.name rfl rfl)) (.some (Ev.bin (a := .int ((k * n : Nat) : Int)) (b := .int n) (Ev.name rfl rfl) (Ev.name hsz rfl) (binop_ok ?_))) .none ?_) .nil) (list_bytes_ok r.h ?_)
    · show some (T.int _) = some (T.int _); congr 2
    · show (if (swAll (tapeOf spans) n spans.length).size ≤ 1000000 then some (T.bytes _) else none) = _
      rw [if_pos (by rw [swAll_size, hts]; omega)]
    · exact Nat.le_trans (KBc.size_picked_le _ _ _) (by rw [swAll_size, hts]; omega)
  have hrl : row.length ≤ 7 := by omega
  refine Ex.cons_next (Ex1.assign (d := .int (shN row row.length : Nat)) (swapsWith_plain rfl) (.inl rfl) fun c hc hg => Ev.callG (hg ▸ G) (by decide) (by rw [hc]; rfl) rfl rfl rfl rfl (EvL.cons rfl ?_ .nil) (sum_sh_ok r.h)) ?_
  · refine Ev.listComp (ds := rngT 0 1 row.length) (cl := [(("row" : Str), L + 4)]) (CompOk.mk' (by rw [hc]; rfl) rfl (by decide) (.inl rfl) (show [("row" : Str)].Nodup by decide) (by rw [hc]; exact List.forall_mem_cons.mpr ⟨⟨rfl, rfl, .inl rfl, fun _ => rfl⟩, fun _ h => nomatch h⟩)) (fun _ => rfl)
      (GivesC.range1 r.h (hg ▸ G.gnd) (by rw [hc]; rfl) (G.bi "range" (by decide)).1 ((G.bi "range" (by decide)).2.trans rfl) rfl (Ev.callG (hg ▸ G) (by decide) (by rw [hc]; rfl) rfl rfl rfl rfl (EvL.cons rfl (Ev.name (d := rowT row) h9 rfl) .nil) (by
        have := len_list_ok (prog := prog) (w := w) (A := A) (xs := row.map fun (f : Nat) => T.int f) (by simp; first | assumption | exact Nat.le_trans ‹_› (by decide) | exact Nat.le_trans (And.right ‹_›) (by decide) | exact mono2 (by decide) | exact Nat.add_le_add_left (by decide) _ | exact leEq ‹_› ‹_› (by decide) | exact leEq ‹_› (And.right ‹_›) (by decide) | exact leLt ‹_› ‹_› (by decide) | exact leLt ‹_› (And.right ‹_›) (by decide) | exact bd0 ‹_› (by decide) | exact bd0 (And.right ‹_›) (by decide) | omega)
        rw [List.length_map] at this; exact this)) (by first | assumption | exact Nat.le_trans ‹_› (by decide) | exact Nat.le_trans (And.right ‹_›) (by decide) | exact mono2 (by decide) | exact Nat.add_le_add_left (by decide) _ | exact leEq ‹_› ‹_› (by decide) | exact leEq ‹_› (And.right ‹_›) (by decide) | exact leLt ‹_› ‹_› (by decide) | exact leLt ‹_› (And.right ‹_›) (by decide) | exact bd0 ‹_› (by decide) | exact bd0 (And.right ‹_›) (by decide) | omega)) (by rw [rng_map]; exact hn_map fun _ => rfl) ?_ (by simp [rngT]; first | assumption | exact Nat.le_trans ‹_› (by decide) | exact Nat.le_trans (And.right ‹_›) (by decide) | exact mono2 (by decide) | exact Nat.add_le_add_left (by decide) _ | exact leEq ‹_› ‹_› (by decide) | exact leEq ‹_› (And.right ‹_›) (by decide) | exact leLt ‹_› ‹_› (by decide) | exact leLt ‹_› (And.right ‹_›) (by decide) | exact bd0 ‹_› (by decide) | exact bd0 (And.right ‹_›) (by decide) | omega)
    rw [rng_map]
    refine CL.map _ _ _ fun k hk C c' hc' hg' => ?_
    have hk' := List.mem_range.mp hk
    exact Ev.bin (a := .int (row.getD k 0 : Nat)) (b := .int ((8 * k : Nat) : Int)) (Ev.sub (a := rowT row) (b := .int k) rfl (Ev.name (inn_upd (a := L + 4) rfl rfl h9) rfl) (Ev.name rfl rfl) (item_ok (item_row hk' (by first | assumption | exact Nat.le_trans ‹_› (by decide) | exact Nat.le_trans (And.right ‹_›) (by decide) | exact mono2 (by decide) | exact Nat.add_le_add_left (by decide) _ | exact leEq ‹_› ‹_› (by decide) | exact leEq ‹_› (And.right ‹_›) (by decide) | exact leLt ‹_› ‹_› (by decide) | exact leLt ‹_› (And.right ‹_›) (by decide) | exact bd0 ‹_› (by decide) | exact bd0 (And.right ‹_›) (by decide) | omega))))
      (Ev.bin (a := .int 8) (b := .int k) Ev.int (Ev.name rfl rfl) (binop_ok (mul8 (by first | assumption | exact Nat.le_trans ‹_› (by decide) | exact Nat.le_trans (And.right ‹_›) (by decide) | exact mono2 (by decide) | exact Nat.add_le_add_left (by decide) _ | exact leEq ‹_› ‹_› (by decide) | exact leEq ‹_› (And.right ‹_›) (by decide) | exact leLt ‹_› ‹_› (by decide) | exact leLt ‹_› (And.right ‹_›) (by decide) | exact bd0 ‹_› (by decide) | exact bd0 (And.right ‹_›) (by decide) | omega)))) (binop_ok (sh_item (getD_lt H.hr7 k) (by first | assumption | exact Nat.le_trans ‹_› (by decide) | exact Nat.le_trans (And.right ‹_›) (by decide) | exact mono2 (by decide) | exact Nat.add_le_add_left (by decide) _ | exact leEq ‹_› ‹_› (by decide) | exact leEq ‹_› (And.right ‹_›) (by decide) | exact leLt ‹_› ‹_› (by decide) | exact leLt ‹_› (And.right ‹_›) (by decide) | exact bd0 ‹_› (by decide) | exact bd0 (And.right ‹_›) (by decide) | omega)))
  refine Ex.consJ (Ex1.forJ (ds := spans.map fun s => T.tuple [rowT s, rowT s.reverse]) (fun rest ρ => ∃ ss : List (List Nat), rest = ss.map (fun s => T.tuple [rowT s, rowT s.reverse]) ∧ (∀ s ∈ ss, s ∈ spans) ∧
      ρ "script" = some (.v (.list (xs.map .int))) ∧ ρ "first" = some (.v (.int first)) ∧ ρ "size" = some (.v (.int n)) ∧ ρ "modulus" = some (.v (.int M)) ∧ ρ "words" = some (.v (wordsT words)) ∧ ρ "quotient" = some (.v (.int q)) ∧ ρ "row" = some (.v (rowT row)) ∧ ρ "degree" = some (.v (.int dg)) ∧
      ρ "turned" = some (.v (wordsT (spans.map List.reverse))) ∧ ρ "rising" = some (.v (.int (shN row row.length : Nat)))) r.h ?_
    ⟨spans, rfl, fun s hs => hs, h1, h2, h3, h4, h5, h7, h9, h10, rfl, rfl⟩ ?_ ?_ (fun ⟨x, p, e⟩ => by cases e)) ?_
  · have e : (spans.map fun s => T.tuple [rowT s, rowT s.reverse]) = zipT (spans.map rowT) ((spans.map List.reverse).map rowT) := by rw [List.map_map, zipT_map]; rfl
    rw [e]
    exact Gives.zip r.h G.gnd rfl (G.bi "zip" (by decide)).1 ((G.bi "zip" (by decide)).2.trans rfl) rfl rfl (fun c hc hg => Ev.name (d := .list (spans.map rowT)) h8 rfl) (fun c hc hg => Ev.name (d := .list ((spans.map List.reverse).map rowT)) rfl rfl)
  · rintro d rest ρ ⟨ss, hAll⟩
    refine an12 hAll fun f1 f2 g1 g2 g3 g4 g5 g7 g9 g10 g11 g12 => ?_
    obtain ⟨sp, ss, rfl, rfl, rfl⟩ := map_cons_inv f1
    have hsp := f2 sp (.head _)
    obtain ⟨hspl, hsp7⟩ := H.hs sp hsp
    have hchk := H.chk sp hsp
    refine ⟨_, rfl, ?_⟩
    have hshr := sh_lt H.hr7 (n := row.length) (by first | assumption | exact Nat.le_trans ‹_› (by decide) | exact Nat.le_trans (And.right ‹_›) (by decide) | exact mono2 (by decide) | exact Nat.add_le_add_left (by decide) _ | exact leEq ‹_› ‹_› (by decide) | exact leEq ‹_› (And.right ‹_›) (by decide) | exact leLt ‹_› ‹_› (by decide) | exact leLt ‹_› (And.right ‹_›) (by decide) | exact bd0 ‹_› (by decide) | exact bd0 (And.right ‹_›) (by decide) | omega)
    have hshs := sh_lt hsp7 (n := n) (by first | assumption | exact Nat.le_trans ‹_› (by decide) | exact Nat.le_trans (And.right ‹_›) (by decide) | exact mono2 (by decide) | exact Nat.add_le_add_left (by decide) _ | exact leEq ‹_› ‹_› (by decide) | exact leEq ‹_› (And.right ‹_›) (by decide) | exact leLt ‹_› ‹_› (by decide) | exact leLt ‹_› (And.right ‹_›) (by decide) | exact bd0 ‹_› (by decide) | exact bd0 (And.right ‹_›) (by decide) | omega)
    refine ExJ.cons (fun V => Ex1.assign (d := .int (shN row row.length * shN sp n : Nat)) (swapsWith_plain rfl) (.inl rfl) fun c hc hg => Ev.bin (a := .int (shN row row.length : Nat)) (b := .int (shN sp n : Nat)) (Ev.name g12 rfl) (Ev.callG (hg ▸ G) (by decide) (by rw [hc]; rfl) rfl rfl rfl rfl (EvL.cons rfl ?_ .nil) (sum_sh_ok r.h)) (binop_ok ?_)) ?_
    · refine Ev.listComp (ds := rngT 0 1 n) (cl := [(("span" : Str), L + 5)]) (CompOk.mk' (by rw [hc]; rfl) rfl (by decide) (.inl rfl) (show [("span" : Str)].Nodup by decide) (by rw [hc]; exact List.forall_mem_cons.mpr ⟨⟨rfl, rfl, .inl rfl, fun _ => rfl⟩, fun _ h => nomatch h⟩)) (fun _ => rfl)
        (GivesC.range1 r.h (hg ▸ G.gnd) (by rw [hc]; rfl) (G.bi "range" (by decide)).1 ((G.bi "range" (by decide)).2.trans rfl) rfl (Ev.name g3 rfl) (by first | assumption | exact Nat.le_trans ‹_› (by decide) | exact Nat.le_trans (And.right ‹_›) (by decide) | exact mono2 (by decide) | exact Nat.add_le_add_left (by decide) _ | exact leEq ‹_› ‹_› (by decide) | exact leEq ‹_› (And.right ‹_›) (by decide) | exact leLt ‹_› ‹_› (by decide) | exact leLt ‹_› (And.right ‹_›) (by decide) | exact bd0 ‹_› (by decide) | exact bd0 (And.right ‹_›) (by decide) | omega)) (by rw [rng_map]; exact hn_map fun _ => rfl) ?_ (by simp [rngT]; first | assumption | exact Nat.le_trans ‹_› (by decide) | exact Nat.le_trans (And.right ‹_›) (by decide) | exact mono2 (by decide) | exact Nat.add_le_add_left (by decide) _ | exact leEq ‹_› ‹_› (by decide) | exact leEq ‹_› (And.right ‹_›) (by decide) | exact leLt ‹_› ‹_› (by decide) | exact leLt ‹_› (And.right ‹_›) (by decide) | exact bd0 ‹_› (by decide) | exact bd0 (And.right ‹_›) (by decide) | omega)
      rw [rng_map]
      refine CL.map _ _ _ fun k hk C c' hc' hg' => ?_
      have hk' := List.mem_range.mp hk
      exact Ev.bin (a := .int (sp.getD k 0 : Nat)) (b := .int ((8 * k : Nat) : Int)) (Ev.sub (a := rowT sp) (b := .int k) rfl (Ev.name (inn_upd (a := L + 5) rfl rfl rfl) rfl) (Ev.name rfl rfl) (item_ok (item_row (by first | assumption | exact Nat.le_trans ‹_› (by decide) | exact Nat.le_trans (And.right ‹_›) (by decide) | exact mono2 (by decide) | exact Nat.add_le_add_left (by decide) _ | exact leEq ‹_› ‹_› (by decide) | exact leEq ‹_› (And.right ‹_›) (by decide) | exact leLt ‹_› ‹_› (by decide) | exact leLt ‹_› (And.right ‹_›) (by decide) | exact bd0 ‹_› (by decide) | exact bd0 (And.right ‹_›) (by decide) | omega) (by first | assumption | exact Nat.le_trans ‹_› (by decide) | exact Nat.le_trans (And.right ‹_›) (by decide) | exact mono2 (by decide) | exact Nat.add_le_add_left (by decide) _ | exact leEq ‹_› ‹_› (by decide) | exact leEq ‹_› (And.right ‹_›) (by decide) | exact leLt ‹_› ‹_› (by decide) | exact leLt ‹_› (And.right ‹_›) (by decide) | exact bd0 ‹_› (by decide) | exact bd0 (And.right ‹_›) (by decide) | omega))))
        (Ev.bin (a := .int 8) (b := .int k) Ev.int (Ev.name rfl rfl) (binop_ok (mul8 (by first | assumption | exact Nat.le_trans ‹_› (by decide) | exact Nat.le_trans (And.right ‹_›) (by decide) | exact mono2 (by decide) | exact Nat.add_le_add_left (by decide) _ | exact leEq ‹_› ‹_› (by decide) | exact leEq ‹_› (And.right ‹_›) (by decide) | exact leLt ‹_› ‹_› (by decide) | exact leLt ‹_› (And.right ‹_›) (by decide) | exact bd0 ‹_› (by decide) | exact bd0 (And.right ‹_›) (by decide) | omega)))) (binop_ok (sh_item (getD_lt hsp7 k) (by first | assumption | exact Nat.le_trans ‹_› (by decide) | exact Nat.le_trans (And.right ‹_›) (by decide) | exact mono2 (by decide) | exact Nat.add_le_add_left (by decide) _ | exact leEq ‹_› ‹_› (by decide) | exact leEq ‹_› (And.right ‹_›) (by decide) | exact leLt ‹_› ‹_› (by decide) | exact leLt ‹_› (And.right ‹_›) (by decide) | exact bd0 ‹_› (by decide) | exact bd0 (And.right ‹_›) (by decide) | omega)))
    · rw [mulN ⟨Nat.le_trans (bitsN_le hshr) (by decide), Nat.le_trans (bitsN_le hshs) (by decide)⟩]; simp
    refine ExJ.single (Ex1.forJ (ds := rngT 0 1 (n - dg)) (fun rest ρ => ∃ ms : List Nat, rest = ms.map (fun (k : Nat) => T.int k) ∧ (∀ k ∈ ms, k ∈ List.range (n - dg)) ∧
        ρ "script" = some (.v (.list (xs.map .int))) ∧ ρ "first" = some (.v (.int first)) ∧ ρ "size" = some (.v (.int n)) ∧ ρ "modulus" = some (.v (.int M)) ∧ ρ "words" = some (.v (wordsT words)) ∧ ρ "quotient" = some (.v (.int q)) ∧ ρ "row" = some (.v (rowT row)) ∧ ρ "degree" = some (.v (.int dg)) ∧
        ρ "turned" = some (.v (wordsT (spans.map List.reverse))) ∧ ρ "rising" = some (.v (.int (shN row row.length : Nat))) ∧ ρ "product" = some (.v (.int (shN row row.length * shN sp n : Nat))) ∧ ρ "word" = some (.v (rowT sp.reverse))) r.h
      (GivesC.gives fun c hc hg => GivesC.range1 r.h (hg ▸ G.gnd) (by rw [hc]; rfl) (G.bi "range" (by decide)).1 ((G.bi "range" (by decide)).2.trans rfl) rfl (Ev.bin (a := .int n) (b := .int dg) (Ev.name g3 rfl) (Ev.name g10 rfl) (binop_ok (by show some (T.int _) = some (T.int _); congr 2; omega))) (by first | assumption | exact Nat.le_trans ‹_› (by decide) | exact Nat.le_trans (And.right ‹_›) (by decide) | exact mono2 (by decide) | exact Nat.add_le_add_left (by decide) _ | exact leEq ‹_› ‹_› (by decide) | exact leEq ‹_› (And.right ‹_›) (by decide) | exact leLt ‹_› ‹_› (by decide) | exact leLt ‹_› (And.right ‹_›) (by decide) | exact bd0 ‹_› (by decide) | exact bd0 (And.right ‹_›) (by decide) | omega))
      ⟨List.range (n - dg), rng_map _, fun k hk => hk, g1, g2, g3, g4, g5, g7, g9, g10, g11, g12, rfl, rfl⟩ ?_ (.inr ⟨rfl, _, rfl, rfl⟩) (fun _ d hd => by rw [rng_map] at hd; obtain ⟨z, _, rfl⟩ := List.mem_map.mp hd; rfl)) ?_
    · rintro d rest ρ ⟨ms, hAll⟩
      refine an14 hAll fun e1 e2 g1 g2 g3 g4 g5 g7 g9 g10 g11 g12 g13 g14 => ?_
      obtain ⟨mv, ms, rfl, rfl, rfl⟩ := map_cons_inv e1
      have hmvr := e2 mv (.head _)
      have hmv := List.mem_range.mp hmvr
      obtain ⟨c1, c2⟩ := hchk mv hmvr
      refine ⟨_, rfl, ?_⟩
      have hcc := count_calls_ok (prog := prog) (w := w) (A := A) (g := g) (mg := mg) (mb := mb) (n := m) (es := [] ++ (List.range row.length).map fun (k : Nat) => ((k : Int), T.int ((row.getD k 0 * sp.reverse.getD (mv + k) 0 : Nat) : Int))) (ns := (List.range row.length).map fun k => ((row.getD k 0 * sp.reverse.getD (mv + k) 0 : Nat) : Int)) G (r.mono (by first | assumption | exact Nat.le_trans ‹_› (by decide) | exact Nat.le_trans (And.right ‹_›) (by decide) | exact mono2 (by decide) | exact Nat.add_le_add_left (by decide) _ | exact leEq ‹_› ‹_› (by decide) | exact leEq ‹_› (And.right ‹_›) (by decide) | exact leLt ‹_› ‹_› (by decide) | exact leLt ‹_› (And.right ‹_›) (by decide) | exact bd0 ‹_› (by decide) | exact bd0 (And.right ‹_›) (by decide) | omega)) (by
            rw [List.nil_append, List.map_map]
            exact intsOf_map (fun k : Nat => ((row.getD k 0 * sp.reverse.getD (mv + k) 0 : Nat) : Int)) (List.range row.length))
      rw [sum_cast] at hcc
      refine ExJ.cons (fun V => Ex1.assign (d := .int (tallyN row sp mv : Nat)) (swapsWith_plain rfl) (.inl rfl) fun c hc hg => Ev.callF (hg ▸ G.gnd) (by rw [hc]; rfl) rfl rfl
        (EvL.cons (d := .dict ([] ++ (List.range row.length).map fun (k : Nat) => ((k : Int), T.int ((row.getD k 0 * sp.reverse.getD (mv + k) 0 : Nat) : Int)))) rfl ?_ .nil) (hg ▸ hcc)) ?_
      · refine Ev.dictComp (ds := rngT 0 1 row.length) (cl := [(("word" : Str), L + 7), (("row" : Str), L + 4), (("moved" : Str), L + 8)]) (CompOk.mk' (by rw [hc]; rfl) rfl (by decide) (.inl rfl) (show [("word" : Str), "row", "moved"].Nodup by decide) (by rw [hc]; exact List.forall_mem_cons.mpr ⟨⟨rfl, rfl, .inl rfl, fun _ => rfl⟩, List.forall_mem_cons.mpr ⟨⟨rfl, rfl, .inl rfl, fun _ => rfl⟩, List.forall_mem_cons.mpr ⟨⟨rfl, rfl, .inl rfl, fun _ => rfl⟩, fun _ h => nomatch h⟩⟩⟩)) (fun _ => rfl)
          (GivesC.range1 r.h (hg ▸ G.gnd) (by rw [hc]; rfl) (G.bi "range" (by decide)).1 ((G.bi "range" (by decide)).2.trans rfl) rfl (Ev.callG (hg ▸ G) (by decide) (by rw [hc]; rfl) rfl rfl rfl rfl (EvL.cons rfl (Ev.name (d := rowT row) g9 rfl) .nil) (by
            have := len_list_ok (prog := prog) (w := w) (A := A) (xs := row.map fun (f : Nat) => T.int f) (by simp; first | assumption | exact Nat.le_trans ‹_› (by decide) | exact Nat.le_trans (And.right ‹_›) (by decide) | exact mono2 (by decide) | exact Nat.add_le_add_left (by decide) _ | exact leEq ‹_› ‹_› (by decide) | exact leEq ‹_› (And.right ‹_›) (by decide) | exact leLt ‹_› ‹_› (by decide) | exact leLt ‹_› (And.right ‹_›) (by decide) | exact bd0 ‹_› (by decide) | exact bd0 (And.right ‹_›) (by decide) | omega)
            rw [List.length_map] at this; exact this)) (by first | assumption | exact Nat.le_trans ‹_› (by decide) | exact Nat.le_trans (And.right ‹_›) (by decide) | exact mono2 (by decide) | exact Nat.add_le_add_left (by decide) _ | exact leEq ‹_› ‹_› (by decide) | exact leEq ‹_› (And.right ‹_›) (by decide) | exact leLt ‹_› ‹_› (by decide) | exact leLt ‹_› (And.right ‹_›) (by decide) | exact bd0 ‹_› (by decide) | exact bd0 (And.right ‹_›) (by decide) | omega)) (by rw [rng_map]; exact hn_map fun _ => rfl) ?_ (by simp [rngT]; first | assumption | exact Nat.le_trans ‹_› (by decide) | exact Nat.le_trans (And.right ‹_›) (by decide) | exact mono2 (by decide) | exact Nat.add_le_add_left (by decide) _ | exact leEq ‹_› ‹_› (by decide) | exact leEq ‹_› (And.right ‹_›) (by decide) | exact leLt ‹_› ‹_› (by decide) | exact leLt ‹_› (And.right ‹_›) (by decide) | exact bd0 ‹_› (by decide) | exact bd0 (And.right ‹_›) (by decide) | omega) (by rw [hg]; exact G.mn)
        rw [rng_map]
        refine CD.map _ _ _ _ _ ?_ fun k hk => ⟨fun C c' hc' hg' => Ev.name rfl rfl, fun C c' hc' hg' => ?_⟩
        · simp only [List.map_nil, List.nil_append]
          unfold List.Nodup
          rw [List.pairwise_map]
          exact List.nodup_range.imp fun {a b} hab e => hab (by first | assumption | exact Nat.le_trans ‹_› (by decide) | exact Nat.le_trans (And.right ‹_›) (by decide) | exact mono2 (by decide) | exact Nat.add_le_add_left (by decide) _ | exact leEq ‹_› ‹_› (by decide) | exact leEq ‹_› (And.right ‹_›) (by decide) | exact leLt ‹_› ‹_› (by decide) | exact leLt ‹_› (And.right ‹_›) (by decide) | exact bd0 ‹_› (by decide) | exact bd0 (And.right ‹_›) (by decide) | omega)
        · have hk' := List.mem_range.mp hk
          refine Ev.bin (a := .int (row.getD k 0 : Nat)) (b := .int (sp.reverse.getD (mv + k) 0 : Nat)) (Ev.sub (a := rowT row) (b := .int k) rfl (Ev.name (inn_upd (a := L + 4) rfl rfl g9) rfl) (Ev.name rfl rfl) (item_ok (item_row hk' (by first | assumption | exact Nat.le_trans ‹_› (by decide) | exact Nat.le_trans (And.right ‹_›) (by decide) | exact mono2 (by decide) | exact Nat.add_le_add_left (by decide) _ | exact leEq ‹_› ‹_› (by decide) | exact leEq ‹_› (And.right ‹_›) (by decide) | exact leLt ‹_› ‹_› (by decide) | exact leLt ‹_› (And.right ‹_›) (by decide) | exact bd0 ‹_› (by decide) | exact bd0 (And.right ‹_›) (by decide) | omega))))
            (Ev.sub (a := rowT sp.reverse) (b := .int (mv + k : Nat)) rfl (Ev.name (inn_upd (a := L + 7) rfl rfl g14) rfl) (Ev.bin (a := .int mv) (b := .int k) (Ev.name (inn_upd (a := L + 8) rfl rfl rfl) rfl) (Ev.name rfl rfl) (binop_ok rfl)) (item_ok (item_row (by rw [List.length_reverse]; omega) (by rw [List.length_reverse]; omega)))) (binop_ok ?_)
          rw [mulN ⟨bits7 (getD_lt H.hr7 k), bits7 (getD_lt (fun f hf => hsp7 f (List.mem_reverse.mp hf)) _)⟩]; simp
      refine ExJ.cons (fun V => Ex1.ite (b := false) (fun c hc hg => ?_) (fun h => by cases h) fun _ => Ex.nil) ?_
      · refine EvT.eqb (EvT.boolop (EvAll.or_cons (b := !true) (b' := if false then true else (if false then true else false)) (EvT.not (EvT.value (fun _ => rfl) (Ev.isinst (t := "int") (x := (tallyN row sp mv : Nat)) (G := hg ▸ G) (by rw [hc]; rfl) (by rw [hc]; rfl) rfl (.inl ⟨rfl, rfl⟩) (Ev.name rfl rfl)) (truthT_ok rfl (fun _ e => by cases e))))
          fun _ => EvAll.or_cons (b := false) (b' := if false then true else false) (EvT.cmp rfl (a := .int (tallyN row sp mv : Nat)) (b := .int ((shN row row.length * shN sp n / 2 ^ (8 * (n - 1 - mv)) % 256 : Nat) : Int)) (Ev.name rfl rfl) ?_ (intCmp_ok ?_))
            fun _ => EvAll.or_cons (b := false) (b' := false) (EvT.cmp rfl (a := .int ((tallyN row sp mv % M : Nat) : Int)) (b := .int 0) (Ev.bin (a := .int (tallyN row sp mv : Nat)) (b := .int M) (Ev.name rfl rfl) (Ev.name g4 rfl) (binop_ok ?_)) Ev.int (intCmp_ok ?_)) fun _ => EvAll.or_nil)) rfl
        · refine Ev.bin (a := .int ((shN row row.length * shN sp n / 2 ^ (8 * (n - 1 - mv)) : Nat) : Int)) (b := .int 256) (Ev.bin (a := .int (shN row row.length * shN sp n : Nat)) (b := .int ((8 * (n - 1 - mv) : Nat) : Int)) (Ev.name g13 rfl) (Ev.bin (a := .int 8) (b := .int ((n - 1 - mv : Nat) : Int)) Ev.int (Ev.bin (a := .int ((n : Int) - 1)) (b := .int mv) (Ev.bin (a := .int n) (b := .int 1) (Ev.name g3 rfl) Ev.int (binop_ok rfl)) (Ev.name rfl rfl) (binop_ok ?_)) (binop_ok (mul8 (by first | assumption | exact Nat.le_trans ‹_› (by decide) | exact Nat.le_trans (And.right ‹_›) (by decide) | exact mono2 (by decide) | exact Nat.add_le_add_left (by decide) _ | exact leEq ‹_› ‹_› (by decide) | exact leEq ‹_› (And.right ‹_›) (by decide) | exact leLt ‹_› ‹_› (by decide) | exact leLt ‹_› (And.right ‹_›) (by decide) | exact bd0 ‹_› (by decide) | exact bd0 (And.right ‹_›) (by decide) | omega)))) (binop_ok ?_)) Ev.int (binop_ok ?_)
          · show some (T.int _) = some (T.int _); congr 2; omega
          · show (if 0 ≤ ((8 * (n - 1 - mv) : Nat) : Int) then some (T.int (Int.fdiv ((shN row row.length * shN sp n : Nat) : Int) (2 ^ (((8 * (n - 1 - mv) : Nat) : Int)).toNat))) else none) = _
            rw [if_pos (by first | assumption | exact Nat.le_trans ‹_› (by decide) | exact Nat.le_trans (And.right ‹_›) (by decide) | exact mono2 (by decide) | exact Nat.add_le_add_left (by decide) _ | exact leEq ‹_› ‹_› (by decide) | exact leEq ‹_› (And.right ‹_›) (by decide) | exact leLt ‹_› ‹_› (by decide) | exact leLt ‹_› (And.right ‹_›) (by decide) | exact bd0 ‹_› (by decide) | exact bd0 (And.right ‹_›) (by decide) | omega), Int.toNat_natCast, Int.fdiv_eq_ediv_of_nonneg _ (Int.le_of_lt (Int.pow_pos (by decide)))]
            congr 2
          · exact mod_nat (b := 256) (by decide)
        · show some (((tallyN row sp mv : Nat) : Int) != _) = some false
          rw [c1]; simp
        · exact mod_nat (by first | assumption | exact Nat.le_trans ‹_› (by decide) | exact Nat.le_trans (And.right ‹_›) (by decide) | exact mono2 (by decide) | exact Nat.add_le_add_left (by decide) _ | exact leEq ‹_› ‹_› (by decide) | exact leEq ‹_› (And.right ‹_›) (by decide) | exact leLt ‹_› ‹_› (by decide) | exact leLt ‹_› (And.right ‹_›) (by decide) | exact bd0 ‹_› (by decide) | exact bd0 (And.right ‹_›) (by decide) | omega)
        · show some ((((tallyN row sp mv % M : Nat) : Int)) != 0) = some false
          rw [c2]; rfl
      exact .nil ⟨ms, rfl, fun k hk => e2 k (.tail _ hk), g1, g2, g3, g4, g5, g7, g9, g10, g11, g12, g13, g14⟩
    · rintro ρ' ⟨ms, hAll⟩
      refine an14 hAll fun e1 e2 g1 g2 g3 g4 g5 g7 g9 g10 g11 g12 g13 g14 => ?_
      exact .nil ⟨ss, rfl, fun s hs => f2 s (.tail _ hs), g1, g2, g3, g4, g5, g7, g9, g10, g11, g12⟩
  · intro xs e x hx
    cases e
    simp only [List.mem_cons, List.not_mem_nil, or_false] at hx
    rcases hx with rfl | rfl <;> exact .inr ⟨rfl, _, rfl, rfl⟩
  · rintro ρ' ⟨ss, hAll⟩
    refine an12 hAll fun f1 f2 g1 g2 g3 g4 g5 g7 g9 g10 g11 g12 => ?_
    exact law_s3 (m := m) G (r.mono (by first | assumption | exact Nat.le_trans ‹_› (by decide) | exact Nat.le_trans (And.right ‹_›) (by decide) | exact mono2 (by decide) | exact Nat.add_le_add_left (by decide) _ | exact leEq ‹_› ‹_› (by decide) | exact leEq ‹_› (And.right ‹_›) (by decide) | exact leLt ‹_› ‹_› (by decide) | exact leLt ‹_› (And.right ‹_›) (by decide) | exact bd0 ‹_› (by decide) | exact bd0 (And.right ‹_›) (by decide) | omega)) H3 g1 g2 g3 g4 g5 g11 g7
end Mine
set_option maxRecDepth 10000
namespace Mine
open PySem PySem.Calls PySem.W

variable {prog : Program} {w : World} {A : Around} {g : Heap} {env : Env} {ow : List (Str × Addr)} {V : List Addr} {ρ : Str → Option B} {c : Cx} {mg mb : Str → Option Value}

def castL (l : List Nat) : List Int := l.map fun (x : Nat) => (x : Int)
theorem rowT_cast (row : List Nat) : rowT row = .list ((castL row).map .int) := by simp [rowT, castL]
theorem wordsT_cast (ws : List (List Nat)) : wordsT ws = .list ((ws.map castL).map fun l => T.list (l.map .int)) := by
  unfold wordsT castL
  simp [List.map_map, Function.comp_def]
def partsT (parts : List (Int × Int)) : T := .list (parts.map fun p => T.tuple [.int p.1, .int p.2])
def pickP (tk : Int) (parts : List (Int × Int)) (gN dg : Nat) : List Nat → Int → Int → Prop
  | [], D, d => D = gN ∧ d = dg
  | k :: ks, D, d => if (((tk.fdiv (2 ^ k)).fmod 2) == 1) = true then ∃ p, parts[k]? = some p ∧ bits D ≤ 100000 ∧ bits p.1 ≤ 100000 ∧ pickP tk parts gN dg ks (D * p.1) (d + p.2) else pickP tk parts gN dg ks D d
def RowIs (z : Int) (dg W M : Nat) (row : List Nat) : Prop := ∃ a : Nat, z + ((List.range (dg + 1)).map fun k => (2 ^ (W - 1) * 2 ^ (W * k) : Int)).sum = a ∧ cntD a W ≤ 100 ∧ rowOf a W M = castL row
structure Law1 (second root : Int) (n M W dg gN q : Nat) (parts : List (Int × Int)) (row rowQ : List Nat) (words spans : List (List Nat)) : Prop where
  hn : 1 ≤ n ∧ n ≤ 6
  hM : 1 ≤ M ∧ M ≤ 7
  hW : 0 < W ∧ W ≤ 200
  hdg : dg ≤ n
  hroot : root.natAbs < 2 ^ 100
  hP : 2 ≤ parts.length ∧ parts.length ≤ 20
  pick : pickP (1 + second.fmod (2 ^ parts.length - 2)) parts gN dg (List.range parts.length) 1 0
  hdf : DF (2 ^ (W * n) - root ^ n) gN
  hdiv : (2 ^ (W * n) - root ^ n) / (gN : Int) = q
  hmod : (2 ^ (W * n) - root ^ n) % (gN : Int) = 0
  hrg : RowIs gN dg W M row
  hrq : RowIs q (n - dg) W M rowQ
  hl : row.length ≤ 20 ∧ rowQ.length ≤ 20
  hpow : M ^ (n - dg) ≤ 10000 ∧ M ^ dg ≤ 10000
  hwords : sumsOf (castL row) (n - dg) n M = words.map castL
  hspans : sumsOf (castL rowQ) dg n M = spans.map castL

theorem row_is {m dg W M : Nat} {z : Int} {row : List Nat} (G : Gr g mg mb) (r : Room A (m + 11)) (hW : 0 < W ∧ W ≤ 200) (hd : dg ≤ 20) (hM : 1 ≤ M) (H : RowIs z dg W M row) :
    Fn prog w g mg A (nameAt 18) [.int z, .int dg, .int W, .int M] (rowT row) := by
  obtain ⟨a, h1, h2, h3⟩ := H
  have := law_row_ok (prog := prog) (w := w) (A := A) (m := m) (k := 7) (modulus := (M : Int)) G r hW.1 hW.2 hd h1 h2 (by first | assumption | exact Nat.le_trans ‹_› (by decide) | exact Nat.le_trans (And.right ‹_›) (by decide) | exact mono2 (by decide) | exact Nat.add_le_add_left (by decide) _ | exact leEq ‹_› ‹_› (by decide) | exact leEq ‹_› (And.right ‹_›) (by decide) | exact leLt ‹_› ‹_› (by decide) | exact leLt ‹_› (And.right ‹_›) (by decide) | exact bd0 ‹_› (by decide) | exact bd0 (And.right ‹_›) (by decide) | omega) (by first | assumption | exact Nat.le_trans ‹_› (by decide) | exact Nat.le_trans (And.right ‹_›) (by decide) | exact mono2 (by decide) | exact Nat.add_le_add_left (by decide) _ | exact leEq ‹_› ‹_› (by decide) | exact leEq ‹_› (And.right ‹_›) (by decide) | exact leLt ‹_› ‹_› (by decide) | exact leLt ‹_› (And.right ‹_›) (by decide) | exact bd0 ‹_› (by decide) | exact bd0 (And.right ‹_›) (by decide) | omega)
  rw [h3, ← rowT_cast] at this
  exact this
theorem words_is {m copies n M : Nat} {row : List Nat} {words : List (List Nat)} (G : Gr g mg mb) (r : Room A (m + 5)) (hc : copies ≤ 20) (hs : n ≤ 20) (hM : 1 ≤ M ∧ M ≤ 7) (hr : row.length ≤ 20) (hp : M ^ copies ≤ 10000) (h : sumsOf (castL row) copies n M = words.map castL) :
    Fn prog w g mg A (nameAt 19) [rowT row, .int copies, .int n, .int M] (wordsT words) := by
  have := law_sums_ok (prog := prog) (w := w) (A := A) (m := m) (row := castL row) G r hc hs hM.1 (by first | assumption | exact Nat.le_trans ‹_› (by decide) | exact Nat.le_trans (And.right ‹_›) (by decide) | exact mono2 (by decide) | exact Nat.add_le_add_left (by decide) _ | exact leEq ‹_› ‹_› (by decide) | exact leEq ‹_› (And.right ‹_›) (by decide) | exact leLt ‹_› ‹_› (by decide) | exact leLt ‹_› (And.right ‹_›) (by decide) | exact bd0 ‹_› (by decide) | exact bd0 (And.right ‹_›) (by decide) | omega) (by simpa [castL] using hr) hp
  rw [h, ← rowT_cast, ← wordsT_cast] at this
  exact this

theorem law_s1 {m n M W dg gN q b : Nat} {parts : List (Int × Int)} {row rowQ : List Nat} {words spans : List (List Nat)} {first second root : Int} {xs : List Int} {pm code doc : Value} {L fa : Addr} (G : Gr g mg mb) (r : Room A (m + 40)) (hgd : A.guards = some [])
    (H : Law1 second root n M W dg gN q parts row rowQ words spans) (H2 : Law2 n M dg row spans) (H3 : Law3 xs first n M b q words (spans.map List.reverse))
    (h1 : ρ "script" = some (.v (.list (xs.map .int)))) (h2 : ρ "first" = some (.v (.int first))) (h3 : ρ "size" = some (.v (.int n))) (h4 : ρ "modulus" = some (.v (.int M))) (h5 : ρ "second" = some (.v (.int second))) (h6 : ρ "root" = some (.v (.int root))) (h7 : ρ "width" = some (.v (.int W)))
    (h8 : ρ "parts" = some (.v (partsT parts))) :
    ExN prog w A g (fenv 22 pm code doc L fa) (fenv 22 pm code doc L fa).cells V ρ ((bodyAt 22).drop 7) (.ret (.bool true)) := by
  conv => arg 9; whnf
  have hn := H.hn
  have hM := H.hM
  have hW := H.hW
  have hP := H.hP
  have hdg := H.hdg
  have hlen : Op prog w A (fun vs => call (.builtin "len") vs) [partsT parts] (.int parts.length) := by
    have := len_list_ok (prog := prog) (w := w) (A := A) (xs := parts.map fun p => T.tuple [.int p.1, .int p.2]) (by simp; first | assumption | exact Nat.le_trans ‹_› (by decide) | exact Nat.le_trans (And.right ‹_›) (by decide) | exact mono2 (by decide) | exact Nat.add_le_add_left (by decide) _ | exact leEq ‹_› ‹_› (by decide) | exact leEq ‹_› (And.right ‹_›) (by decide) | exact leLt ‹_› ‹_› (by decide) | exact leLt ‹_› (And.right ‹_›) (by decide) | exact bd0 ‹_› (by decide) | exact bd0 (And.right ‹_›) (by decide) | omega)
    rw [List.length_map] at this; exact this
  generalize htk : 1 + second.fmod (2 ^ parts.length - 2) = tk
  have hpick := H.pick
  rw [htk] at hpick
  refine ExN.cons (Ex1.assign (d := .int tk) (swapsWith_plain rfl) (.inl rfl) fun c hc hg => Ev.bin (a := .int 1) (b := .int (second.fmod (2 ^ parts.length - 2))) Ev.int (Ev.bin (a := .int second) (b := .int (2 ^ parts.length - 2)) (Ev.name h5 rfl) (Ev.bin (a := .int (2 ^ parts.length)) (b := .int 2) (Ev.bin (a := .int 2) (b := .int parts.length) Ev.int (Ev.callG (hg ▸ G) (by decide) (by rw [hc]; rfl) rfl rfl rfl rfl (EvL.cons rfl (Ev.name h8 rfl) .nil) hlen) (binop_ok ?_)) Ev.int (binop_ok rfl)) (binop_ok (mod' ?_))) (binop_ok (by rw [← htk]; rfl))) ?_
  · show (if 0 ≤ (parts.length : Int) ∧ (parts.length : Int) ≤ 1000 ∧ bits 2 ≤ 1000 then some (T.int (2 ^ (parts.length : Int).toNat)) else none) = _
    rw [if_pos ⟨by omega, by omega, by decide⟩, Int.toNat_natCast]
  · have h4 : 2 ^ 2 ≤ 2 ^ parts.length := Nat.pow_le_pow_right (by decide) hP.1
    have e : (2 : Int) ^ parts.length = ((2 ^ parts.length : Nat) : Int) := by simp
    rw [e]; omega
  refine ExN.cons (Ex1.assign (d := .int 1) (swapsWith_plain rfl) (.inl rfl) fun c hc hg => Ev.int) ?_
  refine ExN.cons (Ex1.assign (d := .int 0) (swapsWith_plain rfl) (.inl rfl) fun c hc hg => Ev.int) ?_
  refine ExN.consJ (Ex1.forJ (ds := rngT 0 1 parts.length) (fun rest ρ => ∃ (ks : List Nat) (D d : Int), rest = ks.map (fun (k : Nat) => T.int k) ∧ (∀ k ∈ ks, k < parts.length) ∧
      ρ "script" = some (.v (.list (xs.map .int))) ∧ ρ "first" = some (.v (.int first)) ∧ ρ "size" = some (.v (.int n)) ∧ ρ "modulus" = some (.v (.int M)) ∧ ρ "root" = some (.v (.int root)) ∧ ρ "width" = some (.v (.int W)) ∧ ρ "parts" = some (.v (partsT parts)) ∧ ρ "taken" = some (.v (.int tk)) ∧
      ρ "divisor" = some (.v (.int D)) ∧ ρ "degree" = some (.v (.int d)) ∧ pickP tk parts gN dg ks D d) r.h
    (GivesC.gives fun c hc hg => GivesC.range1 r.h (hg ▸ G.gnd) (by rw [hc]; rfl) (G.bi "range" (by decide)).1 ((G.bi "range" (by decide)).2.trans rfl) rfl (Ev.callG (hg ▸ G) (by decide) (by rw [hc]; rfl) rfl rfl rfl rfl (EvL.cons rfl (Ev.name h8 rfl) .nil) hlen) (by first | assumption | exact Nat.le_trans ‹_› (by decide) | exact Nat.le_trans (And.right ‹_›) (by decide) | exact mono2 (by decide) | exact Nat.add_le_add_left (by decide) _ | exact leEq ‹_› ‹_› (by decide) | exact leEq ‹_› (And.right ‹_›) (by decide) | exact leLt ‹_› ‹_› (by decide) | exact leLt ‹_› (And.right ‹_›) (by decide) | exact bd0 ‹_› (by decide) | exact bd0 (And.right ‹_›) (by decide) | omega))
    ⟨List.range parts.length, 1, 0, rng_map _, fun k hk => List.mem_range.mp hk, h1, h2, h3, h4, h6, h7, h8, rfl, rfl, rfl, hpick⟩ ?_ (.inl rfl) (fun _ d hd => by rw [rng_map] at hd; obtain ⟨z, _, rfl⟩ := List.mem_map.mp hd; rfl)) ?_
  · rintro d rest ρ ⟨ks, D, d, hAll⟩
    refine an13 hAll fun f1 f2 g1 g2 g3 g4 g5 g6 g7 g8 g9 g10 g11 => ?_
    obtain ⟨k, ks, rfl, rfl, rfl⟩ := map_cons_inv f1
    have hk := f2 k (.head _)
    refine ⟨_, rfl, ?_⟩
    refine ExJ.single (Ex1.iteJ (J1 := fun ρ => ∃ D d : Int, ρ "script" = some (.v (.list (xs.map .int))) ∧ ρ "first" = some (.v (.int first)) ∧ ρ "size" = some (.v (.int n)) ∧ ρ "modulus" = some (.v (.int M)) ∧ ρ "root" = some (.v (.int root)) ∧ ρ "width" = some (.v (.int W)) ∧ ρ "parts" = some (.v (partsT parts)) ∧ ρ "taken" = some (.v (.int tk)) ∧
      ρ "divisor" = some (.v (.int D)) ∧ ρ "degree" = some (.v (.int d)) ∧ pickP tk parts gN dg ks D d) (((tk.fdiv (2 ^ k)).fmod 2) == 1) (fun c hc hg => ?_) (fun hb => ?_) fun hb => ?_) ?_
    · refine EvT.cmp rfl (a := .int ((tk.fdiv (2 ^ k)).fmod 2)) (b := .int 1) (Ev.bin (a := .int (tk.fdiv (2 ^ k))) (b := .int 2) (Ev.bin (a := .int tk) (b := .int k) (Ev.name g8 rfl) (Ev.name rfl rfl) (binop_ok ?_)) Ev.int (binop_ok (mod' (by decide)))) Ev.int (intCmp_ok rfl)
      show (if 0 ≤ (k : Int) then some (T.int (tk.fdiv (2 ^ (k : Int).toNat))) else none) = _
      rw [if_pos (by first | assumption | exact Nat.le_trans ‹_› (by decide) | exact Nat.le_trans (And.right ‹_›) (by decide) | exact mono2 (by decide) | exact Nat.add_le_add_left (by decide) _ | exact leEq ‹_› ‹_› (by decide) | exact leEq ‹_› (And.right ‹_›) (by decide) | exact leLt ‹_› ‹_› (by decide) | exact leLt ‹_› (And.right ‹_›) (by decide) | exact bd0 ‹_› (by decide) | exact bd0 (And.right ‹_›) (by decide) | omega), Int.toNat_natCast]
    · unfold pickP at g11
      rw [if_pos hb] at g11
      obtain ⟨p, p1, p2, p3, p4⟩ := g11
      have hitem : item (partsT parts) (.int k) = some (.tuple [.int p.1, .int p.2]) := by
        unfold partsT
        rw [item_listN (by first | assumption | exact Nat.le_trans ‹_› (by decide) | exact Nat.le_trans (And.right ‹_›) (by decide) | exact mono2 (by decide) | exact Nat.add_le_add_left (by decide) _ | exact leEq ‹_› ‹_› (by decide) | exact leEq ‹_› (And.right ‹_›) (by decide) | exact leLt ‹_› ‹_› (by decide) | exact leLt ‹_› (And.right ‹_›) (by decide) | exact bd0 ‹_› (by decide) | exact bd0 (And.right ‹_›) (by decide) | omega), List.getElem?_map, p1]; rfl
      have hk2 : bits D ≤ 100000 ∧ bits p.1 ≤ 100000 := ⟨p2, p3⟩
      refine ExJ.cons (fun V => Ex1.aug (a := .int D) (b := .int p.1) (d := .int (D * p.1)) g9 rfl (.inl rfl) (fun c hc hg => Ev.sub (a := .tuple [.int p.1, .int p.2]) (b := .int 0) rfl (Ev.sub (a := partsT parts) (b := .int k) rfl (Ev.name g7 rfl) (Ev.name rfl rfl) (item_ok hitem)) Ev.int (item_ok rfl)) (if_pos hk2)) ?_
      refine ExJ.cons (fun V => Ex1.aug (a := .int d) (b := .int p.2) (d := .int (d + p.2)) g10 rfl (.inl rfl) (fun c hc hg => Ev.sub (a := .tuple [.int p.1, .int p.2]) (b := .int 1) rfl (Ev.sub (a := partsT parts) (b := .int k) rfl (Ev.name g7 rfl) (Ev.name rfl rfl) (item_ok hitem)) Ev.int (item_ok rfl)) rfl) ?_
      exact .nil ⟨D * p.1, d + p.2, g1, g2, g3, g4, g5, g6, g7, g8, rfl, rfl, p4⟩
    · unfold pickP at g11
      rw [if_neg (by rw [hb]; exact Bool.false_ne_true)] at g11
      exact .nil ⟨D, d, g1, g2, g3, g4, g5, g6, g7, g8, g9, g10, g11⟩
    · rintro ρ' ⟨D', d', hAll⟩
      refine an11 hAll fun g1 g2 g3 g4 g5 g6 g7 g8 g9 g10 g11 => ?_
      exact .nil ⟨ks, D', d', rfl, fun z hz => f2 z (.tail _ hz), g1, g2, g3, g4, g5, g6, g7, g8, g9, g10, g11⟩
  · rintro ρ' ⟨ks, D, d, hAll⟩
    refine an13 hAll fun f1 f2 g1 g2 g3 g4 g5 g6 g7 g8 g9 g10 g11 => ?_
    obtain rfl := map_nil_inv f1
    obtain ⟨rfl, rfl⟩ : D = gN ∧ d = dg := g11
    have hWn : W * n ≤ 1200 := Nat.mul_le_mul hW.2 hn.2
    refine ExN.cons (Ex1.assignTuple (d := .tuple [.int ((2 ^ (W * n) - root ^ n) / (gN : Int)), .int ((2 ^ (W * n) - root ^ n) % (gN : Int))]) r.h rfl rfl (fun xs e x hx => ?_) fun c hc hg => Ev.callF (hg ▸ G.gnd) (by rw [hc]; rfl) rfl rfl
      (EvL.cons rfl (Ev.bin (a := .int (2 ^ (W * n))) (b := .int (root ^ n)) (Ev.bin (a := .int 1) (b := .int (W * n : Nat)) Ev.int (Ev.bin (a := .int W) (b := .int n) (Ev.name g6 rfl) (Ev.name g3 rfl) (binop_ok ?_)) (binop_ok ?_)) (Ev.bin (a := .int root) (b := .int n) (Ev.name g5 rfl) (Ev.name g3 rfl) (binop_ok ?_)) (binop_ok rfl)) (.cons rfl (Ev.name g9 rfl) .nil))
      (hg ▸ int_divmod_ok (m := m) (k := 10) G (r.mono (by first | assumption | exact Nat.le_trans ‹_› (by decide) | exact Nat.le_trans (And.right ‹_›) (by decide) | exact mono2 (by decide) | exact Nat.add_le_add_left (by decide) _ | exact leEq ‹_› ‹_› (by decide) | exact leEq ‹_› (And.right ‹_›) (by decide) | exact leLt ‹_› ‹_› (by decide) | exact leLt ‹_› (And.right ‹_›) (by decide) | exact bd0 ‹_› (by decide) | exact bd0 (And.right ‹_›) (by decide) | omega)) H.hdf)) ?_
    · cases e
      simp only [List.mem_cons, List.not_mem_nil, or_false] at hx
      rcases hx with rfl | rfl <;> exact .inl rfl
    · rw [mulN ⟨Nat.le_trans (bitsN_le (k := 20) (by first | assumption | exact Nat.le_trans ‹_› (by decide) | exact Nat.le_trans (And.right ‹_›) (by decide) | exact mono2 (by decide) | exact Nat.add_le_add_left (by decide) _ | exact leEq ‹_› ‹_› (by decide) | exact leEq ‹_› (And.right ‹_›) (by decide) | exact leLt ‹_› ‹_› (by decide) | exact leLt ‹_› (And.right ‹_›) (by decide) | exact bd0 ‹_› (by decide) | exact bd0 (And.right ‹_›) (by decide) | omega)) (by decide), Nat.le_trans (bitsN_le (k := 20) (by first | assumption | exact Nat.le_trans ‹_› (by decide) | exact Nat.le_trans (And.right ‹_›) (by decide) | exact mono2 (by decide) | exact Nat.add_le_add_left (by decide) _ | exact leEq ‹_› ‹_› (by decide) | exact leEq ‹_› (And.right ‹_›) (by decide) | exact leLt ‹_› ‹_› (by decide) | exact leLt ‹_› (And.right ‹_›) (by decide) | exact bd0 ‹_› (by decide) | exact bd0 (And.right ‹_›) (by decide) | omega)) (by decide)⟩]; simp
    · rw [shl' (n := W * n) rfl (by first | assumption | exact Nat.le_trans ‹_› (by decide) | exact Nat.le_trans (And.right ‹_›) (by decide) | exact mono2 (by decide) | exact Nat.add_le_add_left (by decide) _ | exact leEq ‹_› ‹_› (by decide) | exact leEq ‹_› (And.right ‹_›) (by decide) | exact leLt ‹_› ‹_› (by decide) | exact leLt ‹_› (And.right ‹_›) (by decide) | exact bd0 ‹_› (by decide) | exact bd0 (And.right ‹_›) (by decide) | omega) (by decide), Int.one_mul]
    · show (if 0 ≤ (n : Int) ∧ (n : Int) ≤ 1000 ∧ bits root ≤ 1000 then some (T.int (root ^ (n : Int).toNat)) else none) = _
      rw [if_pos ⟨by omega, by omega, Nat.le_trans (bits_le H.hroot) (by decide)⟩, Int.toNat_natCast]
    rw [H.hdiv, H.hmod]
    refine ExN.cons (Ex1.ite (b := false) (fun c hc hg => EvT.cmp rfl (a := .int 0) (b := .int 0) (Ev.name rfl rfl) Ev.int (intCmp_ok rfl)) (fun h => by cases h) fun _ => Ex.nil) ?_
    refine ExN.cons (Ex1.assign (d := rowT row) (swapsWith_plain rfl) (.inr ⟨rfl, _, rfl, rfl⟩) fun c hc hg => Ev.callF (hg ▸ G.gnd) (by rw [hc]; rfl) rfl rfl (EvL.cons rfl (Ev.name g9 rfl) (.cons rfl (Ev.name g10 rfl) (.cons rfl (Ev.name g6 rfl) (.cons rfl (Ev.name g4 rfl) .nil)))) (hg ▸ row_is (m := m) G (r.mono (by first | assumption | exact Nat.le_trans ‹_› (by decide) | exact Nat.le_trans (And.right ‹_›) (by decide) | exact mono2 (by decide) | exact Nat.add_le_add_left (by decide) _ | exact leEq ‹_› ‹_› (by decide) | exact leEq ‹_› (And.right ‹_›) (by decide) | exact leLt ‹_› ‹_› (by decide) | exact leLt ‹_› (And.right ‹_›) (by decide) | exact bd0 ‹_› (by decide) | exact bd0 (And.right ‹_›) (by decide) | omega)) hW (by first | assumption | exact Nat.le_trans ‹_› (by decide) | exact Nat.le_trans (And.right ‹_›) (by decide) | exact mono2 (by decide) | exact Nat.add_le_add_left (by decide) _ | exact leEq ‹_› ‹_› (by decide) | exact leEq ‹_› (And.right ‹_›) (by decide) | exact leLt ‹_› ‹_› (by decide) | exact leLt ‹_› (And.right ‹_›) (by decide) | exact bd0 ‹_› (by decide) | exact bd0 (And.right ‹_›) (by decide) | omega) hM.1 H.hrg)) ?_
    have hsub : binop .Sub (.int (n : Int)) (.int (dg : Int)) = some (.int ((n - dg : Nat) : Int)) := by show some (T.int _) = some (T.int _); congr 2; omega
    refine ExN.cons (Ex1.assign (d := wordsT words) (swapsWith_plain rfl) (.inl rfl) fun c hc hg => Ev.callF (hg ▸ G.gnd) (by rw [hc]; rfl) rfl rfl (EvL.cons rfl (Ev.name rfl rfl) (.cons rfl (Ev.bin (a := .int n) (b := .int dg) (Ev.name g3 rfl) (Ev.name g10 rfl) (binop_ok hsub)) (.cons rfl (Ev.name g3 rfl) (.cons rfl (Ev.name g4 rfl) .nil)))) (hg ▸ words_is (m := m) G (r.mono (by first | assumption | exact Nat.le_trans ‹_› (by decide) | exact Nat.le_trans (And.right ‹_›) (by decide) | exact mono2 (by decide) | exact Nat.add_le_add_left (by decide) _ | exact leEq ‹_› ‹_› (by decide) | exact leEq ‹_› (And.right ‹_›) (by decide) | exact leLt ‹_› ‹_› (by decide) | exact leLt ‹_› (And.right ‹_›) (by decide) | exact bd0 ‹_› (by decide) | exact bd0 (And.right ‹_›) (by decide) | omega)) (by first | assumption | exact Nat.le_trans ‹_› (by decide) | exact Nat.le_trans (And.right ‹_›) (by decide) | exact mono2 (by decide) | exact Nat.add_le_add_left (by decide) _ | exact leEq ‹_› ‹_› (by decide) | exact leEq ‹_› (And.right ‹_›) (by decide) | exact leLt ‹_› ‹_› (by decide) | exact leLt ‹_› (And.right ‹_›) (by decide) | exact bd0 ‹_› (by decide) | exact bd0 (And.right ‹_›) (by decide) | omega) (by first | assumption | exact Nat.le_trans ‹_› (by decide) | exact Nat.le_trans (And.right ‹_›) (by decide) | exact mono2 (by decide) | exact Nat.add_le_add_left (by decide) _ | exact leEq ‹_› ‹_› (by decide) | exact leEq ‹_› (And.right ‹_›) (by decide) | exact leLt ‹_› ‹_› (by decide) | exact leLt ‹_› (And.right ‹_›) (by decide) | exact bd0 ‹_› (by decide) | exact bd0 (And.right ‹_›) (by decide) | omega) hM H.hl.1 H.hpow.1 H.hwords)) ?_
    refine ExN.cons (Ex1.assign (d := wordsT spans) (swapsWith_plain rfl) (.inl rfl) fun c hc hg => Ev.callF (hg ▸ G.gnd) (by rw [hc]; rfl) rfl rfl (EvL.cons (d := rowT rowQ) rfl (Ev.callF (hg ▸ G.gnd) (by rw [hc]; rfl) rfl rfl (EvL.cons rfl (Ev.name rfl rfl) (.cons rfl (Ev.bin (a := .int n) (b := .int dg) (Ev.name g3 rfl) (Ev.name g10 rfl) (binop_ok hsub)) (.cons rfl (Ev.name g6 rfl) (.cons rfl (Ev.name g4 rfl) .nil)))) (hg ▸ row_is (m := m) G (r.mono (by first | assumption | exact Nat.le_trans ‹_› (by decide) | exact Nat.le_trans (And.right ‹_›) (by decide) | exact mono2 (by decide) | exact Nat.add_le_add_left (by decide) _ | exact leEq ‹_› ‹_› (by decide) | exact leEq ‹_› (And.right ‹_›) (by decide) | exact leLt ‹_› ‹_› (by decide) | exact leLt ‹_› (And.right ‹_›) (by decide) | exact bd0 ‹_› (by decide) | exact bd0 (And.right ‹_›) (by decide) | omega)) hW (by first | assumption | exact Nat.le_trans ‹_› (by decide) | exact Nat.le_trans (And.right ‹_›) (by decide) | exact mono2 (by decide) | exact Nat.add_le_add_left (by decide) _ | exact leEq ‹_› ‹_› (by decide) | exact leEq ‹_› (And.right ‹_›) (by decide) | exact leLt ‹_› ‹_› (by decide) | exact leLt ‹_› (And.right ‹_›) (by decide) | exact bd0 ‹_› (by decide) | exact bd0 (And.right ‹_›) (by decide) | omega) hM.1 H.hrq))
      (.cons rfl (Ev.name g10 rfl) (.cons rfl (Ev.name g3 rfl) (.cons rfl (Ev.name g4 rfl) .nil)))) (hg ▸ words_is (m := m) G (r.mono (by first | assumption | exact Nat.le_trans ‹_› (by decide) | exact Nat.le_trans (And.right ‹_›) (by decide) | exact mono2 (by decide) | exact Nat.add_le_add_left (by decide) _ | exact leEq ‹_› ‹_› (by decide) | exact leEq ‹_› (And.right ‹_›) (by decide) | exact leLt ‹_› ‹_› (by decide) | exact leLt ‹_› (And.right ‹_›) (by decide) | exact bd0 ‹_› (by decide) | exact bd0 (And.right ‹_›) (by decide) | omega)) (by first | assumption | exact Nat.le_trans ‹_› (by decide) | exact Nat.le_trans (And.right ‹_›) (by decide) | exact mono2 (by decide) | exact Nat.add_le_add_left (by decide) _ | exact leEq ‹_› ‹_› (by decide) | exact leEq ‹_› (And.right ‹_›) (by decide) | exact leLt ‹_› ‹_› (by decide) | exact leLt ‹_› (And.right ‹_›) (by decide) | exact bd0 ‹_› (by decide) | exact bd0 (And.right ‹_›) (by decide) | omega) (by first | assumption | exact Nat.le_trans ‹_› (by decide) | exact Nat.le_trans (And.right ‹_›) (by decide) | exact mono2 (by decide) | exact Nat.add_le_add_left (by decide) _ | exact leEq ‹_› ‹_› (by decide) | exact leEq ‹_› (And.right ‹_›) (by decide) | exact leLt ‹_› ‹_› (by decide) | exact leLt ‹_› (And.right ‹_›) (by decide) | exact bd0 ‹_› (by decide) | exact bd0 (And.right ‹_›) (by decide) | omega) hM H.hl.2 H.hpow.2 H.hspans)) ?_
    exact law_s2 (m := m) (dg := dg) G (r.mono (by first | assumption | exact Nat.le_trans ‹_› (by decide) | exact Nat.le_trans (And.right ‹_›) (by decide) | exact mono2 (by decide) | exact Nat.add_le_add_left (by decide) _ | exact leEq ‹_› ‹_› (by decide) | exact leEq ‹_› (And.right ‹_›) (by decide) | exact leLt ‹_› ‹_› (by decide) | exact leLt ‹_› (And.right ‹_›) (by decide) | exact bd0 ‹_› (by decide) | exact bd0 (And.right ‹_›) (by decide) | omega)) hgd H2 H3 g1 g2 g3 g4 rfl rfl rfl rfl g10

structure Law0 (xs : List Int) (first second root : Int) (n M W : Nat) (parts : List (Int × Int)) : Prop where
  hx : xs.length ≤ 63
  h1 : first = slS xs 0 3
  h2 : second = slS xs 1 3
  hroot : (slS xs 2 3 + 1000002).fmod 2000001 - 1000000 = root
  hM : item (.list [.int 4, .int 5, .int 6, .int 7, .int 3, .int 2]) (.int (first.fmod 6)) = some (.int M)
  hn : item (.list [.int 0, .int 0, .int 6, .int 4, .int 3, .int 3, .int 3, .int 2]) (.int M) = some (.int n)
  hnn : n ≤ 6
  hW : n * bits ((root.natAbs : Int) + 1) + 2 = W
  hW2 : W ≤ 200
  hparts : outerP (ordsOf n) root W (fun nums degs => (ordsOf n).map (fun o => (iat nums o, iat degs o)) = parts.map fun p => (some p.1, some p.2)) (ordsOf n) [] []
  hne : parts ≠ []


set_option maxHeartbeats 2000000 in
theorem law_ok {m n M W dg gN q b : Nat} {parts : List (Int × Int)} {row rowQ : List Nat} {words spans : List (List Nat)} {first second root : Int} {xs : List Int} (G : Gr g mg mb) (r : Room A (m + 41)) (hgd : A.guards = some [])
    (H0 : Law0 xs first second root n M W parts) (H : Law1 second root n M W dg gN q parts row rowQ words spans) (H2 : Law2 n M dg row spans) (H3 : Law3 xs first n M b q words (spans.map List.reverse)) :
    FnN prog w g mg A (nameAt 22) [.list (xs.map .int)] (.bool true) := by
  refine FnN.of (names := ["script"]) G (by decide) r.limit (fun pm code doc vs hl => ?_) rfl (by decide) ?_ (by decide) rfl rfl rfl fun pm code doc L fa V hcode => ?_
  · obtain ⟨_, rfl⟩ := len1 hl; rfl
  · intro n hn; rw [List.mem_singleton.mp hn]; exact .inr ⟨rfl, fun _ => rfl⟩
  · conv => arg 9; whnf
    have r' : Room (A.deeper (fenv 22 pm code doc L fa)) (m + 40) := r.deeper
    have r4 : Room (A.deeper (fenv 22 pm code doc L fa)) 4 := r'.mono (by first | assumption | exact Nat.le_trans ‹_› (by decide) | exact Nat.le_trans (And.right ‹_›) (by decide) | exact mono2 (by decide) | exact Nat.add_le_add_left (by decide) _ | exact leEq ‹_› ‹_› (by decide) | exact leEq ‹_› (And.right ‹_›) (by decide) | exact leLt ‹_› ‹_› (by decide) | exact leLt ‹_› (And.right ‹_›) (by decide) | exact bd0 ‹_› (by decide) | exact bd0 (And.right ‹_›) (by decide) | omega)
    have hx := H0.hx
    have hW2 := H0.hW2
    refine ExN.cons (Ex1.assignTuple (d := .list ((List.range 3).map fun k => T.int (slS xs k 3))) (ρ' := upd (upd (upd (pz ["script"] [.list (xs.map .int)]) "first" (.v (.int first))) "second" (.v (.int second))) "third" (.v (.int (slS xs 2 3)))) r'.h rfl (by rw [H0.h1, H0.h2]; rfl) (fun xs e x hx => ?_) fun c hc hg => ?_) ?_
    · cases e
      simp only [List.mem_cons, List.not_mem_nil, or_false] at hx
      rcases hx with rfl | rfl | rfl <;> exact .inl rfl
    · refine Ev.listComp (ds := rngT 0 1 3) (cl := [(("script" : Str), L + 1)]) (CompOk.mk' (by rw [hc]; rfl) rfl (by decide) (.inl rfl) (show [("script" : Str)].Nodup by decide) (by rw [hc]; exact List.forall_mem_cons.mpr ⟨⟨rfl, rfl, .inl rfl, fun _ => rfl⟩, fun _ h => nomatch h⟩)) (fun _ => rfl)
        (GivesC.range1 (n := 3) r'.h (hg ▸ G.gnd) (by rw [hc]; rfl) (G.bi "range" (by decide)).1 ((G.bi "range" (by decide)).2.trans rfl) rfl Ev.int (by decide)) (by rw [rng_map]; exact hn_map fun _ => rfl) ?_ (by simp [rngT])
      rw [rng_map]
      refine CL.map _ _ _ fun k hk C c' hc' hg' => ?_
      exact Ev.callG (hg' ▸ hg ▸ G) (by decide) (by rw [hc']; rfl) rfl rfl rfl rfl (EvL.cons rfl (Ev.cut (lo := some (k : Int)) (hi := some 60) (st := some ((3 : Nat) : Int)) (Ev.name rfl rfl) (.some (Ev.name rfl rfl)) (.some Ev.int) (.some Ev.int) (cut_ints (by decide) (by first | assumption | exact Nat.le_trans ‹_› (by decide) | exact Nat.le_trans (And.right ‹_›) (by decide) | exact mono2 (by decide) | exact Nat.add_le_add_left (by decide) _ | exact leEq ‹_› ‹_› (by decide) | exact leEq ‹_› (And.right ‹_›) (by decide) | exact leLt ‹_› ‹_› (by decide) | exact leLt ‹_› (And.right ‹_›) (by decide) | exact bd0 ‹_› (by decide) | exact bd0 (And.right ‹_›) (by decide) | omega))) .nil) (sum_ok r'.h (intsOf_ints _))
    refine ExN.cons (Ex1.assign (d := .int M) (swapsWith_plain rfl) (.inr ⟨rfl, _, rfl, rfl⟩) fun c hc hg => Ev.sub (a := .list [.int 4, .int 5, .int 6, .int 7, .int 3, .int 2]) (b := .int (first.fmod 6)) rfl (Ev.list (EvL.cons rfl Ev.int (.cons rfl Ev.int (.cons rfl Ev.int (.cons rfl Ev.int (.cons rfl Ev.int (.cons rfl Ev.int .nil)))))) (show 6 ≤ sizeLine by decide)) (Ev.bin (a := .int first) (b := .int 6) (Ev.name rfl rfl) Ev.int (binop_ok (mod' (by decide)))) (item_ok H0.hM)) ?_
    refine ExN.cons (Ex1.assign (d := .int n) (swapsWith_plain rfl) (.inr ⟨rfl, _, rfl, rfl⟩) fun c hc hg => Ev.sub (a := .list [.int 0, .int 0, .int 6, .int 4, .int 3, .int 3, .int 3, .int 2]) (b := .int M) rfl (Ev.list (EvL.cons rfl Ev.int (.cons rfl Ev.int (.cons rfl Ev.int (.cons rfl Ev.int (.cons rfl Ev.int (.cons rfl Ev.int (.cons rfl Ev.int (.cons rfl Ev.int .nil)))))))) (show 8 ≤ sizeLine by decide)) (Ev.name rfl rfl) (item_ok H0.hn)) ?_
    refine ExN.cons (Ex1.assign (d := .int root) (swapsWith_plain rfl) (.inl rfl) fun c hc hg => Ev.bin (a := .int ((slS xs 2 3 + 1000002).fmod 2000001)) (b := .int 1000000) (Ev.bin (a := .int (slS xs 2 3 + 1000002)) (b := .int 2000001) (Ev.bin (a := .int (slS xs 2 3)) (b := .int 1000002) (Ev.name rfl rfl) Ev.int (binop_ok rfl)) Ev.int (binop_ok (mod' (by decide)))) Ev.int (binop_ok (by show some (T.int _) = _; rw [H0.hroot]))) ?_
    have hnn := H0.hnn
    have hrt := H.hroot
    refine ExN.cons (Ex1.assign (d := .int W) (swapsWith_plain rfl) (.inl rfl) fun c hc hg => Ev.bin (a := .int (n * bits ((root.natAbs : Int) + 1) : Nat)) (b := .int 2) (Ev.bin (a := .int n) (b := .int (bits ((root.natAbs : Int) + 1) : Nat)) (Ev.name rfl rfl) (Ev.bitlen rfl rfl (Ev.bin (a := .int root.natAbs) (b := .int 1) (Ev.callG (hg ▸ G) (by decide) (by rw [hc]; rfl) rfl rfl rfl rfl (EvL.cons rfl (Ev.name rfl rfl) .nil) abs_ok) Ev.int (binop_ok rfl))) (binop_ok ?_)) Ev.int (binop_ok (by show some (T.int _) = some (T.int _); congr 2; have := H0.hW; omega))) ?_
    · have hb : bits ((root.natAbs : Int) + 1) ≤ 101 := bits_le (by first | assumption | exact Nat.le_trans ‹_› (by decide) | exact Nat.le_trans (And.right ‹_›) (by decide) | exact mono2 (by decide) | exact Nat.add_le_add_left (by decide) _ | exact leEq ‹_› ‹_› (by decide) | exact leEq ‹_› (And.right ‹_›) (by decide) | exact leLt ‹_› ‹_› (by decide) | exact leLt ‹_› (And.right ‹_›) (by decide) | exact bd0 ‹_› (by decide) | exact bd0 (And.right ‹_›) (by decide) | omega)
      rw [mulN ⟨Nat.le_trans (bitsN_le (k := 20) (by first | assumption | exact Nat.le_trans ‹_› (by decide) | exact Nat.le_trans (And.right ‹_›) (by decide) | exact mono2 (by decide) | exact Nat.add_le_add_left (by decide) _ | exact leEq ‹_› ‹_› (by decide) | exact leEq ‹_› (And.right ‹_›) (by decide) | exact leLt ‹_› ‹_› (by decide) | exact leLt ‹_› (And.right ‹_›) (by decide) | exact bd0 ‹_› (by decide) | exact bd0 (And.right ‹_›) (by decide) | omega)) (by decide), Nat.le_trans (bitsN_le (k := 20) (by first | assumption | exact Nat.le_trans ‹_› (by decide) | exact Nat.le_trans (And.right ‹_›) (by decide) | exact mono2 (by decide) | exact Nat.add_le_add_left (by decide) _ | exact leEq ‹_› ‹_› (by decide) | exact leEq ‹_› (And.right ‹_›) (by decide) | exact leLt ‹_› ‹_› (by decide) | exact leLt ‹_› (And.right ‹_›) (by decide) | exact bd0 ‹_› (by decide) | exact bd0 (And.right ‹_›) (by decide) | omega)) (by decide)⟩]; simp
    refine ExN.cons (Ex1.assign (d := partsT parts) (swapsWith_plain rfl) (.inl rfl) fun c hc hg => Ev.callF (hg ▸ G.gnd) (by rw [hc]; rfl) rfl rfl (EvL.cons rfl (Ev.name rfl rfl) (.cons rfl (Ev.name rfl rfl) (.cons rfl (Ev.name rfl rfl) .nil))) (hg ▸ law_divisors_ok (m := m) G (r'.mono (by first | assumption | exact Nat.le_trans ‹_› (by decide) | exact Nat.le_trans (And.right ‹_›) (by decide) | exact mono2 (by decide) | exact Nat.add_le_add_left (by decide) _ | exact leEq ‹_› ‹_› (by decide) | exact leEq ‹_› (And.right ‹_›) (by decide) | exact leLt ‹_› ‹_› (by decide) | exact leLt ‹_› (And.right ‹_›) (by decide) | exact bd0 ‹_› (by decide) | exact bd0 (And.right ‹_›) (by decide) | omega)) (by first | assumption | exact Nat.le_trans ‹_› (by decide) | exact Nat.le_trans (And.right ‹_›) (by decide) | exact mono2 (by decide) | exact Nat.add_le_add_left (by decide) _ | exact leEq ‹_› ‹_› (by decide) | exact leEq ‹_› (And.right ‹_›) (by decide) | exact leLt ‹_› ‹_› (by decide) | exact leLt ‹_› (And.right ‹_›) (by decide) | exact bd0 ‹_› (by decide) | exact bd0 (And.right ‹_›) (by decide) | omega) hW2 hrt H0.hparts)) ?_
    refine ExN.cons (Ex1.ite (b := false) (fun c hc hg => EvT.cmp rfl (a := partsT parts) (b := .list []) (Ev.name rfl rfl) (Ev.list .nil (Nat.zero_le _)) (.b (decide_eq_false H0.hne) (eq_pairs_nil_ok r4))) (fun h => by cases h) fun _ => Ex.nil) ?_
    exact law_s1 (m := m) G r' hgd H H2 H3 rfl rfl rfl rfl rfl rfl rfl rfl
end Mine
set_option maxRecDepth 10000
namespace Mine
open PySem PySem.Calls PySem.W

/-- sizes -/
def Bd (x : Int) (k : Nat) : Prop := x.natAbs < 2 ^ k
theorem Bd.mono {x : Int} {k m : Nat} (h : Bd x k) (hm : k ≤ m) : Bd x m := Nat.lt_of_lt_of_le h (Nat.pow_le_pow_right (by decide) hm)
theorem Bd.mul {x y : Int} {k m : Nat} (h : Bd x k) (h' : Bd y m) : Bd (x * y) (k + m) := by
  unfold Bd at *
  rw [Int.natAbs_mul, Nat.pow_add]
  exact Nat.mul_lt_mul'' h h'
theorem Bd.add {x y : Int} {k : Nat} (h : Bd x k) (h' : Bd y k) : Bd (x + y) (k + 1) := by
  unfold Bd at *
  have := Int.natAbs_add_le x y
  rw [Nat.pow_succ]; omega
theorem Bd.neg {x : Int} {k : Nat} (h : Bd x k) : Bd (-x) k := by unfold Bd at *; rw [Int.natAbs_neg]; exact h
theorem Bd.sub {x y : Int} {k : Nat} (h : Bd x k) (h' : Bd y k) : Bd (x - y) (k + 1) := by rw [Int.sub_eq_add_neg]; exact h.add h'.neg
theorem Bd.pow {x : Int} {k : Nat} (h : Bd x k) : ∀ m : Nat, Bd (x ^ m) (k * m + 1)
  | 0 => by unfold Bd; rw [Int.pow_zero]; simp
  | m + 1 => by
    rw [Int.pow_succ]
    have := (Bd.pow h m).mul h
    exact this.mono (by rw [Nat.mul_succ]; omega)
theorem Bd.bits {x : Int} {k : Nat} (h : Bd x k) : bits x ≤ k := bits_le h
theorem Bd.small {x : Int} {k : Nat} (h : x.natAbs ≤ k) : Bd x (k + 1) := Nat.lt_of_le_of_lt h (Nat.lt_of_lt_of_le (Nat.lt_two_pow_self) (Nat.pow_le_pow_right (by decide) (Nat.le_succ k)))
theorem DF.of {N : Int} {b : Nat} (hb : 0 < b) (hN : Bd N 1000) (hb2 : Bd (b : Int) 1000) : DF N b := by
  have hbb := hb2.bits
  have hpos : 0 < bits (b : Int) := by
    refine Nat.pos_of_ne_zero fun h => ?_
    have := lt_bits b
    rw [h] at this; omega
  generalize ha : (if N < 0 then (-N - 1).toNat else N.toNat) = a
  have hab : bits (a : Int) ≤ 1000 := by
    refine bits_le (Nat.lt_of_le_of_lt ?_ hN)
    rw [← ha]
    split <;> omega
  have h1 := Nat.div_mul_le_self (bits (a : Int) + bits (b : Int) - 1) (bits (b : Int))
  have h2 : cntD a (bits (b : Int)) ≤ 1000 := by
    unfold cntD
    refine Nat.le_of_lt_succ ((Nat.div_lt_iff_lt_mul hpos).mpr ?_)
    have : 1000 + bits (b : Int) ≤ 1001 * bits (b : Int) := by omega
    omega
  unfold DF
  rw [ha]
  refine ⟨hb, by omega, ?_, by omega, Nat.le_trans h2 (by decide)⟩
  unfold cntD
  rw [Nat.mul_comm]
  omega

/-- forms in two letters, by their coefficients, the lowest power of the first letter first -/
def ev (X r : Int) : List Int → Int
  | [] => 0
  | c :: cs => c * r ^ cs.length + X * ev X r cs
def zipA : List Int → List Int → List Int
  | [], b => b
  | a, [] => a
  | a :: as, b :: bs => (a + b) :: zipA as bs
def mulP : List Int → List Int → List Int
  | [], _ => []
  | [c], b => b.map (c * ·)
  | c :: c' :: cs, b => zipA (b.map (c * ·) ++ List.replicate (cs.length + 1) 0) (0 :: mulP (c' :: cs) b)
theorem ev_zeros (X r : Int) : ∀ k, ev X r (List.replicate k 0) = 0
  | 0 => rfl
  | k + 1 => by rw [List.replicate_succ]; show 0 * _ + X * ev X r _ = 0; rw [ev_zeros X r k]; simp
theorem ev_pad (X r : Int) (k : Nat) : ∀ b, ev X r (b ++ List.replicate k 0) = r ^ k * ev X r b
  | [] => by rw [List.nil_append, ev_zeros]; simp [ev]
  | c :: cs => by
    show c * r ^ (cs ++ List.replicate k 0).length + X * ev X r (cs ++ List.replicate k 0) = r ^ k * (c * r ^ cs.length + X * ev X r cs)
    rw [ev_pad X r k cs, List.length_append, List.length_replicate, Int.pow_add]
    grind
theorem ev_scale (X r c : Int) : ∀ b, ev X r (b.map (c * ·)) = c * ev X r b
  | [] => by simp [ev]
  | d :: b => by
    show (c * d) * r ^ (b.map (c * ·)).length + X * ev X r (b.map (c * ·)) = c * (d * r ^ b.length + X * ev X r b)
    rw [ev_scale X r c b, List.length_map]
    grind
theorem ev_zipA (X r : Int) : ∀ a b : List Int, a.length = b.length → ev X r (zipA a b) = ev X r a + ev X r b
  | [], [], _ => by simp [zipA, ev]
  | a :: as, b :: bs, h => by
    have h' : as.length = bs.length := by simpa using h
    have hl : ∀ as bs : List Int, as.length = bs.length → (zipA as bs).length = bs.length := by
      intro as
      induction as with
      | nil => intro bs h; simp [zipA]
      | cons a as ih =>
        intro bs h
        cases bs with
        | nil => simp at h
        | cons b bs => simp only [zipA, List.length_cons]; rw [ih bs (by simpa using h)]
    show (a + b) * r ^ (zipA as bs).length + X * ev X r (zipA as bs) = _
    rw [ev_zipA X r as bs h', hl as bs h']
    show _ = (a * r ^ as.length + X * ev X r as) + (b * r ^ bs.length + X * ev X r bs)
    rw [h']
    grind
theorem zipA_len : ∀ as bs : List Int, as.length = bs.length → (zipA as bs).length = bs.length
  | [], _, _ => by simp [zipA]
  | a :: as, [], h => by simp at h
  | a :: as, b :: bs, h => by simp only [zipA, List.length_cons]; rw [zipA_len as bs (by simpa using h)]
theorem mulP_len : ∀ (a b : List Int), a ≠ [] → b ≠ [] → (mulP a b).length + 1 = a.length + b.length
  | [], _, h, _ => absurd rfl h
  | [c], b, _, _ => by simp [mulP]; omega
  | c :: c' :: cs, b, _, hb => by
    have ih := mulP_len (c' :: cs) b (by simp) hb
    have hb1 : 0 < b.length := List.length_pos_iff.mpr hb
    have he : (b.map (c * ·) ++ List.replicate (cs.length + 1) 0).length = (0 :: mulP (c' :: cs) b).length := by
      simp only [List.length_append, List.length_map, List.length_replicate, List.length_cons] at ih ⊢
      omega
    show (zipA _ _).length + 1 = _
    rw [zipA_len _ _ he]
    simp only [List.length_cons] at ih ⊢
    omega
theorem ev_mul (X r : Int) : ∀ (a b : List Int), b ≠ [] → ev X r (mulP a b) = ev X r a * ev X r b
  | [], b, _ => by simp [mulP, ev]
  | [c], b, _ => by
    show ev X r (b.map (c * ·)) = (c * r ^ 0 + X * 0) * ev X r b
    rw [ev_scale]; simp
  | c :: c' :: cs, b, hb => by
    have ih := ev_mul X r (c' :: cs) b hb
    have hl := mulP_len (c' :: cs) b (by simp) hb
    have he : (b.map (c * ·) ++ List.replicate (cs.length + 1) 0).length = (0 :: mulP (c' :: cs) b).length := by
      simp only [List.length_append, List.length_map, List.length_replicate, List.length_cons] at hl ⊢
      omega
    show ev X r (zipA _ _) = (c * r ^ (c' :: cs).length + X * ev X r (c' :: cs)) * ev X r b
    rw [ev_zipA X r _ _ he, ev_pad, ev_scale]
    show _ + (0 * r ^ (mulP (c' :: cs) b).length + X * ev X r (mulP (c' :: cs) b)) = _
    rw [ih, List.length_cons]
    grind
theorem ev_bd {X r : Int} (hX : Bd X 123) (hr : Bd r 20) : ∀ cs : List Int, (∀ c ∈ cs, c.natAbs ≤ 2) → Bd (ev X r cs) (130 * cs.length + 3)
  | [], _ => by show (0 : Int).natAbs < 2 ^ _; simp
  | c :: cs, h => by
    have ih := ev_bd hX hr cs fun d hd => h d (.tail _ hd)
    have h1 := (Bd.small (h c (.head _))).mul (hr.pow cs.length)
    have h2 := hX.mul ih
    exact ((h1.mono (m := 130 * cs.length + 126) (by omega)).add (h2.mono (m := 130 * cs.length + 126) (by omega))).mono (by rw [List.length_cons]; omega)

/-- the chosen ones' product -/
def pickL (tk : Int) (ps : List (List Int)) : List Nat → List Int → List Int
  | [], acc => acc
  | k :: ks, acc => if (((tk.fdiv (2 ^ k)).fmod 2) == 1) = true then pickL tk ps ks (mulP acc (ps.getD k [])) else pickL tk ps ks acc
theorem pick_of {X r : Int} {tk : Int} {ps : List (List Int)} {gN dg : Nat} (hX : Bd X 123) (hr : Bd r 20) (hps : ∀ p ∈ ps, p ≠ [] ∧ p.length ≤ 4 ∧ ∀ c ∈ p, c.natAbs ≤ 2) (D0 : Nat) :
    ∀ (ks : List Nat) (acc : List Int) (D : Int), (∀ k ∈ ks, k < ps.length) → acc ≠ [] → D = ev X r acc → Bd D (700 * (D0 - ks.length) + 10) → ks.length ≤ D0 → D0 ≤ 4 → ((pickL tk ps ks acc).length : Int) - 1 = dg → ev X r (pickL tk ps ks acc) = gN →
      pickP tk (ps.map fun p => (ev X r p, (p.length : Int) - 1)) gN dg ks D ((acc.length : Int) - 1)
  | [], acc, D, _, _, hD, _, _, _, h1, h2 => by subst hD; exact ⟨h2, h1⟩
  | k :: ks, acc, D, hk, ha, hD, hb, hl, hD0, h1, h2 => by
    have hkp := hk k (.head _)
    have hp := hps _ (List.getElem_mem hkp)
    have eg : ps.getD k [] = ps[k] := by simp [List.getD, List.getElem?_eq_getElem hkp]
    simp only [List.length_cons] at hb hl
    unfold pickP
    unfold pickL at h1 h2
    split
    · rename_i hc
      rw [if_pos hc] at h1 h2
      rw [eg] at h1 h2
      have hbp := ev_bd hX hr ps[k] hp.2.2
      have hlp := hp.2.1
      have hbp' : Bd (ev X r ps[k]) 523 := hbp.mono (by omega)
      refine ⟨(ev X r ps[k], (ps[k].length : Int) - 1), by rw [List.getElem?_map, List.getElem?_eq_getElem hkp]; rfl, Nat.le_trans hb.bits (by omega), Nat.le_trans hbp'.bits (by omega), ?_⟩
      have hm := mulP_len acc ps[k] ha hp.1
      have e : ((mulP acc ps[k]).length : Int) - 1 = ((acc.length : Int) - 1) + ((ps[k].length : Int) - 1) := by omega
      show pickP tk _ gN dg ks (D * ev X r ps[k]) (((acc.length : Int) - 1) + ((ps[k].length : Int) - 1))
      rw [← e]
      have hne : mulP acc ps[k] ≠ [] := fun h => by
        rw [h] at hm
        have : 0 < acc.length := List.length_pos_iff.mpr ha
        have : 0 < ps[k].length := List.length_pos_iff.mpr hp.1
        simp at hm; omega
      exact pick_of hX hr hps D0 ks _ _ (fun j hj => hk j (.tail _ hj)) hne (by rw [ev_mul X r _ _ hp.1, hD]) ((hb.mul hbp').mono (by omega)) (by omega) hD0 h1 h2
    · rename_i hc
      rw [if_neg hc] at h1 h2
      exact pick_of hX hr hps D0 ks acc D (fun j hj => hk j (.tail _ hj)) ha hD (hb.mono (by omega)) (by omega) hD0 h1 h2
theorem pick_pos {X r : Int} {tk : Int} {ps : List (List Int)} (hps : ∀ p ∈ ps, p ≠ [] ∧ 0 < ev X r p) : ∀ (ks : List Nat) (acc : List Int), (∀ k ∈ ks, k < ps.length) → 0 < ev X r acc → 0 < ev X r (pickL tk ps ks acc)
  | [], acc, _, h => h
  | k :: ks, acc, hk, h => by
    have hkp := hk k (.head _)
    have hp := hps _ (List.getElem_mem hkp)
    have eg : ps.getD k [] = ps[k] := by simp [List.getD, List.getElem?_eq_getElem hkp]
    unfold pickL
    split
    · rw [eg]
      exact pick_pos hps ks _ (fun j hj => hk j (.tail _ hj)) (by rw [ev_mul X r _ _ hp.1]; exact Int.mul_pos h hp.2)
    · exact pick_pos hps ks _ (fun j hj => hk j (.tail _ hj)) h
end Mine
set_option maxRecDepth 10000
namespace Mine
open PySem PySem.Calls PySem.W

def homL : List Int → Int → List Int
  | [], _ => []
  | c :: cs, r => c * r ^ cs.length :: homL cs r
theorem homL_len (r : Int) : ∀ cs, (homL cs r).length = cs.length
  | [] => rfl
  | c :: cs => by simp [homL, homL_len r cs]
theorem dval_homL (W : Nat) (r : Int) : ∀ cs, dval W (homL cs r) = ev (2 ^ W) r cs
  | [] => rfl
  | c :: cs => by show c * r ^ cs.length + 2 ^ W * dval W (homL cs r) = _; rw [dval_homL W r cs]; rfl
theorem homL_mem (r : Int) : ∀ cs, ∀ e ∈ homL cs r, ∃ c ∈ cs, ∃ j, j < cs.length ∧ e = c * r ^ j
  | [], e, h => by simp [homL] at h
  | c :: cs, e, h => by
    rcases List.mem_cons.mp h with rfl | h
    · exact ⟨c, .head _, cs.length, by simp, rfl⟩
    · obtain ⟨c', hc, j, hj, he⟩ := homL_mem r cs e h
      exact ⟨c', .tail _ hc, j, by simp; omega, he⟩
theorem homL_last (r : Int) : ∀ cs c, cs.getLast? = some c → (homL cs r).getLast? = some c
  | [], c, h => by simp at h
  | [d], c, h => by simp at h; subst h; simp [homL]
  | d :: d' :: cs, c, h => by
    have ih := homL_last r (d' :: cs) c (by simpa [List.getLast?_cons_cons] using h)
    show (d * r ^ (d' :: cs).length :: homL (d' :: cs) r).getLast? = _
    have : ∃ x l, homL (d' :: cs) r = x :: l := ⟨_, _, rfl⟩
    obtain ⟨x, l, e⟩ := this
    rw [e] at ih ⊢
    rw [List.getLast?_cons_cons]; exact ih
theorem dig_dval (n : Nat) : ∀ l : List Int, (∀ x ∈ l, 0 ≤ x ∧ x < 2 ^ n) → dig n (dval n l).toNat l.length = l
  | [], _ => rfl
  | x :: l, h => by
    have ih := dig_dval n l fun y hy => h y (.tail _ hy)
    obtain ⟨hx0, hx1⟩ := h x (.head _)
    have hd := (dval_nonneg (n := n) fun y hy => h y (.tail _ hy : y ∈ x :: l)).1
    obtain ⟨a, ha⟩ := Int.eq_ofNat_of_zero_le hx0
    obtain ⟨t, ht⟩ := Int.eq_ofNat_of_zero_le hd
    have e : (dval n (x :: l)).toNat = a + 2 ^ n * t := by
      show (x + 2 ^ n * dval n l).toNat = _
      rw [ha, ht]
      have : ((a : Int) + 2 ^ n * (t : Int)) = ((a + 2 ^ n * t : Nat) : Int) := by simp
      rw [this]; rfl
    have hlt : a < 2 ^ n := by
      rw [ha] at hx1
      have : ((a : Nat) : Int) < ((2 ^ n : Nat) : Int) := by simpa using hx1
      exact Int.ofNat_lt.mp this
    rw [e]
    show (((a + 2 ^ n * t) % 2 ^ n : Nat) : Int) :: dig n ((a + 2 ^ n * t) / 2 ^ n) l.length = _
    rw [Nat.add_mul_mod_self_left, Nat.mod_eq_of_lt hlt, Nat.add_mul_div_left _ _ (Nat.two_pow_pos n), Nat.div_eq_of_lt hlt, Nat.zero_add]
    have e2 : t = (dval n l).toNat := by rw [ht]; rfl
    rw [e2, ih, ha]
theorem sum_scale (h : Int) (W : Nat) : ∀ ks : List Nat, (ks.map fun k => h * 2 ^ (W * (k + 1))).sum = 2 ^ W * (ks.map fun k => h * 2 ^ (W * k)).sum
  | [] => by simp
  | k :: ks => by
    simp only [List.map_cons, List.sum_cons]
    rw [sum_scale h W ks, Nat.mul_add, Nat.mul_one, Int.pow_add]
    grind
theorem dval_lift (W : Nat) (h : Int) : ∀ l : List Int, dval W (l.map (· + h)) = dval W l + ((List.range l.length).map fun k => h * 2 ^ (W * k)).sum
  | [] => by simp [dval]
  | x :: l => by
    show (x + h) + 2 ^ W * dval W (l.map (· + h)) = (x + 2 ^ W * dval W l) + _
    rw [dval_lift W h l, List.length_cons, List.range_succ_eq_map, List.map_cons, List.sum_cons, List.map_map]
    have := sum_scale h W (List.range l.length)
    have e : ((fun k => h * 2 ^ (W * k)) ∘ Nat.succ) = fun k => h * 2 ^ (W * (k + 1)) := rfl
    rw [e, this]
    simp only [Nat.mul_zero, Int.pow_zero, Int.mul_one]
    grind
theorem cntD_eq {a W m : Nat} (hW : 0 < W) (h1 : 2 ^ (W * m) ≤ a) (h2 : a < 2 ^ (W * (m + 1))) : cntD a W = m + 1 := by
  have b1 : bits (a : Int) ≤ W * (m + 1) := bitsN_le h2
  have b2 : W * m < bits (a : Int) := by
    refine Nat.lt_of_not_le fun h => ?_
    have := lt_bits a
    have h3 : 2 ^ bits (a : Int) ≤ 2 ^ (W * m) := Nat.pow_le_pow_right (by decide) h
    omega
  unfold cntD
  rw [Nat.div_eq_iff hW]
  rw [Nat.mul_add, Nat.mul_one] at *
  rw [Nat.add_mul, Nat.one_mul, Nat.mul_comm m W]
  omega

theorem fmod_pow (M : Int) (r : Int) : ∀ j : Nat, (r ^ j) % M = ((r % M) ^ j) % M
  | 0 => by simp
  | j + 1 => by rw [Int.pow_succ, Int.pow_succ, Int.mul_emod, fmod_pow M r j, ← Int.mul_emod, Int.mul_emod ((r % M) ^ j) r M, Int.mul_emod ((r % M) ^ j) (r % M) M, Int.emod_emod]
def rowN (cs : List Int) (M : Nat) (r : Int) : List Nat := (homL cs r).map fun e => (e.fmod M).toNat
theorem rowN_mod (M : Nat) (r : Int) : ∀ cs, rowN cs M r = rowN cs M (r % M)
  | [] => rfl
  | c :: cs => by
    have ih := rowN_mod M r cs
    unfold rowN at *
    simp only [homL, List.map_cons]
    rw [ih]
    congr 2
    rw [Int.fmod_eq_emod_of_nonneg _ (by omega), Int.fmod_eq_emod_of_nonneg _ (by omega), Int.mul_emod, fmod_pow, ← Int.mul_emod]

theorem pow_half {r : Int} {n L j : Nat} (hr : r.natAbs < 2 ^ L) (hn : 1 ≤ n) (hL : 1 ≤ L) (hj : j ≤ n) : (r ^ j).natAbs < 2 ^ (n * L) := by
  rw [Int.natAbs_pow]
  rcases Nat.eq_zero_or_pos j with h | h
  · subst h
    rw [Nat.pow_zero]
    exact Nat.one_lt_two_pow (by have := Nat.mul_pos hn hL; omega)
  · refine Nat.lt_of_lt_of_le (Nat.pow_lt_pow_left hr (by omega)) ?_
    rw [← Nat.pow_mul, Nat.mul_comm n L]
    exact Nat.pow_le_pow_right (by decide) (Nat.mul_le_mul_left L hj)

theorem rowIs_of {cs : List Int} {r : Int} {W L n M dg : Nat} (hW : W = n * L + 2) (hr : r.natAbs < 2 ^ L) (hL : 1 ≤ L) (hn : 1 ≤ n) (hM : 1 ≤ M) (hlen : cs.length = dg + 1) (hdg : dg ≤ n) (hd20 : dg ≤ 20) (hc : ∀ c ∈ cs, c.natAbs ≤ 2) (hlast : cs.getLast? = some 1) :
    RowIs (ev (2 ^ W) r cs) dg W M (rowN cs M r) := by
  have hWp : 0 < W := by omega
  have hhalf : (2 : Int) ^ (W - 1) = ((2 * 2 ^ (n * L) : Nat) : Int) := by
    have e : W - 1 = n * L + 1 := by omega
    rw [e, Int.pow_succ]; simp [Int.mul_comm]
  have hfull : (2 : Int) ^ W = ((2 * (2 * 2 ^ (n * L)) : Nat) : Int) := by
    rw [hW, show n * L + 2 = (n * L + 1) + 1 by omega, Int.pow_succ, Int.pow_succ]; simp; omega
  have hb : ∀ e ∈ homL cs r, (e + 2 ^ (W - 1) : Int) ≥ 0 ∧ e + 2 ^ (W - 1) < (2 : Int) ^ W := fun e he => by
    obtain ⟨c, hcm, j, hj, rfl⟩ := homL_mem r cs e he
    have h1 := pow_half hr hn hL (show j ≤ n by omega)
    have h2 := hc c hcm
    have h3 : (c * r ^ j).natAbs ≤ 2 * (r ^ j).natAbs := by rw [Int.natAbs_mul]; exact Nat.mul_le_mul_right _ h2
    rw [hhalf, hfull]
    generalize 2 ^ (n * L) = K at *
    omega
  let D := (homL cs r).map (· + (2 : Int) ^ (W - 1))
  have hD : ∀ x ∈ D, 0 ≤ x ∧ x < 2 ^ W := fun x hx => by
    obtain ⟨e, he, rfl⟩ := List.mem_map.mp hx
    exact hb e he
  have hDl : D.length = dg + 1 := by show ((homL cs r).map _).length = _; rw [List.length_map, homL_len, hlen]
  have hnn := dval_nonneg hD
  have hcast : (((dval W D).toNat : Nat) : Int) = dval W D := Int.toNat_of_nonneg hnn.1
  have htop : 2 ^ (W * dg) ≤ (dval W D).toNat := by
    have hl := homL_last r cs 1 hlast
    obtain ⟨ini, hi⟩ : ∃ ini, homL cs r = ini ++ [1] := by
      rw [List.getLast?_eq_some_iff] at hl
      exact hl
    have hil : ini.length = dg := by
      have := congrArg List.length hi
      rw [homL_len, hlen, List.length_append] at this
      simp at this; omega
    have e : D = ini.map (· + (2 : Int) ^ (W - 1)) ++ [1 + (2 : Int) ^ (W - 1)] := by show (homL cs r).map _ = _; rw [hi]; simp
    have hini : 0 ≤ dval W (ini.map (· + (2 : Int) ^ (W - 1))) := (dval_nonneg (n := W) fun x hx => hD x (by rw [e]; exact List.mem_append_left _ hx)).1
    have e2 : dval W D = dval W (ini.map (· + (2 : Int) ^ (W - 1))) + 2 ^ (W * dg) * (1 + (2 : Int) ^ (W - 1)) := by
      rw [e, dval_append, List.length_map, hil]
      simp [dval]
    have h5 : ((2 ^ (W * dg) : Nat) : Int) ≤ dval W D := by
      rw [e2]
      have h6 : (0 : Int) ≤ 2 ^ (W - 1) := by rw [hhalf]; omega
      have h7 : (0 : Int) ≤ 2 ^ (W * dg) := Int.le_of_lt (Int.pow_pos (by decide))
      have h8 := Int.mul_nonneg h7 h6
      rw [Int.mul_add, Int.mul_one]
      have h9 : ((2 ^ (W * dg) : Nat) : Int) = (2 : Int) ^ (W * dg) := by simp
      rw [h9]; omega
    rw [← hcast] at h5
    exact Int.ofNat_le.mp h5
  have hlt : (dval W D).toNat < 2 ^ (W * (dg + 1)) := by
    have h5 := hnn.2
    rw [hDl, ← hcast] at h5
    have : (((dval W D).toNat : Nat) : Int) < ((2 ^ (W * (dg + 1)) : Nat) : Int) := by simpa using h5
    exact Int.ofNat_lt.mp this
  have hcnt := cntD_eq hWp htop hlt
  refine ⟨(dval W D).toNat, ?_, by rw [hcnt]; omega, ?_⟩
  · rw [hcast]
    show _ = dval W ((homL cs r).map (· + (2 : Int) ^ (W - 1)))
    rw [dval_lift, dval_homL, homL_len, hlen]
  · unfold rowOf
    rw [hcnt, ← hDl, dig_dval W D hD]
    show ((homL cs r).map (· + (2 : Int) ^ (W - 1))).map _ = _
    unfold castL rowN
    rw [List.map_map, List.map_map]
    refine List.map_congr_left fun e _ => ?_
    show (e + (2 : Int) ^ (W - 1) - 2 ^ (W - 1)).fmod M = (((e.fmod M).toNat : Nat) : Int)
    rw [Int.toNat_of_nonneg (Int.fmod_nonneg_of_pos _ (by omega))]
    congr 1
    omega
end Mine
set_option maxRecDepth 10000
namespace Mine
open PySem PySem.Calls PySem.W

def psOf : Nat → List (List Int)
  | 2 => [[-1, 1], [1, 1]]
  | 3 => [[-1, 1], [1, 1, 1]]
  | 4 => [[-1, 1], [1, 1], [1, 0, 1]]
  | 6 => [[-1, 1], [1, 1], [1, 1, 1], [1, -1, 1]]
  | _ => []
def topL (k : Nat) : List Int := -1 :: (List.replicate k 0 ++ [1])
theorem ev_mono (X r : Int) : ∀ k, ev X r (List.replicate k 0 ++ [1]) = X ^ k
  | 0 => by simp [ev]
  | k + 1 => by
    rw [List.replicate_succ, List.cons_append]
    show 0 * _ + X * ev X r _ = _
    rw [ev_mono X r k, Int.pow_succ, Int.zero_mul, Int.zero_add, Int.mul_comm]
theorem ev_top (X r : Int) (k : Nat) : ev X r (topL k) = X ^ (k + 1) - r ^ (k + 1) := by
  show -1 * r ^ (List.replicate k (0 : Int) ++ [1]).length + X * ev X r (List.replicate k 0 ++ [1]) = _
  rw [ev_mono, List.length_append, List.length_replicate, List.length_singleton, Int.pow_succ X k]
  grind
theorem top_num (W : Nat) (r : Int) (k : Nat) : (2 : Int) ^ (W * (k + 1)) - r ^ (k + 1) = ev (2 ^ W) r (topL k) := by
  rw [ev_top, Int.pow_mul]
theorem sq_nn (r : Int) : 0 ≤ r * r := by
  rcases Int.le_total 0 r with h | h
  · exact Int.mul_nonneg h h
  · exact Int.mul_nonneg_of_nonpos_of_nonpos h h
theorem ps_pos {X r : Int} (h : (r.natAbs : Int) < X) : ∀ n, ∀ p ∈ psOf n, p ≠ [] ∧ 0 < ev X r p := by
  have h1 : 0 < X - r := by omega
  have h2 : 0 < X + r := by omega
  have hX : 0 < X := by omega
  have e1 : 0 < ev X r [-1, 1] := by have : ev X r [-1, 1] = X - r := by (simp [ev]; grind)
                                     rw [this]; exact h1
  have e2 : 0 < ev X r [1, 1] := by have : ev X r [1, 1] = X + r := by (simp [ev]; grind)
                                    rw [this]; exact h2
  have e3 : 0 < ev X r [1, 1, 1] := by
    have : ev X r [1, 1, 1] = X * (X + r) + r * r := by (simp [ev]; grind)
    rw [this]; have := Int.mul_pos hX h2; have := sq_nn r; omega
  have e4 : 0 < ev X r [1, 0, 1] := by
    have : ev X r [1, 0, 1] = X * X + r * r := by (simp [ev]; grind)
    rw [this]; have := Int.mul_pos hX hX; have := sq_nn r; omega
  have e5 : 0 < ev X r [1, -1, 1] := by
    have : ev X r [1, -1, 1] = X * (X - r) + r * r := by (simp [ev]; grind)
    rw [this]; have := Int.mul_pos hX h1; have := sq_nn r; omega
  intro n p hp
  unfold psOf at hp
  split at hp <;> simp only [List.mem_cons, List.not_mem_nil, or_false] at hp
  · rcases hp with rfl | rfl <;> exact ⟨by simp, by assumption⟩
  · rcases hp with rfl | rfl <;> exact ⟨by simp, by assumption⟩
  · rcases hp with rfl | rfl | rfl <;> exact ⟨by simp, by assumption⟩
  · rcases hp with rfl | rfl | rfl | rfl <;> exact ⟨by simp, by assumption⟩

section
variable {o : Int} {nums degs : List (Int × Int)} {K : Int → Int → Prop} {l : Int} {ls : List Int} {N D : Int} {X r : Int}
theorem innerP_skip (h : (decide (l < o) && (o.fmod l == 0)) = false) (k : innerP o nums degs K ls N D) : innerP o nums degs K (l :: ls) N D := by
  unfold innerP
  rw [if_neg (by rw [h]; exact Bool.false_ne_true)]
  exact k
def small2 (c : List Int) : Bool := c.all (fun x => decide (x.natAbs ≤ 2)) && decide (c.length ≤ 7)
theorem small2_bd {c : List Int} (hX : Bd X 123) (hr : Bd r 20) (h : small2 c = true) : Bd (ev X r c) 1000 := by
  unfold small2 at h
  simp only [Bool.and_eq_true, List.all_eq_true, decide_eq_true_eq] at h
  exact (ev_bd hX hr c h.1).mono (by have := h.2; omega)
theorem innerP_div (a b c : List Int) {e : Int} (hX : Bd X 123) (hr : Bd r 20) (h : (decide (l < o) && (o.fmod l == 0)) = true) (hv : iat nums l = some (ev X r b)) (he : iat degs l = some e) (hp : 0 < ev X r b) (hm : mulP a b = c) (hb : b ≠ []) (hc : small2 c = true) (hbs : small2 b = true)
    (k : innerP o nums degs K ls (ev X r a) (D - e)) : innerP o nums degs K (l :: ls) (ev X r c) D := by
  unfold innerP
  rw [if_pos h]
  have ec : (((ev X r b).toNat : Nat) : Int) = ev X r b := Int.toNat_of_nonneg (Int.le_of_lt hp)
  have em : ev X r c = ev X r a * ev X r b := by rw [← hm, ev_mul X r a b hb]
  refine ⟨(ev X r b).toNat, e, by rw [ec]; exact hv, he, DF.of (by omega) (small2_bd hX hr hc) (by rw [ec]; exact small2_bd hX hr hbs), ?_, ?_⟩
  · rw [ec, em]; exact Int.mul_emod_left _ _
  · rw [ec, em, Int.mul_ediv_cancel _ (by omega)]; exact k
end
theorem outerP_step {ords : List Int} {root : Int} {W : Nat} {K : List (Int × Int) → List (Int × Int) → Prop} {os : List Int} {nums degs : List (Int × Int)} (k : Nat) (h : innerP ((k : Int) + 1) nums degs (fun N D => outerP ords root W K os (iput nums ((k : Int) + 1) N) (iput degs ((k : Int) + 1) D)) ords (ev (2 ^ W) root (topL k)) ((k : Int) + 1)) :
    outerP ords root W K (((k : Int) + 1) :: os) nums degs := by
  unfold outerP
  have e : ((k : Int) + 1).toNat = k + 1 := by omega
  rw [e, top_num]
  exact h
def partsL (n : Nat) (X r : Int) : List (Int × Int) := (psOf n).map fun p => (ev X r p, (p.length : Int) - 1)
abbrev PartsOk (n : Nat) (root : Int) (W : Nat) : Prop := outerP (ordsOf n) root W (fun nums degs => (ordsOf n).map (fun o => (iat nums o, iat degs o)) = (partsL n (2 ^ W) root).map fun p => (some p.1, some p.2)) (ordsOf n) [] []
section
variable {root : Int} {W : Nat} (hX : Bd ((2 : Int) ^ W) 123) (hr : Bd root 20) (h : (root.natAbs : Int) < 2 ^ W)
include hX hr h
theorem parts2 : PartsOk 2 root W := by
  have e : ordsOf 2 = [((0 : Nat) : Int) + 1, ((1 : Nat) : Int) + 1] := by decide
  have p1 := (ps_pos h 2 [-1, 1] (by decide)).2
  unfold PartsOk
  rw [e]
  refine outerP_step 0 (innerP_skip rfl (innerP_skip rfl ?_))
  refine outerP_step 1 (innerP_div [1, 1] [-1, 1] (topL 1) hX hr rfl rfl rfl p1 rfl (by simp) rfl rfl (innerP_skip rfl ?_))
  rfl
theorem parts3 : PartsOk 3 root W := by
  have e : ordsOf 3 = [((0 : Nat) : Int) + 1, ((2 : Nat) : Int) + 1] := by decide
  have p1 := (ps_pos h 2 [-1, 1] (by decide)).2
  unfold PartsOk
  rw [e]
  refine outerP_step 0 (innerP_skip rfl (innerP_skip rfl ?_))
  refine outerP_step 2 (innerP_div [1, 1, 1] [-1, 1] (topL 2) hX hr rfl rfl rfl p1 rfl (by simp) rfl rfl (innerP_skip rfl ?_))
  rfl
theorem parts4 : PartsOk 4 root W := by
  have e : ordsOf 4 = [((0 : Nat) : Int) + 1, ((1 : Nat) : Int) + 1, ((3 : Nat) : Int) + 1] := by decide
  have p1 := (ps_pos h 4 [-1, 1] (by decide)).2
  have p2 := (ps_pos h 4 [1, 1] (by decide)).2
  unfold PartsOk
  rw [e]
  refine outerP_step 0 (innerP_skip rfl (innerP_skip rfl (innerP_skip rfl ?_)))
  refine outerP_step 1 (innerP_div [1, 1] [-1, 1] (topL 1) hX hr rfl rfl rfl p1 rfl (by simp) rfl rfl (innerP_skip rfl (innerP_skip rfl ?_)))
  refine outerP_step 3 (innerP_div [1, 1, 1, 1] [-1, 1] (topL 3) hX hr rfl rfl rfl p1 rfl (by simp) rfl rfl (innerP_div [1, 0, 1] [1, 1] [1, 1, 1, 1] hX hr rfl rfl rfl p2 rfl (by simp) rfl rfl (innerP_skip rfl ?_)))
  rfl
theorem parts6 : PartsOk 6 root W := by
  have e : ordsOf 6 = [((0 : Nat) : Int) + 1, ((1 : Nat) : Int) + 1, ((2 : Nat) : Int) + 1, ((5 : Nat) : Int) + 1] := by decide
  have p1 := (ps_pos h 6 [-1, 1] (by decide)).2
  have p2 := (ps_pos h 6 [1, 1] (by decide)).2
  have p3 := (ps_pos h 6 [1, 1, 1] (by decide)).2
  unfold PartsOk
  rw [e]
  refine outerP_step 0 (innerP_skip rfl (innerP_skip rfl (innerP_skip rfl (innerP_skip rfl ?_))))
  refine outerP_step 1 (innerP_div [1, 1] [-1, 1] (topL 1) hX hr rfl rfl rfl p1 rfl (by simp) rfl rfl (innerP_skip rfl (innerP_skip rfl (innerP_skip rfl ?_))))
  refine outerP_step 2 (innerP_div [1, 1, 1] [-1, 1] (topL 2) hX hr rfl rfl rfl p1 rfl (by simp) rfl rfl (innerP_skip rfl (innerP_skip rfl (innerP_skip rfl ?_))))
  refine outerP_step 5 (innerP_div [1, 1, 1, 1, 1, 1] [-1, 1] (topL 5) hX hr rfl rfl rfl p1 rfl (by simp) rfl rfl (innerP_div [1, 0, 1, 0, 1] [1, 1] [1, 1, 1, 1, 1, 1] hX hr rfl rfl rfl p2 rfl (by simp) rfl rfl
    (innerP_div [1, -1, 1] [1, 1, 1] [1, 0, 1, 0, 1] hX hr rfl rfl rfl p3 rfl (by simp) rfl rfl (innerP_skip rfl ?_))))
  rfl
end
end Mine
set_option maxRecDepth 10000
namespace Mine
open PySem PySem.Calls PySem.W

/-- forms that are of the first degree in each of n letters, by their coefficients -/
def evM : List Int → List Int → Int
  | m, [] => m.headD 0
  | m, p :: ps => evM (m.take (2 ^ ps.length)) ps + p * evM (m.drop (2 ^ ps.length)) ps
theorem evM_scale (c : Int) : ∀ (ps m : List Int), evM (m.map (c * ·)) ps = c * evM m ps
  | [], m => by cases m <;> simp [evM]
  | p :: ps, m => by
    simp only [evM, ← List.map_take, ← List.map_drop]
    rw [evM_scale c ps, evM_scale c ps]
    grind
theorem evM_lin {f : Int → Int → Int} {u v : Int} (hf : ∀ x y, f x y = u * x + v * y) : ∀ (ps m m' : List Int), m.length = 2 ^ ps.length → m'.length = 2 ^ ps.length → evM (List.zipWith f m m') ps = u * evM m ps + v * evM m' ps
  | [], m, m', h, h' => by
    match m, m', h, h' with
    | [a], [b], _, _ => exact hf a b
  | p :: ps, m, m', h, h' => by
    rw [List.length_cons, Nat.pow_succ] at h h'
    simp only [evM, List.take_zipWith, List.drop_zipWith]
    rw [evM_lin hf ps _ _ (by rw [List.length_take]; omega) (by rw [List.length_take]; omega), evM_lin hf ps _ _ (by rw [List.length_drop]; omega) (by rw [List.length_drop]; omega)]
    grind
theorem evM_app {a b : List Int} {p : Int} {ps : List Int} (h : a.length = 2 ^ ps.length) : evM (a ++ b) (p :: ps) = evM a ps + p * evM b ps := by
  show evM ((a ++ b).take (2 ^ ps.length)) ps + p * evM ((a ++ b).drop (2 ^ ps.length)) ps = _
  rw [List.take_left' h, List.drop_left' h]
/-- the words that open with 0, and the others, each without its first figure -/
def spZ : List (List Nat) → List (List Nat)
  | [] => []
  | w :: ws => bif Nat.beq (w.headD 0) 0 then w.tail :: spZ ws else spZ ws
def spN : List (List Nat) → List (List Nat)
  | [] => []
  | w :: ws => bif Nat.beq (w.headD 0) 0 then spN ws else w.tail :: spN ws
/-- the coefficients of the two sums of products -/
def fwW (c : Int) : Nat → List (List Nat) → List Int
  | 0, ws => [(ws.length : Int)]
  | n + 1, ws => List.zipWith (fun x y => x + y) (fwW c n (spZ ws)) (fwW c n (spN ws)) ++ List.zipWith (fun x y => c * x - y) (fwW c n (spZ ws)) (fwW c n (spN ws))
def fwT : Nat → List (List Nat) → List Int
  | 0, ws => [(ws.length : Int)]
  | n + 1, ws => fwT n (spZ ws) ++ fwT n (spN ws)
theorem fwW_len (c : Int) : ∀ n ws, (fwW c n ws).length = 2 ^ n
  | 0, _ => rfl
  | n + 1, ws => by
    show (_ ++ _ : List Int).length = _
    rw [List.length_append, List.length_zipWith, List.length_zipWith, fwW_len c n, fwW_len c n, Nat.min_self, Nat.pow_succ, Nat.mul_two]
theorem fwT_len : ∀ n ws, (fwT n ws).length = 2 ^ n
  | 0, _ => rfl
  | n + 1, ws => by
    show (_ ++ _ : List Int).length = _
    rw [List.length_append, fwT_len n, fwT_len n, Nat.pow_succ, Nat.mul_two]

def prodR : List Nat → List Int → List Int → Int
  | f :: w, o :: os, t :: ts => (if f = 0 then o else t) * prodR w os ts
  | _, _, _ => 1
theorem prodN_go : ∀ (w : List Nat) (os ts : List Int) (c : Int), w.length = os.length → w.length = ts.length → (List.range w.length).foldl (fun x k => x * facN w os ts k) c = c * prodR w os ts
  | [], os, ts, c, _, _ => by simp [prodR]
  | f :: w, o :: os, t :: ts, c, h1, h2 => by
    rw [List.length_cons, List.range_succ_eq_map, List.foldl_cons, List.foldl_map]
    have e : (fun (x : Int) (k : Nat) => x * facN (f :: w) (o :: os) (t :: ts) k.succ) = fun x k => x * facN w os ts k := rfl
    rw [e, prodN_go w os ts _ (by simpa using h1) (by simpa using h2)]
    show c * facN (f :: w) (o :: os) (t :: ts) 0 * prodR w os ts = c * ((if f = 0 then o else t) * prodR w os ts)
    have : facN (f :: w) (o :: os) (t :: ts) 0 = if f = 0 then o else t := rfl
    rw [this, Int.mul_assoc]
  | _ :: _, [], _, _, h1, _ => by simp at h1
  | _ :: _, _ :: _, [], _, _, h2 => by simp at h2
theorem prodN_eq {w : List Nat} {os ts : List Int} (h1 : w.length = os.length) (h2 : w.length = ts.length) : prodN w os ts = prodR w os ts := by
  unfold prodN; rw [prodN_go w os ts 1 h1 h2, Int.one_mul]
theorem foldl_sum {α : Type} (f : α → Int) : ∀ (l : List α) (c : Int), l.foldl (fun x a => x + f a) c = c + (l.map f).sum
  | [], c => by simp
  | a :: l, c => by simp only [List.foldl_cons, List.map_cons, List.sum_cons]; rw [foldl_sum f l]; omega
def sumR (ws : List (List Nat)) (os ts : List Int) : Int := (ws.map fun w => prodR w os ts).sum
theorem sumR_split (o t : Int) (os ts : List Int) {n : Nat} : ∀ ws, (∀ w ∈ ws, w.length = n + 1) → sumR ws (o :: os) (t :: ts) = o * sumR (spZ ws) os ts + t * sumR (spN ws) os ts ∧ (∀ w ∈ spZ ws, w.length = n) ∧ ∀ w ∈ spN ws, w.length = n := by
  intro ws
  induction ws with
  | nil => intro _; exact ⟨by simp [sumR, spZ, spN], List.forall_mem_nil _, List.forall_mem_nil _⟩
  | cons w ws ih =>
    intro h
    obtain ⟨i1, i2, i3⟩ := ih fun x hx => h x (.tail _ hx)
    cases w with
    | nil => exact absurd (h _ (.head _)) (fun e => nomatch e)
    | cons f w =>
      have hl : w.length = n := Nat.succ.inj (h _ (.head _))
      have e : sumR ((f :: w) :: ws) (o :: os) (t :: ts) = (if f = 0 then o else t) * prodR w os ts + sumR ws (o :: os) (t :: ts) := rfl
      rw [e, i1]
      cases f with
      | zero =>
        refine ⟨?_, fun x hx => (List.mem_cons.mp hx).elim (fun e => e ▸ hl) (i2 x), i3⟩
        show o * prodR w os ts + (o * sumR (spZ ws) os ts + t * sumR (spN ws) os ts) = o * (prodR w os ts + sumR (spZ ws) os ts) + t * sumR (spN ws) os ts
        rw [Int.mul_add, Int.add_assoc]
      | succ f =>
        refine ⟨?_, i2, fun x hx => (List.mem_cons.mp hx).elim (fun e => e ▸ hl) (i3 x)⟩
        show t * prodR w os ts + (o * sumR (spZ ws) os ts + t * sumR (spN ws) os ts) = o * sumR (spZ ws) os ts + t * (prodR w os ts + sumR (spN ws) os ts)
        rw [Int.mul_add, Int.add_left_comm]
theorem sumR_nil : ∀ ws : List (List Nat), (∀ w ∈ ws, w.length = 0) → sumR ws [] [] = ws.length
  | [], _ => rfl
  | w :: ws, h => by
    have ih := sumR_nil ws fun x hx => h x (.tail _ hx)
    have e : sumR (w :: ws) [] [] = prodR w [] [] + sumR ws [] [] := rfl
    have ew := List.eq_nil_of_length_eq_zero (h w (.head _))
    rw [e, ih, ew, List.length_cons, Int.natCast_add, Int.add_comm]
    rfl
theorem fwW_ev (c : Int) : ∀ (ps : List Int) (ws : List (List Nat)), (∀ w ∈ ws, w.length = ps.length) → evM (fwW c ps.length ws) ps = sumR ws (ps.map fun p => 1 + c * p) (ps.map fun p => 1 - p)
  | [], ws, h => (sumR_nil ws h).symm
  | p :: ps, ws, h => by
    obtain ⟨e, h1, h2⟩ := sumR_split (1 + c * p) (1 - p) (ps.map fun p => 1 + c * p) (ps.map fun p => 1 - p) ws h
    have i1 := fwW_ev c ps _ h1
    have i2 := fwW_ev c ps _ h2
    have l1 := fwW_len c ps.length (spZ ws)
    have l2 := fwW_len c ps.length (spN ws)
    show evM (_ ++ _) (p :: ps) = _
    rw [evM_app (by rw [List.length_zipWith, l1, l2, Nat.min_self]), evM_lin (u := 1) (v := 1) (fun x y => by rw [Int.one_mul, Int.one_mul]) ps _ _ l1 l2, evM_lin (u := c) (v := -1) (fun x y => by rw [Int.neg_one_mul]; rfl) ps _ _ l1 l2, i1, i2]
    show _ = sumR ws ((1 + c * p) :: _) ((1 - p) :: _)
    rw [e]
    grind
theorem fwT_ev : ∀ (ps : List Int) (ws : List (List Nat)), (∀ w ∈ ws, w.length = ps.length) → evM (fwT ps.length ws) ps = sumR ws (ps.map fun _ => 1) ps
  | [], ws, h => (sumR_nil ws h).symm
  | p :: ps, ws, h => by
    obtain ⟨e, h1, h2⟩ := sumR_split 1 p (ps.map fun _ => 1) ps ws h
    show evM (_ ++ _) (p :: ps) = sumR ws (1 :: _) (p :: _)
    rw [evM_app (fwT_len ps.length (spZ ws)), fwT_ev ps _ h1, fwT_ev ps _ h2, e, Int.one_mul]
theorem worthN_eq {ws : List (List Nat)} {os ts : List Int} {n : Nat} (ho : os.length = n) (ht : ts.length = n) (hw : ∀ w ∈ ws, w.length = n) : worthN ws os ts = sumR ws os ts := by
  unfold worthN sumR
  rw [foldl_sum, Int.zero_add]
  exact congrArg List.sum (List.map_congr_left fun w h => prodN_eq ((hw w h).trans ho.symm) ((hw w h).trans ht.symm))
/-- MacWilliams' identity, from its coefficients -/
theorem worth_eq {M n : Nat} {words turned : List (List Nat)} {ps : List Int} (hp : ps.length = n) (hw : ∀ w ∈ words, w.length = n) (ht : ∀ w ∈ turned, w.length = n)
    (h : fwW ((M : Int) - 1) n words = (fwT n turned).map ((words.length : Int) * ·)) :
    worthN words (ps.map fun p => 1 + ((M : Int) - 1) * p) (ps.map fun p => 1 - p) = words.length * worthN turned (ps.map fun _ => 1) ps := by
  subst hp
  rw [worthN_eq (List.length_map _) (List.length_map _) hw, worthN_eq (List.length_map _) rfl ht, ← fwW_ev _ ps _ hw, ← fwT_ev ps _ ht, h, evM_scale]

/-- the finite part of the law: a modulus, a length, the chosen divisors, the root by the modulus -/
def gOf (n : Nat) (tk : Int) : List Int := pickL tk (psOf n) (List.range (psOf n).length) [1]
def qOf (n : Nat) (tk : Int) : List Int := pickL (2 ^ (psOf n).length - 1 - tk) (psOf n) (List.range (psOf n).length) [1]
def wordsC (row : List Nat) (copies n M : Nat) : List (List Nat) := (sumsOf (castL row) copies n M).map fun l => l.map Int.toNat
def goodP (n : Nat) (tk : Int) : Bool := mulP (gOf n tk) (qOf n tk) == topL (n - 1) && decide (2 ≤ (gOf n tk).length) && decide ((qOf n tk).length + (gOf n tk).length = n + 2) && decide (2 ≤ (qOf n tk).length) && small2 (gOf n tk) && small2 (qOf n tk) && (gOf n tk).getLast? == some 1 && (qOf n tk).getLast? == some 1
def goodR (n M : Nat) (row : List Nat) (copies : Nat) : Bool := decide (sumsOf (castL row) copies n M = (wordsC row copies n M).map castL) && ((wordsC row copies n M).all fun w => decide (w.length = n) && w.all fun f => decide (f < 7)) && decide ((wordsC row copies n M).length ≤ 1000) && decide (1 ≤ (wordsC row copies n M).length) && decide (M ^ copies ≤ 10000)
def goodC (n M dg : Nat) (row : List Nat) (spans : List (List Nat)) : Bool := spans.all fun s => (List.range (n - dg)).all fun mv => decide (tallyN row s mv = shN row row.length * shN s n / 2 ^ (8 * (n - 1 - mv)) % 256) && decide (tallyN row s mv % M = 0)
def goodM (n M : Nat) (words spans : List (List Nat)) : Bool := decide (fwW ((M : Int) - 1) n words = (fwT n (spans.map List.reverse)).map ((words.length : Int) * ·))
def good (M n : Nat) (tk : Int) (ρ : Nat) : Bool :=
  goodP n tk && goodR n M (rowN (gOf n tk) M ρ) (n - ((gOf n tk).length - 1)) && goodR n M (rowN (qOf n tk) M ρ) ((gOf n tk).length - 1) &&
    goodC n M ((gOf n tk).length - 1) (rowN (gOf n tk) M ρ) (wordsC (rowN (qOf n tk) M ρ) ((gOf n tk).length - 1) n M) &&
    goodM n M (wordsC (rowN (gOf n tk) M ρ) (n - ((gOf n tk).length - 1)) n M) (wordsC (rowN (qOf n tk) M ρ) ((gOf n tk).length - 1) n M)
end Mine
set_option maxRecDepth 10000
namespace Mine
open PySem PySem.Calls PySem.W

theorem sum_bd {k m : Nat} : ∀ l : List Int, (∀ x ∈ l, Bd x k) → l.length ≤ 2 ^ m → Bd l.sum (m + k) := by
  have key : ∀ l : List Int, (∀ x ∈ l, Bd x k) → l.sum.natAbs + l.length ≤ l.length * 2 ^ k := by
    intro l
    induction l with
    | nil => intro _; simp
    | cons a l ih =>
      intro h
      have h1 := ih fun x hx => h x (.tail _ hx)
      have h2 : a.natAbs < 2 ^ k := h a (.head _)
      have h3 := Int.natAbs_add_le a l.sum
      rw [List.sum_cons, List.length_cons, Nat.add_mul, Nat.one_mul]
      omega
  intro l h hl
  have h1 := key l h
  unfold Bd
  rw [Nat.pow_add]
  have h2 : l.length * 2 ^ k ≤ 2 ^ m * 2 ^ k := Nat.mul_le_mul_right _ hl
  rcases Nat.eq_zero_or_pos l.length with h0 | h0
  · have : l = [] := List.eq_nil_of_length_eq_zero h0
    subst this
    have := Nat.mul_pos (Nat.two_pow_pos m) (Nat.two_pow_pos k)
    simpa using this
  · omega
theorem prodR_bd {k : Nat} : ∀ (w : List Nat) (os ts : List Int), (∀ x ∈ os, Bd x k) → (∀ x ∈ ts, Bd x k) → Bd (prodR w os ts) (k * w.length + 1)
  | [], os, ts, _, _ => by unfold Bd; simp [prodR]
  | f :: w, [], ts, _, _ => by unfold Bd; simp [prodR]
  | f :: w, o :: os, [], _, _ => by unfold Bd; simp [prodR]
  | f :: w, o :: os, t :: ts, h1, h2 => by
    have ih := prodR_bd w os ts (fun x hx => h1 x (.tail _ hx)) fun x hx => h2 x (.tail _ hx)
    show Bd ((if f = 0 then o else t) * prodR w os ts) _
    have : Bd (if f = 0 then o else t) k := by
      split
      · exact h1 o (.head _)
      · exact h2 t (.head _)
    exact (this.mul ih).mono (by rw [List.length_cons, Nat.mul_add]; omega)
theorem worth_bd {k m n : Nat} {ws : List (List Nat)} {os ts : List Int} (h1 : ∀ x ∈ os, Bd x k) (h2 : ∀ x ∈ ts, Bd x k) (ho : os.length = n) (ht : ts.length = n) (hw : ∀ w ∈ ws, w.length = n) (hl : ws.length ≤ 2 ^ m) : Bd (worthN ws os ts) (m + (k * n + 1)) := by
  have e : worthN ws os ts = (ws.map fun w => prodN w os ts).sum := by unfold worthN; rw [foldl_sum, Int.zero_add]
  rw [e]
  refine sum_bd _ (fun x hx => ?_) (by rw [List.length_map]; exact hl)
  obtain ⟨w, hwm, rfl⟩ := List.mem_map.mp hx
  rw [prodN_eq (by rw [hw w hwm, ho]) (by rw [hw w hwm, ht])]
  exact (prodR_bd w os ts h1 h2).mono (by rw [hw w hwm]; exact Nat.le_refl _)

theorem rowN_lt {M : Nat} (hM : 1 ≤ M) (cs : List Int) (r : Int) : ∀ f ∈ rowN cs M r, f < M := fun f hf => by
  obtain ⟨e, _, rfl⟩ := List.mem_map.mp hf
  have h1 := Int.fmod_nonneg_of_pos e (show (0 : Int) < M by omega)
  have h2 := Int.fmod_lt_of_pos e (show (0 : Int) < M by omega)
  omega
theorem rowN_len (cs : List Int) (M : Nat) (r : Int) : (rowN cs M r).length = cs.length := by unfold rowN; rw [List.length_map, homL_len]

theorem bare_of (v : Int) (h : 0 ≤ v ∧ v < 4) : ∃ b ∈ bares, item (.str "o>;'") (.int v) = some (.str ⟨#[b]⟩) := by
  have e : ("o>;'" : Str) = ⟨#[111, 62, 59, 39]⟩ := by decide +kernel
  rw [e]
  have : v = 0 ∨ v = 1 ∨ v = 2 ∨ v = 3 := by
    obtain ⟨n, rfl⟩ := Int.eq_ofNat_of_zero_le h.1
    exact (by decide : ∀ n : Nat, n < 4 → ((n : Int) = 0 ∨ (n : Int) = 1 ∨ (n : Int) = 2 ∨ (n : Int) = 3)) n (Int.ofNat_lt.mp h.2)
  rcases this with rfl | rfl | rfl | rfl
  · exact ⟨111, by decide, rfl⟩
  · exact ⟨62, by decide, rfl⟩
  · exact ⟨59, by decide, rfl⟩
  · exact ⟨39, by decide, rfl⟩

theorem ps_small : ∀ n, ∀ p ∈ psOf n, p ≠ [] ∧ p.length ≤ 4 ∧ ∀ c ∈ p, c.natAbs ≤ 2 := by
  intro n p hp
  unfold psOf at hp
  split at hp <;> simp only [List.mem_cons, List.not_mem_nil, or_false] at hp
  · rcases hp with rfl | rfl <;> decide
  · rcases hp with rfl | rfl <;> decide
  · rcases hp with rfl | rfl | rfl <;> decide
  · rcases hp with rfl | rfl | rfl | rfl <;> decide
theorem ps_len : ∀ n, (psOf n).length ≤ 4 := by
  intro n; unfold psOf; split <;> decide

theorem ar_len {a b n : Nat} (h : a + b = n + 2) (ha : 2 ≤ a) (hn : n ≤ 6) : 130 * b + 3 ≤ 783 := by omega
theorem ar_dq {a b n : Nat} (h : a + b = n + 2) (ha : 2 ≤ a) (hb : 2 ≤ b) : a = n - (b - 1) + 1 := by omega
theorem ar_deg {a b n dg : Nat} (h : a + b = n + 2) (ha : 2 ≤ a) (hn : n ≤ 6) (hg : b = dg + 1) : dg ≤ n := by omega
theorem ar_deg' {a b n : Nat} (h : a + b = n + 2) (ha : 2 ≤ a) (hn : n ≤ 6) : b ≤ 20 := by omega
theorem ar_n5 {n : Nat} (h : 2 ≤ n ∧ n ≤ 6) : n - 1 = 1 ∨ n - 1 = 2 ∨ n - 1 = 3 ∨ n - 1 = 4 ∨ n - 1 = 5 := (by decide : ∀ n, n < 7 → 2 ≤ n → n - 1 = 1 ∨ n - 1 = 2 ∨ n - 1 = 3 ∨ n - 1 = 4 ∨ n - 1 = 5) n (Nat.lt_succ_of_le h.2) h.1
theorem ar_m1 {M : Nat} (h : 1 ≤ M ∧ M ≤ 7) : ((M : Int) - 1).natAbs ≤ 6 := by omega
theorem ar_p1 {x : Int} (h : x.natAbs ≤ 6 * 500000) : (1 + x).natAbs ≤ 3000001 := by omega
theorem ar_p2 {x : Int} (h : x.natAbs ≤ 500000) : (1 - x).natAbs ≤ 500001 := by omega
theorem ar_22 {n : Nat} (h : n ≤ 6) : 10 + (22 * n + 1) ≤ 143 := by omega
theorem ar_root {f root : Int} (h : f - 1000000 = root) (h1 : 0 ≤ f) (h2 : f < 2000001) : root.natAbs ≤ 1000000 := by omega
theorem pos_toNat {x : Int} (h : 0 < x) : 0 < x.toNat := by omega
theorem ar_pow {k : Nat} (h : 2 ^ 2 ≤ k) : (0 : Int) < (k : Int) - 2 := by omega
theorem ar_td {td : Int} {k : Nat} (h : 2 ^ 2 ≤ k) (h2 : td < (k : Int) - 2) : td.toNat < k - 2 := by omega

theorem core {xs : List Int} (hx : xs.length ≤ 63) {M n : Nat} (hM : 1 ≤ M ∧ M ≤ 7) (hn : 2 ≤ n ∧ n ≤ 6) (hP : 2 ≤ (psOf n).length)
    (hMi : item (.list [.int 4, .int 5, .int 6, .int 7, .int 3, .int 2]) (.int ((slS xs 0 3).fmod 6)) = some (.int M))
    (hni : item (.list [.int 0, .int 0, .int 6, .int 4, .int 3, .int 3, .int 3, .int 2]) (.int M) = some (.int n))
    (hparts : ∀ (root : Int) (W : Nat), Bd ((2 : Int) ^ W) 123 → Bd root 20 → (root.natAbs : Int) < 2 ^ W → PartsOk n root W)
    (hgood : ∀ t ∈ List.range (2 ^ (psOf n).length - 2), ∀ ρ ∈ List.range M, good M n ((t : Int) + 1) ρ = true) :
    ∃ (first second root : Int) (n M W dg gN q b : Nat) (parts : List (Int × Int)) (row rowQ : List Nat) (words spans : List (List Nat)),
      Law0 xs first second root n M W parts ∧ Law1 second root n M W dg gN q parts row rowQ words spans ∧ Law2 n M dg row spans ∧ Law3 xs first n M b q words (spans.map List.reverse) := by
  generalize hroot : (slS xs 2 3 + 1000002).fmod 2000001 - 1000000 = root
  have hr1 : root.natAbs ≤ 1000000 := by
    have h1 := Int.fmod_nonneg_of_pos (slS xs 2 3 + 1000002) (show (0 : Int) < 2000001 by decide)
    have h2 := Int.fmod_lt_of_pos (slS xs 2 3 + 1000002) (show (0 : Int) < 2000001 by decide)
    exact ar_root hroot h1 h2
  generalize hL : bits ((root.natAbs : Int) + 1) = L
  have hlt : root.natAbs + 1 < 2 ^ L := by
    have := lt_bits (root.natAbs + 1)
    have e : (((root.natAbs + 1 : Nat)) : Int) = (root.natAbs : Int) + 1 := Int.natCast_add ..
    rw [e, hL] at this
    exact this
  have hL20 : L ≤ 20 := by
    rw [← hL]
    have e : (root.natAbs : Int) + 1 = ((root.natAbs + 1 : Nat) : Int) := (Int.natCast_add ..).symm
    rw [e]
    exact bitsN_le (Nat.lt_of_le_of_lt (Nat.succ_le_succ hr1) (by decide))
  have hL1 : 1 ≤ L := by
    refine Nat.pos_of_ne_zero fun h => ?_
    rw [h] at hlt; exact Nat.not_lt.mpr (Nat.le_add_left 1 _) hlt
  generalize hW : n * L + 2 = W
  have hnL : n * L ≤ 6 * 20 := Nat.mul_le_mul hn.2 hL20
  have hW122 : W ≤ 122 := hW ▸ Nat.add_le_add_right hnL 2
  have hX : Bd ((2 : Int) ^ W) 123 := by
    unfold Bd
    rw [Int.natAbs_pow]
    exact Nat.pow_lt_pow_right (by decide) (Nat.lt_succ_of_le hW122)
  have hr20 : Bd root 20 := by unfold Bd; exact Nat.lt_of_le_of_lt hr1 (by decide)
  have hn1 : 1 ≤ n := Nat.le_of_succ_le hn.1
  have hLW : L ≤ W := hW ▸ Nat.le_trans (Nat.le_mul_of_pos_left L hn1) (Nat.le_add_right _ 2)
  have hrX : (root.natAbs : Int) < 2 ^ W := by
    have h1 : root.natAbs < 2 ^ W := Nat.lt_of_lt_of_le (Nat.lt_of_succ_lt hlt) (Nat.pow_le_pow_right (by decide) hLW)
    have : ((root.natAbs : Nat) : Int) < ((2 ^ W : Nat) : Int) := Int.ofNat_lt.mpr h1
    simpa using this
  have hPl := ps_len n
  have hP2 : 2 ^ 2 ≤ 2 ^ (psOf n).length := Nat.pow_le_pow_right (by decide) hP
  generalize hsec : slS xs 1 3 = second
  have hpc : (2 : Int) ^ (psOf n).length = ((2 ^ (psOf n).length : Nat) : Int) := by simp
  have hf1 := Int.fmod_nonneg_of_pos second (show (0 : Int) < 2 ^ (psOf n).length - 2 by rw [hpc]; exact ar_pow hP2)
  have hf2 := Int.fmod_lt_of_pos second (show (0 : Int) < 2 ^ (psOf n).length - 2 by rw [hpc]; exact ar_pow hP2)
  generalize htd : second.fmod (2 ^ (psOf n).length - 2) = td at hf1 hf2
  have htk : td.toNat < 2 ^ (psOf n).length - 2 := by rw [hpc] at hf2; exact ar_td hP2 hf2
  have hMpos : (0 : Int) < M := Int.natCast_pos.mpr hM.1
  have hρ1 := Int.emod_nonneg root (Int.ne_of_gt hMpos)
  have hρ2 := Int.emod_lt_of_pos root hMpos
  have hρ : (root % M).toNat < M := (Int.toNat_lt hρ1).mpr hρ2
  have hρc : (((root % M).toNat : Nat) : Int) = root % M := Int.toNat_of_nonneg hρ1
  have hg := hgood td.toNat (List.mem_range.mpr htk) (root % M).toNat (List.mem_range.mpr hρ)
  have etk : ((td.toNat : Nat) : Int) + 1 = 1 + td := by rw [Int.toNat_of_nonneg hf1, Int.add_comm]
  rw [etk] at hg
  generalize htkk : 1 + td = tk at hg
  unfold good at hg
  rw [hρc] at hg
  rw [← rowN_mod, ← rowN_mod] at hg
  simp only [Bool.and_eq_true] at hg
  obtain ⟨⟨⟨⟨gp, gr⟩, gq⟩, gc⟩, gm⟩ := hg
  have egd : gOf n tk = pickL tk (psOf n) (List.range (psOf n).length) [1] := rfl
  have eqd : qOf n tk = pickL (2 ^ (psOf n).length - 1 - tk) (psOf n) (List.range (psOf n).length) [1] := rfl
  generalize hgc : gOf n tk = g at *
  generalize hqc : qOf n tk = qc at *
  unfold goodP at gp
  rw [hgc, hqc] at gp
  simp only [Bool.and_eq_true, beq_iff_eq, decide_eq_true_eq] at gp
  obtain ⟨⟨⟨⟨⟨⟨⟨gmul, glen2⟩, glen⟩, qlen2⟩, gsm⟩, qsm⟩, glast⟩, qlast⟩ := gp
  have hpos := ps_pos hrX n
  have g1 : 0 < ev (2 ^ W) root [1] := by simp [ev]
  have gpos : 0 < ev (2 ^ W) root g := by rw [egd]; exact pick_pos hpos _ _ (fun k hk => List.mem_range.mp hk) g1
  have qpos : 0 < ev (2 ^ W) root qc := by rw [eqd]; exact pick_pos hpos _ _ (fun k hk => List.mem_range.mp hk) g1
  have gcast : (((ev (2 ^ W) root g).toNat : Nat) : Int) = ev (2 ^ W) root g := Int.toNat_of_nonneg (Int.le_of_lt gpos)
  have qcast : (((ev (2 ^ W) root qc).toNat : Nat) : Int) = ev (2 ^ W) root qc := Int.toNat_of_nonneg (Int.le_of_lt qpos)
  have hqne : qc ≠ [] := fun h => by rw [h] at qlen2; simp at qlen2
  have hnum : (2 : Int) ^ (W * n) - root ^ n = ev (2 ^ W) root g * ev (2 ^ W) root qc := by
    have := top_num W root (n - 1)
    rw [Nat.sub_add_cancel hn1] at this
    rw [this, ← gmul, ev_mul _ _ _ _ hqne]
  have gsm' := gsm
  have qsm' := qsm
  unfold small2 at gsm' qsm'
  simp only [Bool.and_eq_true, List.all_eq_true, decide_eq_true_eq] at gsm' qsm'
  have gB : Bd (ev (2 ^ W) root g) 783 := (ev_bd hX hr20 g gsm'.1).mono (ar_len glen qlen2 hn.2)
  have qB : Bd (ev (2 ^ W) root qc) 783 := (ev_bd hX hr20 qc qsm'.1).mono (ar_len (Nat.add_comm .. ▸ glen) glen2 hn.2)
  have hdg : g.length = (g.length - 1) + 1 := (Nat.sub_add_cancel (Nat.le_of_succ_le glen2)).symm
  have hdq : qc.length = (n - (g.length - 1)) + 1 := ar_dq glen qlen2 glen2
  have hdn := ar_deg glen qlen2 hn.2 hdg
  have hn20 : n ≤ 20 := Nat.le_trans hn.2 (by decide)
  unfold goodR at gr gq
  simp only [Bool.and_eq_true, decide_eq_true_eq, List.all_eq_true] at gr gq
  obtain ⟨⟨⟨⟨r1, r2⟩, r3⟩, r4⟩, r5⟩ := gr
  obtain ⟨⟨⟨⟨s1, s2⟩, s3⟩, s4⟩, s5⟩ := gq
  unfold goodC at gc
  simp only [Bool.and_eq_true, decide_eq_true_eq, List.all_eq_true] at gc
  unfold goodM at gm
  rw [decide_eq_true_eq] at gm
  have rlen := rowN_len g M root
  have qrlen := rowN_len qc M root
  have hf3 := Int.fmod_nonneg_of_pos ((slS xs 0 3).fdiv 6) (show (0 : Int) < 4 by decide)
  have hf4 := Int.fmod_lt_of_pos ((slS xs 0 3).fdiv 6) (show (0 : Int) < 4 by decide)
  obtain ⟨b, hb, hbi⟩ := bare_of _ ⟨hf3, hf4⟩
  generalize hdgN : g.length - 1 = dg at *
  generalize hrow : rowN g M root = row at *
  generalize hrowQ : rowN qc M root = rowQ at *
  generalize hwd : wordsC row (n - dg) n M = words at *
  generalize hsp : wordsC rowQ dg n M = spans at *
  have hpl := price_len xs n
  have hturn : ∀ w ∈ spans.map List.reverse, w.length = n ∧ ∀ f ∈ w, f < 7 := fun w hw => by
    obtain ⟨s, hs, rfl⟩ := List.mem_map.mp hw
    exact ⟨by rw [List.length_reverse]; exact (s2 s hs).1, fun f hf => (s2 s hs).2 f (List.mem_reverse.mp hf)⟩
  have hworth := worth_eq (M := M) hpl (fun w hw => (r2 w hw).1) (fun w hw => (hturn w hw).1) gm
  have hp22 : ∀ p ∈ priceL xs n, Bd (1 + ((M : Int) - 1) * p) 22 ∧ Bd (1 - p) 22 := fun p hp => by
    have h := price_bd p hp
    have h8 : (((M : Int) - 1) * p).natAbs ≤ 6 * 500000 := by
      rw [Int.natAbs_mul]
      exact Nat.mul_le_mul (ar_m1 hM) h
    unfold Bd
    exact ⟨Nat.lt_of_le_of_lt (ar_p1 h8) (by decide), Nat.lt_of_le_of_lt (ar_p2 h) (by decide)⟩
  have haB : Bd (worthN words ((priceL xs n).map fun p => 1 + ((M : Int) - 1) * p) ((priceL xs n).map fun p => 1 - p)) 143 :=
    (worth_bd (k := 22) (m := 10) (n := n) (fun x hx => by obtain ⟨p, hp, rfl⟩ := List.mem_map.mp hx; exact (hp22 p hp).1) (fun x hx => by obtain ⟨p, hp, rfl⟩ := List.mem_map.mp hx; exact (hp22 p hp).2) (by rw [List.length_map, hpl]) (by rw [List.length_map, hpl]) (fun w hw => (r2 w hw).1) (Nat.le_trans r3 (by decide))).mono (ar_22 hn.2)
  have hq0 : 0 < (ev (2 ^ W) root qc).toNat := pos_toNat qpos
  have hlq : 0 < words.length * (ev (2 ^ W) root qc).toNat := Nat.mul_pos r4 hq0
  have hlcast : ((words.length * (ev (2 ^ W) root qc).toNat : Nat) : Int) = (words.length : Int) * ev (2 ^ W) root qc := by rw [Int.natCast_mul, qcast]
  have hlen1 : Bd (words.length : Int) 10 := by unfold Bd; exact Nat.lt_of_le_of_lt r3 (by decide)
  have hahead : worthN words ((priceL xs n).map fun p => 1 + ((M : Int) - 1) * p) ((priceL xs n).map fun p => 1 - p) * ((ev (2 ^ W) root qc).toNat : Nat) = (words.length * (ev (2 ^ W) root qc).toNat : Nat) * worthN (spans.map List.reverse) ((priceL xs n).map fun _ => 1) (priceL xs n) := by
    rw [hworth, hlcast, qcast]
    grind
  have hne : partsL n (2 ^ W) root ≠ [] := fun h => by
    have h0 := congrArg List.length h
    unfold partsL at h0
    rw [List.length_map] at h0
    have h1 : (psOf n).length = 0 := h0
    exact absurd (h1 ▸ hP) (by decide)
  have hr7 : ∀ f ∈ row, f < 7 := fun f hf => by
    rw [← hrow] at hf
    exact Nat.lt_of_lt_of_le (rowN_lt hM.1 g root f hf) hM.2
  refine ⟨slS xs 0 3, second, root, n, M, W, dg, (ev (2 ^ W) root g).toNat, (ev (2 ^ W) root qc).toNat, b, partsL n (2 ^ W) root, row, rowQ, words, spans, ?_, ?_, ?_, ?_⟩
  · exact { hx := hx, h1 := rfl, h2 := hsec.symm, hroot := hroot, hM := hMi, hn := hni, hnn := hn.2, hW := by rw [hL]; exact hW, hW2 := Nat.le_trans hW122 (by decide), hparts := hparts root W hX hr20 hrX, hne := hne }
  · have hpl2 : (partsL n (2 ^ W) root).length = (psOf n).length := by unfold partsL; rw [List.length_map]
    refine { hn := ⟨hn1, hn.2⟩, hM := hM, hW := ⟨hW ▸ Nat.succ_pos _, Nat.le_trans hW122 (by decide)⟩, hdg := hdn, hroot := hr20.mono (by decide), hP := by rw [hpl2]; exact ⟨hP, Nat.le_trans hPl (by decide)⟩, pick := ?_, hdf := ?_, hdiv := ?_, hmod := ?_, hrg := ?_, hrq := ?_, hl := by rw [rlen, qrlen]; exact ⟨ar_deg' glen qlen2 hn.2, ar_deg' (Nat.add_comm .. ▸ glen) glen2 hn.2⟩, hpow := ⟨r5, s5⟩, hwords := r1, hspans := s1 }
    · rw [hpl2, htd, htkk]
      have := pick_of (X := 2 ^ W) (r := root) (tk := tk) (ps := psOf n) (gN := (ev (2 ^ W) root g).toNat) (dg := dg) hX hr20 (ps_small n) (psOf n).length (List.range (psOf n).length) [1] 1 (fun k hk => List.mem_range.mp hk) (by simp) (by simp [ev]) (by unfold Bd; simp) (by simp) hPl (by rw [← egd]; omega) (by rw [← egd]; exact gcast.symm)
      exact this
    · rw [hnum]
      refine DF.of (pos_toNat gpos) ?_ (by rw [gcast]; exact gB.mono (by decide))
      rw [← ev_mul _ _ _ _ hqne, gmul]
      refine small2_bd hX hr20 ?_
      rcases ar_n5 hn with h | h | h | h | h <;> rw [h] <;> decide
    · rw [hnum, gcast, qcast, Int.mul_ediv_cancel_left _ (Int.ne_of_gt gpos)]
    · rw [hnum, gcast]; exact Int.mul_emod_right _ _
    · have := rowIs_of (cs := g) (r := root) (W := W) (L := L) (n := n) (M := M) (dg := dg) hW.symm (Nat.lt_of_succ_lt hlt) hL1 hn1 hM.1 hdg hdn (Nat.le_trans hdn hn20) gsm'.1 glast
      rw [gcast, ← hrow]; exact this
    · have := rowIs_of (cs := qc) (r := root) (W := W) (L := L) (n := n) (M := M) (dg := n - dg) hW.symm (Nat.lt_of_succ_lt hlt) hL1 hn1 hM.1 hdq (Nat.sub_le ..) (Nat.le_trans (Nat.sub_le ..) hn20) qsm'.1 qlast
      rw [qcast, ← hrowQ]; exact this
  · exact { hn := ⟨hn1, hn.2⟩, hM := hM, hd := hdn, hrow := rlen.trans hdg, hr7 := hr7, hs := s2, hsl := s3, chk := fun s hs mv hmv => gc s hs mv hmv }
  · exact { hx := hx, hn := ⟨hn1, hn.2⟩, hM := hM, hb := hb, hbi := hbi, hw := r2, ht := hturn, hwl := r3, htl := by rw [List.length_map]; exact s3, hq := by rw [qcast]; exact Nat.le_trans qB.bits (by decide), hab := Nat.le_trans haB.bits (by decide),
            hdf := DF.of hlq (by rw [qcast]; exact (haB.mul qB).mono (by decide)) (by rw [hlcast]; exact (hlen1.mul qB).mono (by decide)),
            hdiv := by rw [hahead]; exact Int.mul_ediv_cancel_left _ (Int.ne_of_gt (Int.natCast_pos.mpr hlq)), hmod := by rw [hahead]; exact Int.mul_emod_right _ _ }
end Mine
set_option maxRecDepth 10000
namespace Mine
open PySem PySem.Calls PySem.W

set_option maxRecDepth 100000
theorem good43 : ∀ t ∈ List.range (2 ^ (psOf 3).length - 2), ∀ ρ ∈ List.range 4, good 4 3 ((t : Int) + 1) ρ = true := by decide +kernel
theorem good53 : ∀ t ∈ List.range (2 ^ (psOf 3).length - 2), ∀ ρ ∈ List.range 5, good 5 3 ((t : Int) + 1) ρ = true := by decide +kernel
theorem good63 : ∀ t ∈ List.range (2 ^ (psOf 3).length - 2), ∀ ρ ∈ List.range 6, good 6 3 ((t : Int) + 1) ρ = true := by decide +kernel
theorem good72 : ∀ t ∈ List.range (2 ^ (psOf 2).length - 2), ∀ ρ ∈ List.range 7, good 7 2 ((t : Int) + 1) ρ = true := by decide +kernel
theorem good34 : ∀ t ∈ List.range (2 ^ (psOf 4).length - 2), ∀ ρ ∈ List.range 3, good 3 4 ((t : Int) + 1) ρ = true := by decide +kernel
theorem good26a : ∀ t ∈ List.range 7, ∀ ρ ∈ List.range 2, good 2 6 ((t : Int) + 1) ρ = true := by decide +kernel
theorem good26b : ∀ t ∈ List.range 7, ∀ ρ ∈ List.range 2, good 2 6 (((t + 7 : Nat) : Int) + 1) ρ = true := by decide +kernel
theorem good26 : ∀ t ∈ List.range (2 ^ (psOf 6).length - 2), ∀ ρ ∈ List.range 2, good 2 6 ((t : Int) + 1) ρ = true := fun t ht ρ hρ => by
  have h : t < 14 := List.mem_range.mp ht
  by_cases h7 : t < 7
  · exact good26a t (List.mem_range.mpr h7) ρ hρ
  · have := good26b (t - 7) (List.mem_range.mpr (by omega)) ρ hρ
    rw [show t - 7 + 7 = t by omega] at this
    exact this
theorem plain_law (xs : List Int) (hx : xs.length ≤ 63) : ∃ (first second root : Int) (n M W dg gN q b : Nat) (parts : List (Int × Int)) (row rowQ : List Nat) (words spans : List (List Nat)),
    Law0 xs first second root n M W parts ∧ Law1 second root n M W dg gN q parts row rowQ words spans ∧ Law2 n M dg row spans ∧ Law3 xs first n M b q words (spans.map List.reverse) := by
  have h1 := Int.fmod_nonneg_of_pos (slS xs 0 3) (show (0 : Int) < 6 by decide)
  have h2 := Int.fmod_lt_of_pos (slS xs 0 3) (show (0 : Int) < 6 by decide)
  have h : (slS xs 0 3).fmod 6 = 0 ∨ (slS xs 0 3).fmod 6 = 1 ∨ (slS xs 0 3).fmod 6 = 2 ∨ (slS xs 0 3).fmod 6 = 3 ∨ (slS xs 0 3).fmod 6 = 4 ∨ (slS xs 0 3).fmod 6 = 5 := by
    obtain ⟨n, e⟩ := Int.eq_ofNat_of_zero_le (Int.fmod_nonneg_of_pos (slS xs 0 3) (show (0 : Int) < 6 by decide))
    have h2 := Int.fmod_lt_of_pos (slS xs 0 3) (show (0 : Int) < 6 by decide)
    rw [e] at h2 ⊢
    exact (by decide : ∀ n : Nat, n < 6 → ((n : Int) = 0 ∨ (n : Int) = 1 ∨ (n : Int) = 2 ∨ (n : Int) = 3 ∨ (n : Int) = 4 ∨ (n : Int) = 5)) n (Int.ofNat_lt.mp h2)
  rcases h with h | h | h | h | h | h
  · exact core hx (M := 4) (n := 3) (by decide) (by decide) (by decide) (by rw [h]; rfl) rfl (fun root W => parts3) good43
  · exact core hx (M := 5) (n := 3) (by decide) (by decide) (by decide) (by rw [h]; rfl) rfl (fun root W => parts3) good53
  · exact core hx (M := 6) (n := 3) (by decide) (by decide) (by decide) (by rw [h]; rfl) rfl (fun root W => parts3) good63
  · exact core hx (M := 7) (n := 2) (by decide) (by decide) (by decide) (by rw [h]; rfl) rfl (fun root W => parts2) good72
  · exact core hx (M := 3) (n := 4) (by decide) (by decide) (by decide) (by rw [h]; rfl) rfl (fun root W => parts4) good34
  · exact core hx (M := 2) (n := 6) (by decide) (by decide) (by decide) (by rw [h]; rfl) rfl (fun root W => parts6) good26
end Mine
set_option maxRecDepth 10000
namespace Mine
open PySem PySem.W PySem.Calls PyProof.Rows

/-- the caller's context holds no decoder -/
theorem caller_noDec : isDec (.builtin "claim.caller" {}) = false := by decide +kernel

/-- a thread ends, told where no decoder stands -/
theorem thread_endsN {prog : Program} {w : World} {t : Sem Fin} {s : Shared} {R : Result → Shared → Prop} (hreg : s.asleep)
    (h : wpN (model prog w) callerA t (fun fin s' => ∃ f, fin = .done f ∧ (R (.ok f) s' ∧ AllBare s'.gens)) (fun e s' => R (.error e) s' ∧ AllBare s'.gens) s) :
    ∃ n r s' s'', schedN (denote table) prog w n (.single s ⟨t, .builtin "claim.caller" {}, default, []⟩) = .halted (outcomeOf r) s'' ∧ runN (denote table) prog w n s ⟨t, .builtin "claim.caller" {}, default, []⟩ = .halted (outcomeOf r) s'' ∧ s''.forget = s'.forget ∧ R r s' := by
  refine wp_halts_full (M := model prog w) hreg (Sem.wp_mono _ _ t (fun fin p' s' h' => ?_) (fun e _ s' h' => ⟨h'.1, leftWithCleanup_false_of_bare h'.2⟩) default s (h _ default caller_in caller_noDec fun x hx => nomatch hx))
  obtain ⟨f, rfl, a, b⟩ := h'
  exact ⟨a, leftWithCleanup_false_of_bare b⟩

/-- the tokens never grow fewer, up to the law's call -/
theorem topRun_toks {tb : String → Option Builtin} {p : Program} {w : World} {n₀ : Nat} {ann : Option Value} : ∀ (n : Nat) (s : Shared) (t : Thread) (s₁ : Shared), topRun tb p w n₀ ann n s t = some s₁ → s.toks ≤ s₁.toks
  | 0, _, _, _, h => by simp [topRun] at h
  | n + 1, s, t, s₁, h => by
    unfold topRun at h
    split at h
    · cases h; exact Nat.le_refl _
    · split at h
      · cases h
      · split at h
        · rename_i hs
          exact Nat.le_trans (step_toks_le _ _ _ _ _ _ _ hs) (topRun_toks n _ _ _ h)
        · cases h
theorem left_toks {p q : Program} {loose : List Str} {Xt : Shared → Bool} {α : Type} {Yf : Shared → α} {Ya : World → α} {N : Nat} (hfen : ∀ s, fenceModules? p s = some s) (left : LeftO p q loose Xt Yf Ya N) :
    LeftO p q loose Xt (fun s => (Yf s, decide (0 < s.toks))) (fun w => (Ya w, true)) N := fun w => by
  have h := left w
  obtain ⟨s₁, h1, e⟩ := Option.map_eq_some_iff.mp h
  refine Option.map_eq_some_iff.mpr ⟨s₁, h1, ?_⟩
  have hpos : 0 < s₁.toks := by
    rw [← table_eq_tree] at h1
    obtain ⟨s₀, h2, h3⟩ := Option.bind_eq_some_iff.mp h1
    obtain ⟨s, h4, h5⟩ := Option.bind_eq_some_iff.mp h2
    rw [hfen] at h5
    cases h5
    have A := AfterImport.toks_pos (AfterImport.of_importEnds h4)
    unfold topFrom at h3
    split at h3
    · obtain ⟨s₂, h6, h7⟩ := Option.bind_eq_some_iff.mp h3
      split at h7
      · cases h7
        exact Nat.lt_of_lt_of_le A (topRun_toks _ _ _ _ h6)
      · cases h7
    · cases h3
  obtain ⟨e1, e2⟩ := Prod.mk.inj e
  rw [e1]
  show (_, (Yf s₁, decide (0 < s₁.toks))) = _
  rw [e2, decide_eq_true hpos]

/-- what the walk has to show -/
abbrev WalkON (q : Program) (loose : List Str) (XP : (Str → Option Value) → Heap → Prop) (YP : World → Heap → Prop) (r : RowW) (d : DefRec) (kwd : List (Str × PySem.Expr)) : Prop :=
  ∀ (w : World) (s₀ s₁ : Shared) (mg mb : Str → Option Value), Ground q loose r.records XP w s₀ mg mb s₁.heap → YP w s₁.heap → ∀ (a : Addr) (o : Obj) (pm cd doc dV kV : Value), s₁.heap.get? a = some o →
    o.data = .func { docDef d.name d.params d.body d.scope pm cd doc with defaults := dV, kwdefaults := kV } → s₁.heap.CodeRec cd d.name → Dflts mg s₁.heap d.params kwd dV kV → mg d.name = some (.ref a) → s₁.gens = #[] → 1 ≤ s₁.toks →
    ∀ (args : List WData) (vals : List Value) (as : List Addr), r.claim.pre args = true → WData.layableAll args = true → ReadsAllW r.records (classAt s₀.heap) s₁.heap vals args as → WellAll w.params s₁.heap vals args → (∀ a ∈ as, (a == sysModules) = false) →
      wpN (model r.prog w) callerA (PySem.call (.ref a) vals) (fun v s' => GoodWG r.claim (classAt s₀.heap) (ExcName.means s₀.heap) args s₁ (.ok (.ret v)) s')
        (fun e s' => GoodWG r.claim (classAt s₀.heap) (ExcName.means s₀.heap) args s₁ (.error e) s') s₁

theorem wpN.nsGet {prog : Program} {w : World} {α : Type} {s : Shared} {n : Str} {f : Value} {mg : Str → Option Value} {k : Option Value → Sem α} {Q : α → Shared → Prop} {E : Value → Shared → Prop} (hg : s.heap.Ns mainGlobals mg) (hf : mg n = some f)
    (h : wpN (model prog w) callerA (k (some f)) Q E s) : wpN (model prog w) callerA (PySem.nsGet mainNs n >>= k) Q E s := .bindAny (wpAny_nsGet hg (by rw [hf]; exact h))

theorem pin_mem {b : Bool} {n m : Str} (h : n ∈ if b = true then [m] else []) : n = m := by
  cases b
  · rw [if_neg (by decide)] at h; exact absurd h List.not_mem_nil
  · rw [if_pos rfl] at h; exact List.mem_singleton.mp h

/-- the head of a law whose walk is told where no decoder stands -/
theorem holds_openM {r : OpenRow} {q : Program} {loose : List Str} {Xt : Shared → Bool} {XP : (Str → Option Value) → Heap → Prop} {α : Type} {Yf : Shared → α} {Ya : World → α} {YP : World → Heap → Prop} {d : DefRec} {kwd : List (Str × PySem.Expr)} {N : Nat}
    (left : LeftO r.prog q loose Xt Yf Ya N) (hY : ∀ w s, Yf s = Ya w → YP w s.heap) (hYk : ∀ w h h', YP w h → (∀ b o, h.get? b = some o → h'.get? b = some o) → YP w h')
    (hX : ∀ s, Xt s = true → XP (s.heap.nsMap mainGlobals) s.heap) (hXk : ∀ mg h h', XP mg h → (∀ b o, h.get? b = some o → h'.get? b = some o) → XP mg h')
    (hdef : defOf q r.name = some (d, kwd)) (hp : r.prog.theDef r.name = some (d.params, d.body, d.scope)) (hk : kwWritten? d.params.kwonlyargs d.params.kw_defaults = some kwd) (hRf : ∀ s, Xt s = true → RecFacts r.records s.heap) (hwr : (!r.writes || r.records.isEmpty) = true)
    (k1 : r.wellSaid = true) (ok : (chainsOk q && opensWell r.prog && (frees r.toRowW && r.within.isEmpty)) = true) (hb : r.prog.bare) (hw : r.toRowW.promised)
    (call : WalkON q loose XP YP r.toRowW d kwd) (hfen : ∀ s, fenceModules? r.prog s = some s := by intro _; rfl) : r.Holds := by
  refine cps fun C₀ hC₀ => ?_
  obtain ⟨ok1, ok2⟩ := Bool.and_eq_true_iff.mp ok
  obtain ⟨hch, o1⟩ := Bool.and_eq_true_iff.mp ok1
  obtain ⟨kf, kw⟩ := Bool.and_eq_true_iff.mp ok2
  obtain ⟨hsame, hu, ha, hap, hm⟩ := frees_parts kf
  have hwi : r.toRowW.claim.within = [] := List.isEmpty_iff.mp kw
  have hi := ident_freeW hu ha hap
  refine hC₀ ⟨k1, hw, ⟨hb, o1, by show r.toRowW.makers.map _ = []; rw [hm]; rfl⟩, hw.witness, fun w => ?_⟩
  have B := (left_toks hfen left).behind (XP := fun mg h => XP mg h ∧ RecFacts r.records h) (fun s hs => ⟨hX s hs, hRf s hs⟩) hch w
  refine ⟨B.1, fun sE hE => ?_⟩
  refine cps fun C hC => ?_
  obtain ⟨s₀, hf, hg0, s, hT, hz, hgens, hg, G00, y⟩ := B.2 sE hE
  have G0 : Ground q loose [] XP w s (s.heap.nsMap mainGlobals) (s.heap.nsMap builtinsNs) s.heap := ⟨G00.T, G00.B, G00.D, G00.TE, G00.TD, G00.W, G00.X.1, G00.cls, G00.has, G00.apart, G00.once, G00.K⟩
  have RF := G00.X.2
  have G := RF.ground G0
  have hgens' : s.gens = #[] := Array.eq_empty_of_size_eq_zero (beq_iff_eq.mp hgens)
  refine hC ⟨s₀, hf, hg0, s, hT, fun n hn => ?_, RF.1, RF.2.1, fun args hpre hlay ord hord => ?_⟩
  · obtain rfl : n = r.name := pin_mem hn
    exact pinned_of_view hg G0 hdef hp hk
  · refine cps fun C' hC' => ?_
    obtain ⟨⟨vs, s₁⟩, hlaid⟩ := Option.isSome_iff_exists.mp (layAllW_isSome (P := w.params) (ord := ord) G.has args r.toRowW.args s (pre_splitW hpre).1)
    have keeps := layAllW_keeps _ _ _ hlaid
    have hal := layAllW_rest _ _ _ hlaid
    obtain ⟨as, hrd, hin, hold⟩ := reads_layAllW hord _ _ _ hlaid hlay s₁.heap (fun _ _ e => e)
    have L : Laid r.records w s s₁ args vs as := ⟨⟨ord, hord, hlaid⟩, hrd, hin, hold, keeps, hal.1.trans hgens', hal.2.2.1⟩
    have G₁ := G.keeps hXk keeps
    obtain ⟨a, o, pm, cd, doc, dV, kV, h1, h2, h3, h4, h5⟩ := G₁.fn hdef
    obtain ⟨y1, y2⟩ := Prod.mk.inj y
    have htk : 1 ≤ s₁.toks := Nat.le_trans (of_decide_eq_true y2) (layAllW_grows _ _ _ hlaid).toks
    have walk := call w s s₁ _ _ G₁ (hYk _ _ _ (hY w s y1) keeps) a o pm cd doc dV kV h2 h3 h4 h5 (defOf_name hdef ▸ h1) L.gens htk args vs as hpre hlay L.reads (well_layAllW hord args s _ hlaid _ fun _ _ e => e) (L.low G.low)
    have tree : wpN (model r.prog w) callerA (do match ← PySem.nsGet mainNs r.name with
          | some f => do ret (← PySem.call f vs)
          | none => unsupported "claim.caller:no-such-global")
        (fun fin s' => ∃ f, fin = .done f ∧ (GoodWG r.toRowW.claim (classAt s.heap) (ExcName.means s.heap) args s₁ (.ok f) s' ∧ AllBare s'.gens)) (fun e s' => GoodWG r.toRowW.claim (classAt s.heap) (ExcName.means s.heap) args s₁ (.error e) s' ∧ AllBare s'.gens) s₁ :=
      wpN.nsGet G₁.T.g h1 (.bind (walk.mono (fun v s' g => .pure ⟨_, rfl, g, g.2.2.2⟩) fun e s' g => ⟨g, g.2.2.2⟩))
    obtain ⟨k, res, sA, sB, hsched, hrun, hfo, g⟩ := thread_endsN (Shared.asleep_of_life hal.2.2.2 hz) tree
    obtain ⟨eh, _, _, eo, _⟩ := Shared.forget_eq hfo
    have z := g.laid (c := r.toRowW.claim) hsame hwi hi L
    have ends := z.1.congr eh
    have hos : sB.os = s.os := eo.trans z.2.1
    have hlife : sB.heap.life = s.heap.life := (runN_life _ _ _ hrun).trans hal.2.2.2
    refine hC' ⟨vs, s₁, hlaid, k, _, sB, hsched, ?_, (fun _ i x hx => by rw [hgens'] at hx; simp at hx), (fun q' => ⟨?_, noTable hwr q'⟩), by rw [hlife], Shared.rest_eq hos⟩
    rcases ends with ⟨v, rfl, d1, d2, d3, d4, d5⟩ | ⟨e, ob, cls, rfl, d1, d2, d3, d4, d5⟩
    · exact .inl ⟨v, rfl, d1, d2, d3, fun b o y _ => d4 b o y, d5⟩
    · exact .inr ⟨e, ob, cls, rfl, d1, d2, d3, d4, fun b o y _ => d5 b o y⟩
    · rw [eh]; exact namesKept_of hT hg r.keeps keeps g.2.1.old
end Mine
set_option maxRecDepth 100000
namespace Mine
open _root_.PySem _root_.PySem.W _root_.PySem.Calls _root_.PyProof.Rows

def viewQ : Program := view PySem.Challenge.pw_zo0022_01 [1, 2, 4, 5, 6, 7, 8, 9, 10, 12, 14, 15, 17, 18, 19, 20, 21, 22]
/-- the two defs that hold a def: where their code and their tables stand -/
def fnChk (h : Heap) (x : Str) (c : Addr) : Bool := match h.nsMap mainGlobals x with
  | some (.ref fa) => (match h.get? fa with
    | some o => (match o.data with
      | .func fd => (match fd.code with
        | .ref c' => Nat.beq c' c
        | _ => false)
      | _ => false)
    | none => false)
  | _ => false
def FnAt (h : Heap) (x : Str) (c : Addr) : Prop := ∃ m fa o fd, h.Ns mainGlobals m ∧ m x = some (.ref fa) ∧ h.get? fa = some o ∧ o.data = .func fd ∧ fd.code = .ref c
theorem fn_of_chk {h : Heap} {x : Str} {c : Addr} (hn : h.isNs mainGlobals = true) (e : fnChk h x c = true) : FnAt h x c := by
  unfold fnChk at e
  split at e
  · rename_i fa h1
    split at e
    · rename_i o h2
      split at e
      · rename_i fd h3
        split at e
        · rename_i c' h4
          have : c' = c := Nat.eq_of_beq_eq_true e
          subst this
          exact ⟨_, fa, o, fd, .of_isNs hn, h1, h2, h3, h4⟩
        · cases e
      · cases e
    · cases e
  · cases e
def hdChk (h : Heap) (c P : Addr) : Bool := match h.get? c with
  | some o => codeHdIn [(c, o)] c P
  | none => false
theorem hd_of_chk {h : Heap} {c P : Addr} (e : hdChk h c P = true) : CodeHd h c P := by
  unfold hdChk at e
  split at e
  · rename_i o h1
    refine codeHd_of_K (K := [(c, o)]) (fun a o' hl => ?_) e
    simp only [List.lookup] at hl
    split at hl
    · rename_i hb
      have : a = c := beq_iff_eq.mp hb
      subst this
      cases hl; exact h1
    · cases hl
  · cases e
def tabChk (h : Heap) (P : Addr) : Bool := match h.get? P with
  | some ⟨.none, none, .fields vs, sl⟩ => vs.isEmpty && sl.isEmpty
  | _ => false
theorem tab_of_chk {h : Heap} {P : Addr} (e : tabChk h P = true) : h.get? P = some (tabObj #[]) := by
  unfold tabChk at e
  split at e
  · rename_i vs sl h1
    obtain ⟨e1, e2⟩ := Bool.and_eq_true_iff.mp e
    rw [h1, Array.isEmpty_iff.mp e1, Array.isEmpty_iff.mp e2]
  · cases e
def hookChk (h : Heap) : Bool := h.isNs mainGlobals && fnChk h "_int2digits" 48 && fnChk h "_digits2int" 55 && hdChk h 48 44 && hdChk h 55 51 && tabChk h 44 && tabChk h 51
structure HookP (h : Heap) : Prop where
  f7 : FnAt h "_int2digits" 48
  f8 : FnAt h "_digits2int" 55
  c44 : CodeHd h 48 44
  c51 : CodeHd h 55 51
  t44 : h.get? 44 = some (tabObj #[])
  t51 : h.get? 51 = some (tabObj #[])
theorem hook_of {h : Heap} (e : hookChk h = true) : HookP h := by
  unfold hookChk at e
  simp only [Bool.and_eq_true] at e
  obtain ⟨⟨⟨⟨⟨⟨e0, e1⟩, e2⟩, e3⟩, e4⟩, e5⟩, e6⟩ := e
  exact ⟨fn_of_chk e0 e1, fn_of_chk e0 e2, hd_of_chk e3, hd_of_chk e4, tab_of_chk e5, tab_of_chk e6⟩
theorem FnAt.keeps {h h' : Heap} {x : Str} {c : Addr} (y : FnAt h x c) (k : ∀ b o, h.get? b = some o → h'.get? b = some o) : FnAt h' x c :=
  let ⟨m, fa, o, fd, a, b, d, e⟩ := y; ⟨m, fa, o, fd, a.keeps k, b, k _ _ d, e⟩
theorem HookP.keeps {h h' : Heap} (y : HookP h) (k : ∀ b o, h.get? b = some o → h'.get? b = some o) : HookP h' :=
  ⟨y.f7.keeps k, y.f8.keeps k, y.c44.keeps k, y.c51.keeps k, k _ _ y.t44, k _ _ y.t51⟩
theorem FnAt.at' {h : Heap} {x : Str} {c : Addr} (y : FnAt h x c) {mg : Str → Option Value} (g : h.Ns mainGlobals mg) {a : Addr} {o : Obj} {fd : FuncData} (e1 : mg x = some (.ref a)) (e2 : h.get? a = some o) (e3 : o.data = .func fd) : fd.code = .ref c := by
  obtain ⟨m, fa, o', fd', a1, a2, a3, a4, a5⟩ := y
  have := a1.agree g x
  rw [a2, e1] at this; cases this
  rw [a3] at e2; cases e2
  rw [a4] at e3; cases e3
  exact a5

theorem look1 : looksOpen PySem.Challenge.pw_zo0022_01 = true := by
  unfold looksOpen
  exact look_both (look_both (look_both (look_both (look_both (by decide +kernel) (by decide +kernel)) (by decide +kernel)) (by decide +kernel)) (by decide +kernel)) (by decide +kernel)
theorem part1 : PySem.Challenge.rw_zo0022_01.row.partSaid = true := by
  unfold OpenRow.partSaid
  iterate 13 (refine look_both ?_ (by decide +kernel))
  exact look1
theorem row1 : PySem.Challenge.rw_zo0022_01.row.wellSaid = true := by
  unfold OpenRow.wellSaid
  exact look_both (look_both part1 (by decide +kernel)) (by decide +kernel)
theorem said : PySem.Challenge.rw_zo0022_01.wellSaid = true := by
  unfold OpenLaw.wellSaid
  iterate 18 (refine look_both ?_ (by decide +kernel))
  exact row1
theorem left1 : LeftO PySem.Challenge.pw_zo0022_01 viewQ [] (fun s => xlAt viewQ [] s && recOk [] s) (fun s => hookChk s.heap) (fun _ => true) 1288 := by
  intro w
  kernel_rfl
theorem head (walk : WalkON viewQ [] (XL viewQ []) (fun _ h => HookP h) PySem.Challenge.rw_zo0022_01.row.toRowW ⟨nameAt 22, paramsAt 22, bodyAt 22, scopeAt 22, match defAt 22 with | .FunctionDef _ _ _ _ _ _ _ _ _ p => p | _ => default⟩ []) : PySem.Challenge.rw_zo0022_01.Holds := by
  refine holds_law said fun said' => ?_
  refine holds_openM (q := viewQ) (loose := []) (Xt := fun s => xlAt viewQ [] s && recOk [] s) (XP := XL viewQ []) (Yf := fun s => hookChk s.heap) (Ya := fun _ => true) (YP := fun _ h => HookP h) (N := 1288) left1 (fun w s e => hook_of e) (fun w h h' y k => y.keeps k)
    (fun s e => xl_of s (Bool.and_eq_true_iff.mp e).1) XL.keeps (by kernel_rfl) (by kernel_rfl) (by rfl) (fun s e => recFacts_of (Bool.and_eq_true_iff.mp e).2) (by rfl) said' (look_both (look_both (by decide +kernel) (by decide +kernel)) (by decide +kernel)) ⟨rfl, rfl, rfl, rfl, rfl, by decide +kernel⟩ ?_ walk
  w_witness2
end Mine
set_option maxRecDepth 10000
namespace Mine
open _root_.PySem _root_.PySem.W _root_.PySem.Calls _root_.PyProof.Rows

def posAt (i : Nat) : Pos := match defAt i with
  | .FunctionDef _ _ _ _ _ _ _ _ _ p => p
  | _ => default
def recAt (i : Nat) : DefRec := ⟨nameAt i, paramsAt i, bodyAt i, scopeAt i, posAt i⟩
def biFree (q : Program) (loose : List Str) : Bool := biNames.all fun x => !(startupNames.contains x) && !(loose.contains x) && !(((recsOf q).map (·.name)).contains x) && !(((litsOf q).map (·.1)).contains x) && !(((clssOf q loose).map (·.name)).contains x) && x != "__name__"
theorem gr_of {q : Program} {loose : List Str} {mean : ExcName → Option Value} {mg mb : Str → Option Value} {h : Heap} (T : Top q loose mean mg mb h) (hq : recsOf q = defIdx.map recAt) (hv : valOf q "_DIV_LIMIT" = some (.int 4000)) (hbi : biFree q loose = true)
    (h7 : ∀ a o fd, mg (nameAt 7) = some (.ref a) → h.get? a = some o → o.data = .func fd → ∃ c, fd.code = .ref c ∧ CodeHd h c 44) (h8 : ∀ a o fd, mg (nameAt 8) = some (.ref a) → h.get? a = some o → o.data = .func fd → ∃ c, fd.code = .ref c ∧ CodeHd h c 51) : Gr h mg mb where
  gnd := ⟨T.g, T.b, T.nolimit⟩
  fn := fun i hi => by
    have hmem : recAt i ∈ recsOf q := hq ▸ List.mem_map.mpr ⟨i, hi, rfl⟩
    obtain ⟨a, o, pm, code, doc, e1, e2, e3, e4⟩ := T.fn _ hmem
    obtain ⟨a', o', fd, c, P, t1, t2, t3, t4, t5, t6⟩ := T.tab _ hmem
    rw [e1] at t1; cases t1
    rw [e2] at t2; cases t2
    rw [e3] at t3; cases t3
    obtain ⟨c', oc, vs, tq, f1, f2, f3, f4⟩ := e4
    have hcc : c' = c := by
      have : Value.ref c' = Value.ref c := f1.symm.trans t4
      cases this; rfl
    subst hcc
    obtain ⟨⟨oc', vs', g1, g2, g3, g4⟩, _⟩ := t6
    rw [f2] at g1; cases g1
    refine ⟨a, o, pm, code, doc, e1, e2, e3, ⟨c', oc, vs, tq, f1, f2, g2, f3, f4⟩, fun hi7 => ?_, fun hi8 => ?_⟩
    · subst hi7; exact h7 a o _ e1 e2 e3
    · subst hi8; exact h8 a o _ e1 e2 e3
  bi := fun x hx => by
    have hb := List.all_eq_true.mp hbi x hx
    simp only [Bool.and_eq_true, Bool.not_eq_true', bne_iff_ne] at hb
    obtain ⟨⟨⟨⟨⟨b1, b2⟩, b3⟩, b4⟩, b5⟩, b6⟩ := hb
    have nm : ∀ {l : List Str}, l.contains x = false → x ∉ l := fun hl hm => by rw [List.contains_iff_mem.mpr hm] at hl; cases hl
    exact ⟨T.free x (nm b1) (nm b2) (nm b3) (nm b4) (nm b5), T.builtins x b6⟩
  bm := T.bmain
  dl := by
    obtain ⟨v, hv', hr⟩ := T.const _ _ hv
    have := hr h
    cases this
    exact ⟨_, hv'⟩

theorem plain_list {P : Params} {h : Heap} {a : Addr} {vs : List Value} {ns : List Int} (hl : h.IsList a vs.toArray) (hi : IntsAre vs ns) (hw : Well P h (.ref a) (ofPy (.list (ns.map PyData.int)))) : h.PlainList a vs.toArray := by
  cases hw with
  | list hg _ =>
    obtain ⟨o, e1, _, n, e3⟩ := hl
    rw [hg] at e1
    cases e1
    injection e3 with e4 _
    exact ⟨_, by rw [hg, e4]⟩
theorem ints_rs {prog : Program} {w : World} {h : Heap} {X : List Addr} : ∀ {vs : List Value} {ns : List Int}, IntsAre vs ns → Rs prog w h X vs (ns.map T.int) := fun {vs ns} hi => by
  induction hi with
  | nil => exact .nil
  | cons _ _ _ ih => exact .cons (.int _ _) ih

theorem room_caller : Room callerA 41 := ⟨rfl, by decide +kernel, by decide +kernel⟩

def Plain : Prop := ∀ xs : List Int, xs.length ≤ 63 → ∃ (first second root : Int) (n M W dg gN q b : Nat) (parts : List (Int × Int)) (row rowQ : List Nat) (words spans : List (List Nat)),
  Law0 xs first second root n M W parts ∧ Law1 second root n M W dg gN q parts row rowQ words spans ∧ Law2 n M dg row spans ∧ Law3 xs first n M b q words (spans.map List.reverse)

set_option maxHeartbeats 8000000 in
set_option maxRecDepth 100000 in
theorem whole (plain : Plain) : PySem.Challenge.rw_zo0022_01.Holds := by
  refine head ?_
  intro w s₀ s₁ mg mb G Y fa o pm cd doc dV kV ho hd hcd hD hmg hg htk args vals as hpre hlay hrd hwl hlo
  have T := Ground.T G
  have GR : Gr s₁.heap mg mb := gr_of T (by kernel_rfl) (by kernel_rfl) (by decide +kernel)
    (fun a o fd e1 e2 e3 => ⟨48, Y.f7.at' T.g e1 e2 e3, Y.c44⟩) (fun a o fd e1 e2 e3 => ⟨55, Y.f8.at' T.g e1 e2 e3, Y.c51⟩)
  have h44 := Y.t44
  have h51 := Y.t51
  have c44 := Y.c44
  have c51 := Y.c51
  have ti : TI s₁.heap := fun e he => by
    simp only [tlG, List.mem_cons, List.not_mem_nil, or_false] at he
    rcases he with rfl | rfl
    · exact .inl h44
    · exact .inl h51
  clear hD hd hcd Y
  wrow_args hpre hlay hrd hwl hlo
  rename_i ns _ _ _ _ _ _ _ A1 vs1 _ hL _ hWell _ hI _ hlt _
  have hlen : ns.length ≤ 63 := by omega
  obtain ⟨first, second, root, n, M, W, dg, gN, q, b, parts, row, rowQ, words, spans, P0, P1, P2, P3⟩ := plain ns hlen
  obtain ⟨fa', of, fd, e1, e2, e3, hcall⟩ := law_ok (prog := PySem.Challenge.rw_zo0022_01.row.prog) (w := w) (A := callerA) (m := 0) GR room_caller rfl P0 P1 P2 P3
  have efa : fa' = fa := by
    have e4 : mg (nameAt 22) = some (.ref fa) := hmg
    rw [e1] at e4; cases e4; rfl
  subst efa
  refine hcall s₁ [] [.ref A1] _ _ (fun _ _ _ e => e) (.cons (.list (List.not_mem_nil) (plain_list hL hI hWell) (ints_rs hI)) .nil) List.nodup_nil (fun _ h => nomatch h) htk ti fun v s' k r => ?_
  cases r with
  | bool _ =>
  obtain ⟨h', tk, rfl, keep, tinv⟩ := k
  have ti' := tinv ti
  have old : ∀ b o, b ≠ 44 → b ≠ 51 → s₁.heap.get? b = some o → h'.get? b = some o := fun b o n1 n2 e => keep b o (.inl ⟨n1, n2⟩) e
  have tabs : ∀ b o, (b = 44 ∨ b = 51) → s₁.heap.get? b = some o → isCodeTable s₁.heap b ∧ o = tabObj #[] ∧ ∃ ps, h'.get? b = some (tabObj ps) := fun b o hb e => by
    rcases hb with rfl | rfl
    · rw [h44] at e; cases e
      refine ⟨(c44.tab h44).isCodeTable, rfl, ?_⟩
      rcases ti' _ (.head _) with hh | ⟨c, hh, _⟩ <;> exact ⟨_, hh⟩
    · rw [h51] at e; cases e
      refine ⟨(c51.tab h51).isCodeTable, rfl, ?_⟩
      rcases ti' _ (.tail _ (.head _)) with hh | ⟨c, hh, _⟩ <;> exact ⟨_, hh⟩
  refine ⟨.inl ⟨.bool true, .bool true, [], rfl, fun _ => rfl, .bool true, by with_unfolding_all rfl, fun _ => ⟨List.nodup_nil, fun _ h => nomatch h⟩⟩, ⟨fun b o e => ?_, fun b o e => ?_⟩, rfl, .of_eq hg⟩
  · by_cases hb : b = 44 ∨ b = 51
    · obtain ⟨ht, rfl, ps, hP⟩ := tabs b o hb e
      exact .inr (.inl ⟨ht, rfl, #[], ps, rfl, by rw [Array.empty_append]; exact hP⟩)
    · exact .inl (old b o (fun q => hb (.inl q)) (fun q => hb (.inr q)) e)
  · by_cases hb : b = 44 ∨ b = 51
    · obtain ⟨_, _, ps, hP⟩ := tabs b o hb e
      exact ⟨_, hP⟩
    · exact ⟨o, old b o (fun q => hb (.inl q)) (fun q => hb (.inr q)) e⟩
end Mine

set_option Elab.async false in
theorem PySem.Challenge.cw_zo0022_01_holds : PySem.Challenge.rw_zo0022_01.Holds := by
  exact Mine.whole Mine.plain_law
