import PyProof.Rows.All
import Wide.All
import OpenK.AllK
import Wide.FinOn
import PySem.Challenge.RW_pe0116_03
set_option Elab.async false
set_option maxRecDepth 100000
set_option linter.unusedVariables false
set_option linter.unusedSimpArgs false
namespace Mine
open PySem PySem.Calls PySem.W PyProof.Rows

/-- everything is kept -/
def Full (h h' : Heap) : Prop := ∀ b o, h.get? b = some o → h'.get? b = some o
theorem Full.refl (h : Heap) : Full h h := fun _ _ e => e
theorem Full.trans {h h' h'' : Heap} (a : Full h h') (b : Full h' h'') : Full h h'' := fun x o e => b x o (a x o e)
theorem Full.push (h : Heap) (o : Obj) : Full h (h.push o) := fun _ _ e => Heap.get?_push_of_some o e

structure Cfg where
  prog : Program
  w : World
  g : Heap
  K : Frag
  mg : Str → Option Value
  mb : Str → Option Value
  T : List Addr
  Tab : Heap → Prop
  kIn : K.In g
  gNs : g.Ns mainGlobals mg
  bNs : g.Ns builtinsNs mb
  lim : g.NoLimit
  bin : ∀ x : Str, x ≠ "__name__" → mb x = bootBuiltins x
  tNone : ∀ t ∈ T, g.get? t = none
  tabAt : ∀ h, Tab h → ∀ t ∈ T, ∃ o vs, h.get? t = some o ∧ o.cls = .none ∧ o.data = .fields vs
  tabKeep : ∀ h h', Tab h → (∀ b o vs, h.get? b = some o → o.data = .fields vs → (o.cls = .none ∨ o.cls = .type "code") → h'.get? b = some o) → Tab h'

theorem Cfg.tabFull (C : Cfg) (h h' : Heap) (t : C.Tab h) (f : Full h h') : C.Tab h' := C.tabKeep h h' t fun b o _ e _ _ => f b o e
theorem Cfg.tabBut (C : Cfg) (h h' : Heap) (a : Addr) (oa : Obj) (t : C.Tab h) (ha : h.get? a = some oa) (hd : (∀ vs, oa.data ≠ .fields vs) ∨ (oa.cls ≠ .none ∧ oa.cls ≠ .type "code"))
    (hk : ∀ b o, b ≠ a → h.get? b = some o → h'.get? b = some o) : C.Tab h' := C.tabKeep h h' t fun b o vs e d c => hk b o (fun q => by
  rw [q, ha] at e; cases e
  rcases hd with hd | ⟨h1, h2⟩
  · exact hd _ d
  · rcases c with c | c
    · exact h1 c
    · exact h2 c) e

variable {C : Cfg}

abbrev Cfg.M (C : Cfg) : Model := model C.prog C.w

/-- the same, but for the slots of a frame's names -/
def Sim (o o' : Obj) : Prop := o' = o ∨ (∃ es ep, o.data = .dict es ep) ∧ ∃ sl, o' = { o with slots := sl }
theorem Sim.refl (o : Obj) : Sim o o := .inl rfl
theorem Sim.trans {a b c : Obj} (h : Sim a b) (h' : Sim b c) : Sim a c := by
  rcases h with rfl | ⟨hd, sl, rfl⟩
  · exact h'
  · rcases h' with rfl | ⟨_, sl', rfl⟩
    · exact .inr ⟨hd, sl, rfl⟩
    · exact .inr ⟨hd, sl', rfl⟩
theorem Sim.data {a b : Obj} (h : Sim a b) : b.data = a.data := by rcases h with rfl | ⟨_, _, rfl⟩ <;> rfl
theorem Sim.eq {a b : Obj} (h : Sim a b) (hd : ∀ es ep, a.data ≠ .dict es ep) : b = a := by
  rcases h with e | ⟨⟨es, ep, q⟩, _⟩
  · exact e
  · exact absurd q (hd es ep)

def Kp (C : Cfg) (h h' : Heap) : Prop := ∀ b o, b ∉ C.T → h.get? b = some o → ∃ o', h'.get? b = some o' ∧ Sim o o'
theorem Kp.refl (h : Heap) : Kp C h h := fun _ o _ e => ⟨o, e, .refl o⟩
theorem Kp.trans {h h' h'' : Heap} (a : Kp C h h') (b : Kp C h' h'') : Kp C h h'' := fun x o n e => let ⟨o1, e1, s1⟩ := a x o n e; let ⟨o2, e2, s2⟩ := b x o1 n e1; ⟨o2, e2, s1.trans s2⟩
theorem Full.kp {h h' : Heap} (a : Full h h') : Kp C h h' := fun x o _ e => ⟨o, a x o e, .refl o⟩
theorem Kp.ex {h h' : Heap} (k : Kp C h h') {b : Addr} {o : Obj} (n : b ∉ C.T) (e : h.get? b = some o) (hd : ∀ es ep, o.data ≠ .dict es ep) : h'.get? b = some o := by
  obtain ⟨o', e', s⟩ := k b o n e
  rw [e', s.eq hd]
/-- what a change at one address leaves of it -/
theorem Kp.but {h h' h'' : Heap} (k : Kp C h h') {a : Addr} (ha : h.get? a = none) (hk : ∀ b o, b ≠ a → h'.get? b = some o → h''.get? b = some o) : Kp C h h'' := fun b o n e => by
  obtain ⟨o', e', s⟩ := k b o n e
  exact ⟨o', hk b o' (fun q => by rw [q, ha] at e; cases e) e', s⟩

structure Ok (C : Cfg) (h : Heap) : Prop where
  up : Full C.g h
  tab : C.Tab h

theorem Ok.full {h h' : Heap} (o : Ok C h) (f : Full h h') : Ok C h' := ⟨o.up.trans f, C.tabFull _ _ o.tab f⟩
theorem Ok.notT {h : Heap} (o : Ok C h) {a : Addr} {ob : Obj} (e : h.get? a = some ob) (hc : ob.cls ≠ .none) : a ∉ C.T := fun ht => by
  obtain ⟨o', vs, e', hc', _⟩ := C.tabAt h o.tab a ht
  rw [e] at e'; cases e'; exact hc hc'
theorem Ok.notT' {h : Heap} (o : Ok C h) {a : Addr} {ob : Obj} (e : h.get? a = some ob) (hc : ∀ vs, ob.data ≠ .fields vs) : a ∉ C.T := fun ht => by
  obtain ⟨o', vs, e', _, hc'⟩ := C.tabAt h o.tab a ht
  rw [e] at e'; cases e'; exact hc _ hc'

/-- pure values -/
inductive PV where
  | none
  | int (i : Int)
  | bool (b : Bool)
  | bytes (b : List UInt8)
  | il (xs : List Int)
  | it (xs : List Int)
  | tl (xss : List (List Int))
  | own (a : Addr) (xs : List Int)
  | rg (a b c : Int)
  | fn (a : Addr) (fd : FuncData)

def PTup (h : Heap) (a : Addr) (items : Array Value) : Prop := ∃ n, h.get? a = some { cls := .type "tuple", dict := Option.none, data := .seq items n, slots := #[] }
theorem PTup.isTup {h : Heap} {a : Addr} {items : Array Value} (x : PTup h a items) : IsTup h a items := let ⟨n, e⟩ := x; ⟨_, e, rfl, n, rfl⟩
def RepTup (h : Heap) (v : Value) (xs : List Int) : Prop := ∃ a vs, v = .ref a ∧ PTup h a vs.toArray ∧ IntsAre vs xs

inductive AllTup (h : Heap) : List Value → List (List Int) → Prop
  | nil : AllTup h [] []
  | cons {v vs xs xss} : RepTup h v xs → AllTup h vs xss → AllTup h (v :: vs) (xs :: xss)

/-- a function made in a frame, and its code -/
def FnObj (h : Heap) (a : Addr) (fd : FuncData) : Prop := (∃ d sl, h.get? a = some ⟨.type "function", d, .func fd, sl⟩) ∧ ∃ c d vs sl t, fd.code = .ref c ∧ h.get? c = some ⟨.type "code", d, .fields vs, sl⟩ ∧ vs[1]? = some (.str fd.qualname t)
theorem FnObj.rec {h : Heap} {a : Addr} {fd : FuncData} (f : FnObj h a fd) : h.CodeRec fd.code fd.qualname := let ⟨_, c, _, vs, _, t, e, g, r⟩ := f; ⟨c, _, vs, t, e, g, rfl, r⟩

def Rep (X : List Addr) (h : Heap) (v : Value) : PV → Prop
  | .none => v = .none
  | .int i => ∃ t, v = .int i t
  | .bool b => v = .bool b
  | .bytes b => ∃ t, v = .bytes b.toArray t
  | .il xs => ∃ a vs, v = .ref a ∧ a ∉ X ∧ h.PlainList a vs.toArray ∧ IntsAre vs xs
  | .it xs => RepTup h v xs
  | .tl xss => ∃ a vs, v = .ref a ∧ a ∉ X ∧ h.PlainList a vs.toArray ∧ AllTup h vs xss
  | .own a xs => ∃ vs, v = .ref a ∧ a ∈ X ∧ h.PlainList a vs.toArray ∧ IntsAre vs xs
  | .rg a b c => ∃ r t u w, v = .ref r ∧ IsRange h r a b c t u w
  | .fn a fd => v = .ref a ∧ FnObj h a fd

end Mine
namespace Mine
open PySem PySem.Calls PySem.W PyProof.Rows
variable {C : Cfg}

inductive IsVal : Obj → Prop
  | seq {c : String} {d : Option Addr} {its : Array Value} {n : Nat} {sl : Array (Option Value)} : IsVal ⟨.type c, d, .seq its n, sl⟩
  | range {d : Option Addr} {vs : Array Value} {sl : Array (Option Value)} : IsVal ⟨.type "range", d, .fields vs, sl⟩
  | func {d : Option Addr} {fd : FuncData} {sl : Array (Option Value)} : IsVal ⟨.type "function", d, .func fd, sl⟩
  | code {d : Option Addr} {vs : Array Value} {sl : Array (Option Value)} : IsVal ⟨.type "code", d, .fields vs, sl⟩
theorem isValL {c : String} {d : Option Addr} {its : Array Value} {n : Nat} {sl : Array (Option Value)} : IsVal ⟨.type c, d, .seq its n, sl⟩ := .seq
theorem isValR {d : Option Addr} {its : Array Value} {sl : Array (Option Value)} : IsVal ⟨.type "range", d, .fields its, sl⟩ := .range
theorem IsVal.cls {o : Obj} (h : IsVal o) : o.cls ≠ .none := by cases h <;> nofun
def isFn : Data → Bool
  | .func _ => true
  | _ => false
/-- an object that bears no pure value, no table and no code -/
structure Aside (o : Obj) : Prop where
  ns : ∀ its n, o.data ≠ .seq its n
  nfn : isFn o.data = false
  nf : (∀ vs, o.data ≠ .fields vs) ∨ (o.cls ≠ .none ∧ o.cls ≠ .type "code" ∧ o.cls ≠ .type "range")
theorem Aside.tab {o : Obj} (h : Aside o) : (∀ vs, o.data ≠ .fields vs) ∨ (o.cls ≠ .none ∧ o.cls ≠ .type "code") := h.nf.imp id fun q => ⟨q.1, q.2.1⟩
theorem Aside.dict {o : Obj} {es ep} (h : o.data = .dict es ep) : Aside o := ⟨by rw [h]; nofun, by rw [h]; rfl, .inl (by rw [h]; nofun)⟩
theorem Aside.cell {o : Obj} {v} (h : o.data = .cell v) : Aside o := ⟨by rw [h]; nofun, by rw [h]; rfl, .inl (by rw [h]; nofun)⟩
theorem IsVal.nd {o : Obj} (h : IsVal o) : ∀ es ep, o.data ≠ .dict es ep := by cases h <;> nofun
theorem Aside.not {o : Obj} (h : Aside o) (v : IsVal o) : False := by
  cases v with
  | seq => exact h.ns _ _ rfl
  | range => rcases h.nf with q | q
             · exact q _ rfl
             · exact q.2.2 rfl
  | func => exact absurd h.nfn (by nofun)
  | code => rcases h.nf with q | q
            · exact q _ rfl
            · exact q.2.1 rfl
theorem FnObj.keep {h h' : Heap} {a : Addr} {fd : FuncData} (f : FnObj h a fd) (hk : ∀ a o, h.get? a = some o → IsVal o → h'.get? a = some o) : FnObj h' a fd :=
  let ⟨⟨d, sl, e⟩, c, d', vs, sl', t, e1, e2, e3⟩ := f; ⟨⟨d, sl, hk _ _ e .func⟩, c, d', vs, sl', t, e1, hk _ _ e2 .code, e3⟩

theorem AllTup.keep {h h' : Heap} (hk : ∀ a o, h.get? a = some o → IsVal o → h'.get? a = some o) : ∀ {vs xss}, AllTup h vs xss → AllTup h' vs xss
  | _, _, .nil => .nil
  | _, _, .cons ⟨a, vs, e, ⟨n, ho⟩, hi⟩ t => .cons ⟨a, vs, e, ⟨n, hk a _ ho isValL⟩, hi⟩ (AllTup.keep hk t)

theorem Rep.keep {X : List Addr} {h h' : Heap} {v : Value} {pv : PV} (r : Rep X h v pv) (hk : ∀ a o, h.get? a = some o → IsVal o → h'.get? a = some o) : Rep X h' v pv := by
  cases pv with
  | none => exact r
  | int i => exact r
  | bool b => exact r
  | bytes b => exact r
  | il xs => obtain ⟨a, vs, e, hX, ⟨n, ho⟩, hi⟩ := r; exact ⟨a, vs, e, hX, ⟨n, hk a _ ho isValL⟩, hi⟩
  | it xs => obtain ⟨a, vs, e, ⟨n, ho⟩, hi⟩ := r; exact ⟨a, vs, e, ⟨n, hk a _ ho isValL⟩, hi⟩
  | tl xss => obtain ⟨a, vs, e, hX, ⟨n, ho⟩, hi⟩ := r; exact ⟨a, vs, e, hX, ⟨n, hk a _ ho isValL⟩, hi.keep hk⟩
  | own a xs => obtain ⟨vs, e, hX, ⟨n, ho⟩, hi⟩ := r; exact ⟨vs, e, hX, ⟨n, hk a _ ho isValL⟩, hi⟩
  | rg a b c => obtain ⟨r, t, u, w, e, hr⟩ := r; exact ⟨r, t, u, w, e, hk _ _ hr isValR⟩
  | fn a fd => exact ⟨r.1, r.2.keep hk⟩


theorem Rep.but {X : List Addr} {h h' : Heap} {v : Value} {pv : PV} {a : Addr} {oa : Obj} (r : Rep X h v pv) (ha : h.get? a = some oa) (hd : Aside oa) (hk : ∀ b o, b ≠ a → h.get? b = some o → h'.get? b = some o) : Rep X h' v pv :=
  r.keep fun b o e hv => hk b o (fun q => by rw [q, ha] at e; cases e; exact hd.not hv) e

theorem Rep.kp {X : List Addr} {h h' : Heap} {v : Value} {pv : PV} (r : Rep X h v pv) (o : Ok C h) (k : Kp C h h') : Rep X h' v pv :=
  r.keep fun a ob e hv => k.ex (o.notT e hv.cls) e hv.nd

/-- one list, owned, changes -/
theorem Rep.mut {X : List Addr} {h h' : Heap} {v : Value} {pv : PV} {x : Addr} {its : Array Value} (r : Rep X h v pv) (hx : h.IsList x its) (hX : x ∈ X) (hp : ∀ xs, pv ≠ .own x xs)
    (hk : ∀ a o, a ≠ x → IsVal o → h.get? a = some o → h'.get? a = some o) : Rep X h' v pv := by
  obtain ⟨ox, hox, hcx, _⟩ := hx
  have tp : ∀ a o, h.get? a = some o → IsVal o → o.cls ≠ .type "list" → h'.get? a = some o := fun a o e hv hc => hk a o (fun q => by rw [q, hox] at e; cases e; exact hc hcx) hv e
  have tps : ∀ {vs xss}, AllTup h vs xss → AllTup h' vs xss := fun {vs xss} t => by
    induction t with
    | nil => exact .nil
    | cons ht _ ih => obtain ⟨a, vs, e, ⟨n, ho⟩, hi⟩ := ht; exact .cons ⟨a, vs, e, ⟨n, tp a _ ho isValL (by show Value.type "tuple" ≠ _; decide)⟩, hi⟩ ih
  cases pv with
  | none => exact r
  | int i => exact r
  | bool b => exact r
  | bytes b => exact r
  | il xs => obtain ⟨a, vs, e, hX', ⟨n, ho⟩, hi⟩ := r; exact ⟨a, vs, e, hX', ⟨n, hk a _ (fun q => hX' (q ▸ hX)) isValL ho⟩, hi⟩
  | it xs => obtain ⟨a, vs, e, ⟨n, ho⟩, hi⟩ := r; exact ⟨a, vs, e, ⟨n, tp a _ ho isValL (by show Value.type "tuple" ≠ _; decide)⟩, hi⟩
  | tl xss => obtain ⟨a, vs, e, hX', ⟨n, ho⟩, hi⟩ := r; exact ⟨a, vs, e, hX', ⟨n, hk a _ (fun q => hX' (q ▸ hX)) isValL ho⟩, tps hi⟩
  | own a xs => obtain ⟨vs, e, hX', ⟨n, ho⟩, hi⟩ := r; exact ⟨vs, e, hX', ⟨n, hk a _ (fun q => hp xs (by rw [q])) isValL ho⟩, hi⟩
  | rg a b c => obtain ⟨r, t, u, w, e, hr⟩ := r; exact ⟨r, t, u, w, e, tp _ _ hr isValR (by show Value.type "range" ≠ _; decide)⟩
  | fn a fd =>
    obtain ⟨e, ⟨d, sl, e0⟩, c, d', vs, sl', t, e1, e2, e3⟩ := r
    exact ⟨e, ⟨d, sl, tp _ _ e0 .func (by show Value.type "function" ≠ _; decide)⟩, c, d', vs, sl', t, e1, tp _ _ e2 .code (by show Value.type "code" ≠ _; decide), e3⟩

def LiveO (C : Cfg) (X : List Addr) (h : Heap) : Prop := ∀ a ∈ X, a ∉ C.T ∧ ∃ its, h.PlainList a its
theorem LiveO.kp {X : List Addr} {h h' : Heap} (l : LiveO C X h) (k : Kp C h h') : LiveO C X h' := fun a ha => ⟨(l a ha).1, let ⟨its, n, e⟩ := (l a ha).2; ⟨its, n, k.ex (l a ha).1 e (by nofun)⟩⟩
theorem LiveO.fresh {X : List Addr} {h : Heap} (l : LiveO C X h) {a : Addr} (e : h.get? a = none) : a ∉ X := fun ha => by obtain ⟨_, its, n, e'⟩ := l a ha; rw [e] at e'; cases e'
theorem LiveO.nil {h : Heap} : LiveO C [] h := fun _ ha => nomatch ha

theorem ns_sim {h h' : Heap} {a : Addr} {m : Str → Option Value} (n : h.Ns a m) (k : ∀ o, h.get? a = some o → ∃ o', h'.get? a = some o' ∧ Sim o o') : h'.Ns a m := by
  obtain ⟨o, es, ep, e, d, r⟩ := n
  obtain ⟨o', e', s⟩ := k o e
  exact ⟨o', es, ep, e', s.data.trans d, r⟩
/-- the frames that stand below -/
def FrAt (C : Cfg) (h : Heap) (e : Env) : Prop := e.scope.kind = .function ∧ ∃ L m, e.frame = some L ∧ C.g.get? L = none ∧ L ∉ C.T ∧ h.Ns L m
theorem FrAt.kp {h h' : Heap} {e : Env} (f : FrAt C h e) (k : Kp C h h') : FrAt C h' e :=
  let ⟨hk, L, m, h1, h2, h3, h4⟩ := f; ⟨hk, L, m, h1, h2, h3, ns_sim h4 fun o e => k L o h3 e⟩
def Stk (C : Cfg) (A : Around) (h : Heap) : Prop := ∃ l, A.frames = some l ∧ ∀ e ∈ l, FrAt C h e
theorem Stk.kp {A : Around} {h h' : Heap} (f : Stk C A h) (k : Kp C h h') : Stk C A h' := let ⟨l, e, r⟩ := f; ⟨l, e, fun x hx => (r x hx).kp k⟩
structure Live (C : Cfg) (A : Around) (X : List Addr) (h : Heap) : Prop where
  lo : LiveO C X h
  stk : Stk C A h
theorem Live.kp {A : Around} {X : List Addr} {h h' : Heap} (l : Live C A X h) (k : Kp C h h') : Live C A X h' := ⟨l.lo.kp k, l.stk.kp k⟩
theorem Live.fresh {A : Around} {X : List Addr} {h : Heap} (l : Live C A X h) {a : Addr} (e : h.get? a = none) : a ∉ X := l.lo.fresh e

def Var (env : Env) (h : Heap) (x : Str) (v : Value) : Prop :=
  (env.kindOf x = some .local ∧ ∃ m, h.Ns env.locals m ∧ m x = some v) ∨
  ((env.kindOf x = some .cell ∨ env.kindOf x = some .free) ∧ ∃ c, env.cells.lookup x = some c ∧ h.IsCell c (some v))

structure Cx (env : Env) (X : List Addr) (ρ : List (Str × PV)) (h : Heap) : Prop where
  fn : env.scope.kind = .function
  glob : env.globals = mainGlobals
  blt : env.builtins = builtinsNs
  var : ∀ x pv, ρ.lookup x = some pv → ∃ v, Var env h x v ∧ Rep X h v pv

theorem Ok.ns {h h' : Heap} (o : Ok C h) (k : Kp C h h') {a : Addr} {m : Str → Option Value} (n : h.Ns a m) : h'.Ns a m := by
  have n' := n
  obtain ⟨ob, es, ep, e, d, r⟩ := n'
  exact ns_sim n fun o' e' => k a o' (o.notT' e (by rw [d]; nofun)) e'
theorem Ok.cell {h h' : Heap} (o : Ok C h) (k : Kp C h h') {a : Addr} {v : Option Value} (n : h.IsCell a v) : h'.IsCell a v := by
  obtain ⟨ob, e, d⟩ := n
  exact ⟨ob, k.ex (o.notT' e (by rw [d]; nofun)) e (by rw [d]; nofun), d⟩
theorem Var.kp {env : Env} {h h' : Heap} {x : Str} {v : Value} (r : Var env h x v) (o : Ok C h) (k : Kp C h h') : Var env h' x v := by
  rcases r with ⟨a, m, n, b⟩ | ⟨a, c, n, b⟩
  · exact .inl ⟨a, m, o.ns k n, b⟩
  · exact .inr ⟨a, c, n, o.cell k b⟩
theorem Cx.kp {env : Env} {X : List Addr} {ρ : List (Str × PV)} {h h' : Heap} (c : Cx env X ρ h) (o : Ok C h) (k : Kp C h h') : Cx env X ρ h' :=
  ⟨c.fn, c.glob, c.blt, fun x pv e => let ⟨v, a, b⟩ := c.var x pv e; ⟨v, a.kp o k, b.kp o k⟩⟩

def Ev (C : Cfg) (A : Around) (env : Env) (X : List Addr) (ρ : List (Str × PV)) (e : Expr) (pv : PV) : Prop :=
  ∀ (s : Shared) (Q : Value → Shared → Prop) (E : Value → Shared → Prop), Cx env X ρ s.heap → Ok C s.heap → Live C A X s.heap →
    (∀ v h' tk, Kp C s.heap h' → Ok C h' → Rep X h' v pv → Q v { s with heap := h', toks := tk }) → wpAny C.M A (eval e env) Q E s

section
variable {A : Around} {env : Env} {X : List Addr} {ρ : List (Str × PV)}

theorem Ev.name {x : Str} {pos : Pos} {pv : PV} (hx : ρ.lookup x = some pv) (hd : (x == ("__debug__" : Str)) = false := by decide) (hn : (x == ("__classdict__" : Str)) = false := by decide) : Ev C A env X ρ (.Name x pos) pv := by
  intro s Q E c o l k
  obtain ⟨v, hv, r⟩ := c.var x pv hx
  refine wpAny_Name ?_ hd
  rcases hv with ⟨a, m, n, b⟩ | ⟨a | a, cc, n, b⟩
  · exact wpAny_loadName_local c.fn a n b (k v _ _ (Kp.refl _) o r)
  · exact wpAny_loadName_cell c.fn a n b (k v _ _ (Kp.refl _) o r)
  · exact wpAny_loadName_free c.fn a n b (k v _ _ (Kp.refl _) o r) hn

theorem Ev.int {i : Int} {k : Nat} {pos : Pos} : Ev C A env X ρ (.Constant (.int i) k pos) (.int i) :=
  fun _ _ _ _ o _ k => wpAny_Constant_int (k _ _ _ (Kp.refl _) o ⟨_, rfl⟩)
theorem Ev.bool {b : Bool} {k : Nat} {pos : Pos} : Ev C A env X ρ (.Constant (.bool b) k pos) (.bool b) :=
  fun s _ _ _ o _ k => wpAny_Constant_bool (k (.bool b) s.heap s.toks (Kp.refl _) o rfl)
theorem Ev.bytes {b : List UInt8} {k : Nat} {pos : Pos} : Ev C A env X ρ (.Constant (.bytes b) k pos) (.bytes b) :=
  fun _ _ _ _ o _ k => Constant_bytes (k _ _ _ (Kp.refl _) o ⟨_, rfl⟩)

/-- two operands, then an operation on their values -/
def Op2 (C : Cfg) (A : Around) (X : List Addr) (op : Value → Value → Sem Value) (a b r : PV) : Prop :=
  ∀ (s : Shared) (Q : Value → Shared → Prop) (E : Value → Shared → Prop) (x y : Value), Ok C s.heap → Live C A X s.heap → Rep X s.heap x a → Rep X s.heap y b →
    (∀ v h' tk, Kp C s.heap h' → Ok C h' → Rep X h' v r → Q v { s with heap := h', toks := tk }) → wpAny C.M A (op x y) Q E s

theorem Ev.seq2 {l r : Expr} {a b p : PV} {op : Value → Value → Sem Value} (hl : Ev C A env X ρ l a) (hr : Ev C A env X ρ r b) (ho : Op2 C A X op a b p) (s : Shared) (Q : Value → Shared → Prop) (E : Value → Shared → Prop)
    (c : Cx env X ρ s.heap) (o : Ok C s.heap) (lv : Live C A X s.heap) (k : ∀ v h' tk, Kp C s.heap h' → Ok C h' → Rep X h' v p → Q v { s with heap := h', toks := tk }) :
    wpAny C.M A (eval l env) (fun x s₁ => wpAny C.M A (eval r env) (fun y s₂ => wpAny C.M A (op x y) Q E s₂) E s₁) E s :=
  hl s _ E c o lv fun x h₁ tk₁ k₁ o₁ r₁ => hr _ _ E (c.kp o k₁) o₁ (lv.kp k₁) fun y h₂ tk₂ k₂ o₂ r₂ =>
    ho _ Q E x y o₂ ((lv.kp k₁).kp k₂) (r₁.kp o₁ k₂) r₂ fun v h₃ tk₃ k₃ o₃ r₃ => k v h₃ tk₃ ((k₁.trans k₂).trans k₃) o₃ r₃

theorem Ev.binop {l r : Expr} {a b p : PV} {op : Operator} {pos : Pos} (hl : Ev C A env X ρ l a) (hr : Ev C A env X ρ r b) (ho : Op2 C A X (binaryOp op) a b p) : Ev C A env X ρ (.BinOp l op r pos) p :=
  fun s Q E c o lv k => wpAny_BinOp (Ev.seq2 hl hr ho s Q E c o lv k)
theorem Ev.cmp {l r : Expr} {a b p : PV} {op : CmpOp} {pos : Pos} (hl : Ev C A env X ρ l a) (hr : Ev C A env X ρ r b) (ho : Op2 C A X (compareOp op) a b p) (hm : behindInMarks op r = false := by with_unfolding_all rfl) :
    Ev C A env X ρ (.Compare l [op] [r] pos) p :=
  fun s Q E c o lv k => wpAny_Compare1 (Ev.seq2 hl hr ho s Q E c o lv k) hm

theorem Op2.of_int {op : Value → Value → Sem Value} {a b r : Int} (h : ∀ (s : Shared) (Q : Value → Shared → Prop) (E : Value → Shared → Prop) (t u : Tok), Ok C s.heap → (Q (.int r s.toks) { s with toks := s.toks + 1 }) → wpAny C.M A (op (.int a t) (.int b u)) Q E s) :
    Op2 C A X op (.int a) (.int b) (.int r) := by
  rintro s Q E x y o lv ⟨t, rfl⟩ ⟨u, rfl⟩ k
  exact h s Q E t u o (k _ _ _ (Kp.refl _) o ⟨_, rfl⟩)
theorem Op2.of_bool {op : Value → Value → Sem Value} {a b : Int} {r : Bool} (h : ∀ (s : Shared) (Q : Value → Shared → Prop) (E : Value → Shared → Prop) (t u : Tok), (Q (.bool r) s) → wpAny C.M A (op (.int a t) (.int b u)) Q E s) :
    Op2 C A X op (.int a) (.int b) (.bool r) := by
  rintro s Q E x y o lv ⟨t, rfl⟩ ⟨u, rfl⟩ k
  exact h s Q E t u (k (.bool r) s.heap s.toks (Kp.refl _) o rfl)

theorem Op2.add {a b : Int} : Op2 C A X (binaryOp .Add) (.int a) (.int b) (.int (a + b)) := Op2.of_int fun _ _ _ _ _ _ h => P.add_int h
theorem Op2.sub {a b : Int} : Op2 C A X (binaryOp .Sub) (.int a) (.int b) (.int (a - b)) := Op2.of_int fun _ _ _ _ _ _ h => P.sub_int h
theorem Op2.mul {a b : Int} (hm : IntMulOk a b) : Op2 C A X (binaryOp .Mult) (.int a) (.int b) (.int (a * b)) := Op2.of_int fun _ _ _ _ _ _ h => P.mul_int h hm
theorem Op2.eq {a b : Int} : Op2 C A X (compareOp .Eq) (.int a) (.int b) (.bool (a == b)) := Op2.of_bool fun _ _ _ _ _ h => P.eq_int h
theorem Op2.ne {a b : Int} : Op2 C A X (compareOp .NotEq) (.int a) (.int b) (.bool (a != b)) := Op2.of_bool fun _ _ _ _ _ h => P.ne_int h
theorem Op2.lt {a b : Int} : Op2 C A X (compareOp .Lt) (.int a) (.int b) (.bool (decide (a < b))) := Op2.of_bool fun _ _ _ _ _ h => P.lt_int h
theorem Op2.le {a b : Int} : Op2 C A X (compareOp .LtE) (.int a) (.int b) (.bool (decide (a ≤ b))) := Op2.of_bool fun _ _ _ _ _ h => P.le_int h
theorem Op2.gt {a b : Int} : Op2 C A X (compareOp .Gt) (.int a) (.int b) (.bool (decide (a > b))) := Op2.of_bool fun _ _ _ _ _ h => P.gt_int h
theorem Op2.ge {a b : Int} : Op2 C A X (compareOp .GtE) (.int a) (.int b) (.bool (decide (a ≥ b))) := Op2.of_bool fun _ _ _ _ _ h => P.ge_int h
end

end Mine
namespace Mine
open PySem PySem.Calls PySem.W PyProof.Rows
variable {C : Cfg}

structure Room (A : Around) (d : Nat) : Prop where
  hd : A.handled = none
  dp : A.depth + d ≤ 800
  un : A.units + 10 * d ≤ 8000

theorem Room.deeper {A : Around} {d : Nat} (r : Room A (d + 1)) (env : Env) : Room (A.deeper env) d :=
  ⟨r.hd, by have := r.dp; show A.depth + 1 + d ≤ 800; omega, by have := r.un; show A.units + 3 + 10 * d ≤ 8000; omega⟩
theorem Room.in1 {A : Around} {d : Nat} (r : Room A (d + 1)) : Room A.in1 d :=
  ⟨r.hd, by have := r.dp; show A.depth + d ≤ 800; omega, by have := r.un; show A.units + 1 + 10 * d ≤ 8000; omega⟩
theorem Room.le {A : Around} {d e : Nat} (r : Room A d) (h : e ≤ d) : Room A e :=
  ⟨r.hd, by have := r.dp; omega, by have := r.un; omega⟩
theorem Room.units {A : Around} {d : Nat} (r : Room A d) : A.units < cLine := by have := r.un; have : cLine = 9900 := rfl; omega
theorem Room.units64 {A : Around} {d : Nat} (r : Room A d) : A.units + 64 < cLine := by have := r.un; have : cLine = 9900 := rfl; omega
theorem Room.depth {A : Around} {d : Nat} (r : Room A d) : A.depth < recursionLimit := by have := r.dp; have : recursionLimit = 1000 := rfl; omega

section
variable {A : Around} {env : Env} {X : List Addr} {ρ : List (Str × PV)}

/-! ints -/
theorem Op2.mod {a b : Int} (hb : b ≠ 0) (hp : Builtin.divisionGoesByPylong a b = false) : Op2 C A X (binaryOp .Mod) (.int a) (.int b) (.int (a.fmod b)) :=
  Op2.of_int fun _ _ _ _ _ _ h => PyProof.Rows.mod_int hb h
theorem Op2.fdiv {a b : Int} (hb : b ≠ 0) (hp : Builtin.divisionGoesByPylong a b = false) : Op2 C A X (binaryOp .FloorDiv) (.int a) (.int b) (.int (a.fdiv b)) :=
  Op2.of_int fun _ _ _ _ _ _ h => floordiv_int hb h (.inl hp)
theorem Op2.shl {a n : Int} (hn : 0 ≤ n) (hsz : (Builtin.Int.intBits a : Int) + n ≤ 2 ^ 27) : Op2 C A X (binaryOp .LShift) (.int a) (.int n) (.int (a * 2 ^ n.toNat)) :=
  Op2.of_int fun _ _ _ _ _ _ h => lshift_int hn hsz h
theorem Op2.shr {a n : Int} (hn : 0 ≤ n) : Op2 C A X (binaryOp .RShift) (.int a) (.int n) (.int (a.fdiv (2 ^ n.toNat))) :=
  Op2.of_int fun _ _ _ _ _ _ h => rshift_int hn h
theorem Op2.xor {a b : Int} : Op2 C A X (binaryOp .BitXor) (.int a) (.int b) (.int (Builtin.bitXor a b)) :=
  Op2.of_int fun _ _ _ _ _ _ h => xor_int h
theorem Op2.pow {a n : Int} (hn : 0 ≤ n) (hsz : (Builtin.Int.intBits a : Int) * n ≤ 2 ^ 27) : Op2 C A X (binaryOp .Pow) (.int a) (.int n) (.int (a ^ n.toNat)) :=
  Op2.of_int fun _ _ _ _ _ _ h => pow_int hn hsz h

/-! bools, bytes -/
theorem Op2.neBool {a b : Bool} : Op2 C A X (compareOp .NotEq) (.bool a) (.bool b) (.bool (a != b)) := by
  rintro s Q E x y o lv rfl rfl k
  exact PyProof.Rows.ne_bool (k (.bool (a != b)) s.heap s.toks (Kp.refl _) o rfl)
theorem Op2.eqBytes {a b : List UInt8} : Op2 C A X (compareOp .Eq) (.bytes a) (.bytes b) (.bool (a == b)) := by
  rintro s Q E x y o lv ⟨t, rfl⟩ ⟨u, rfl⟩ k
  exact eq_bytes (k (.bool (a == b)) s.heap s.toks (Kp.refl _) o rfl)
theorem Op2.neBytes {a b : List UInt8} : Op2 C A X (compareOp .NotEq) (.bytes a) (.bytes b) (.bool (a != b)) := by
  rintro s Q E x y o lv ⟨t, rfl⟩ ⟨u, rfl⟩ k
  exact ne_bytes (k (.bool (a != b)) s.heap s.toks (Kp.refl _) o rfl)
theorem Op2.addBytes {a b : List UInt8} (hz : a.length + b.length ≤ 16777216) : Op2 C A X (binaryOp .Add) (.bytes a) (.bytes b) (.bytes (a ++ b)) := by
  rintro s Q E x y o lv ⟨t, rfl⟩ ⟨u, rfl⟩ k
  exact bytes_add_K (by simpa using hz) rfl fun t' tk => k _ _ _ (Kp.refl _) o ⟨t', rfl⟩

/-! lists -/
theorem fresh_size (h : Heap) : h.get? h.objs.size = none := Heap.get?_none_of_le (Nat.le_refl _)

theorem rep_new {s : Shared} {vs : List Value} {xs : List Int} (lv : Live C A X s.heap) (hi : IntsAre vs xs) :
    Rep X (s.heap.push { cls := .type "list", data := .seq vs.toArray }) (.ref s.heap.objs.size) (.il xs) :=
  ⟨_, vs, rfl, lv.fresh (fresh_size _), ⟨0, Heap.get?_push_size _ rfl⟩, hi⟩
theorem rep_newT {s : Shared} {vs : List Value} {xs : List Int} (hi : IntsAre vs xs) :
    Rep X (s.heap.push { cls := .type "tuple", data := .seq vs.toArray }) (.ref s.heap.objs.size) (.it xs) :=
  ⟨_, vs, rfl, ⟨0, Heap.get?_push_size _ rfl⟩, hi⟩

/-- a list of ints, owned or not -/
def LI (p : PV) (xs : List Int) : Prop := p = .il xs ∨ ∃ a, p = .own a xs
theorem LI.il {xs : List Int} : LI (.il xs) xs := .inl rfl
theorem LI.own {a : Addr} {xs : List Int} : LI (.own a xs) xs := .inr ⟨a, rfl⟩
theorem LI.rep {p : PV} {xs : List Int} {h : Heap} {v : Value} (l : LI p xs) (r : Rep X h v p) : ∃ a vs, v = .ref a ∧ h.PlainList a vs.toArray ∧ IntsAre vs xs := by
  rcases l with rfl | ⟨a, rfl⟩
  · obtain ⟨a, vs, e, _, hl, hi⟩ := r; exact ⟨a, vs, e, hl, hi⟩
  · obtain ⟨vs, e, _, hl, hi⟩ := r; exact ⟨a, vs, e, hl, hi⟩

theorem Op2.addList {p q : PV} {xs ys : List Int} (hp : LI p xs) (hq : LI q ys) (hz : xs.length + ys.length ≤ sizeLine) : Op2 C A X (binaryOp .Add) p q (.il (xs ++ ys)) := by
  intro s Q E x y o lv rx ry k
  obtain ⟨a, vs, rfl, ⟨n, hl⟩, hi⟩ := hp.rep rx
  obtain ⟨b, us, rfl, ⟨m, hl'⟩, hi'⟩ := hq.rep ry
  refine P.add_list hl hl' ?_ (by simpa [hi.length, hi'.length] using hz)
  have := k (.ref s.heap.objs.size) (s.heap.push { cls := .type "list", data := .seq (vs ++ us).toArray }) s.toks (Full.push _ _).kp (o.full (Full.push _ _)) (rep_new lv (hi.append hi'))
  simpa using this

theorem Op2.eqList {p q : PV} {xs ys : List Int} {d : Nat} (r : Room A d) (hp : LI p xs) (hq : LI q ys) : Op2 C A X (compareOp .Eq) p q (.bool (decide (xs = ys))) := by
  intro s Q E x y o lv rx ry k
  obtain ⟨a, vs, rfl, hl, hi⟩ := hp.rep rx
  obtain ⟨b, us, rfl, hl', hi'⟩ := hq.rep ry
  exact eq_intsK hl.isList hi hl'.isList hi' r.units64 (k (.bool (decide (xs = ys))) s.heap s.toks (Kp.refl _) o rfl)
theorem Op2.neList {p q : PV} {xs ys : List Int} {d : Nat} (r : Room A d) (hp : LI p xs) (hq : LI q ys) : Op2 C A X (compareOp .NotEq) p q (.bool (!decide (xs = ys))) := by
  intro s Q E x y o lv rx ry k
  obtain ⟨a, vs, rfl, hl, hi⟩ := hp.rep rx
  obtain ⟨b, us, rfl, hl', hi'⟩ := hq.rep ry
  exact ne_intsK hl.isList hi hl'.isList hi' r.units64 (k (.bool (!decide (xs = ys))) s.heap s.toks (Kp.refl _) o rfl)

theorem rep_eq {a b : PV} {h : Heap} {v : Value} (r : Rep X h v a) (e : a = b) : Rep X h v b := e ▸ r
theorem Ev.eq {e : Expr} {a b : PV} (h : Ev C A env X ρ e a) (q : a = b) : Ev C A env X ρ e b := q ▸ h
theorem Op2.eqv {op : Value → Value → Sem Value} {a b p q : PV} (h : Op2 C A X op a b p) (e : p = q) : Op2 C A X op a b q := e ▸ h

theorem Op2.mulList {p : PV} {xs : List Int} {x : Int} (hp : LI p xs) (h0 : x < 2 ^ 63) (h1 : -(2 ^ 63 : Int) ≤ x) (hz : xs.length * x.toNat ≤ 2 ^ 24) :
    Op2 C A X (binaryOp .Mult) p (.int x) (.il (List.replicate x.toNat xs).flatten) := by
  rintro s Q E v y o lv rx ⟨u, rfl⟩ k
  obtain ⟨a, vs, rfl, ⟨n, ho⟩, hi⟩ := hp.rep rx
  have hsz' : vs.toArray.size * x.toNat ≤ 2 ^ 24 := by simpa [hi.length] using hz
  refine wpAny_binaryOp_repeat_ref (T := "list") (U := "int") (by decide) ⟨_, ho, rfl⟩ (fun s' => typeIs_int s' x u) noFill_list_mul F.fills_int_mul F.slot_int_rmul repeat_list F.slot_int_index.lookup
    (call_meets F.slot_int_rmul (typeIs_int s x u) F.entry_int_rmul (F.args_int_rmul_2 _ _) (int___rmul___int_list x u a vs.toArray n)
      ⟨ho, rfl, ⟨_, ho, rfl⟩, call_meets F.slot_list_mul ⟨_, ho, rfl⟩ F.entry_list_mul (F.args_list_mul_2 _ _)
        (AutoListH.list___mul___list_int_3 a vs.toArray n x u (by simp [Builtin.List.listFitsIndex]; omega) (by omega) (by simp [Builtin.List.listTooLong, sizeLine]; omega))
        ⟨ho, ?_⟩⟩)
  rw [listMul_foldl_if]
  exact k _ _ _ (Full.push _ _).kp (o.full (Full.push _ _)) (rep_new lv (KM.ints_rep hi _))

/-! unary operators -/
def Op1 (C : Cfg) (A : Around) (X : List Addr) (op : Value → Sem Value) (a r : PV) : Prop :=
  ∀ (s : Shared) (Q : Value → Shared → Prop) (E : Value → Shared → Prop) (x : Value), Ok C s.heap → Live C A X s.heap → Rep X s.heap x a →
    (∀ v h' tk, Kp C s.heap h' → Ok C h' → Rep X h' v r → Q v { s with heap := h', toks := tk }) → wpAny C.M A (op x) Q E s
theorem Ev.seq1 {e : Expr} {a p : PV} {op : Value → Sem Value} (he : Ev C A env X ρ e a) (ho : Op1 C A X op a p) (s : Shared) (Q : Value → Shared → Prop) (E : Value → Shared → Prop)
    (c : Cx env X ρ s.heap) (o : Ok C s.heap) (lv : Live C A X s.heap) (k : ∀ v h' tk, Kp C s.heap h' → Ok C h' → Rep X h' v p → Q v { s with heap := h', toks := tk }) :
    wpAny C.M A (eval e env) (fun x s₁ => wpAny C.M A (op x) Q E s₁) E s :=
  he s _ E c o lv fun x h₁ tk₁ k₁ o₁ r₁ => ho _ Q E x o₁ (lv.kp k₁) r₁ fun v h₃ tk₃ k₃ o₃ r₃ => k v h₃ tk₃ (k₁.trans k₃) o₃ r₃
theorem Ev.unop {e : Expr} {a p : PV} {op : UnaryOp} {pos : Pos} (he : Ev C A env X ρ e a) (ho : Op1 C A X (unaryOp op) a p) : Ev C A env X ρ (.UnaryOp op e pos) p :=
  fun s Q E c o lv k => wpAny_UnaryOp (Ev.seq1 he ho s Q E c o lv k)
theorem Op1.neg {a : Int} : Op1 C A X (unaryOp .USub) (.int a) (.int (-a)) := by
  rintro s Q E x o lv ⟨t, rfl⟩ k
  exact P.neg_int (k _ _ _ (Kp.refl _) o ⟨_, rfl⟩)
theorem Op1.inv {a : Int} : Op1 C A X (unaryOp .Invert) (.int a) (.int (Builtin.bitNot a)) := by
  rintro s Q E x o lv ⟨t, rfl⟩ k
  exact invert_int (k _ _ _ (Kp.refl _) o ⟨_, rfl⟩)

/-! truth -/
def Tr (C : Cfg) (A : Around) (X : List Addr) (a : PV) (b : Bool) : Prop :=
  ∀ (s : Shared) (Q : Bool → Shared → Prop) (E : Value → Shared → Prop) (x : Value), Ok C s.heap → Rep X s.heap x a → (∀ tk, Q b { s with toks := tk }) → wpAny C.M A (truthy x) Q E s
theorem Tr.bool {b : Bool} : Tr C A X (.bool b) b := by
  rintro s Q E x o rfl k; exact wpAny_truthy_bool (k s.toks)
theorem Tr.int {a : Int} : Tr C A X (.int a) (a != 0) := by
  rintro s Q E x o ⟨t, rfl⟩ k; exact P.truthy_int (k s.toks)
theorem Tr.list {p : PV} {xs : List Int} (hp : LI p xs) (hz : xs.length ≤ sizeLine) : Tr C A X p (!xs.isEmpty) := by
  intro s Q E x o rx k
  obtain ⟨a, vs, rfl, hl, hi⟩ := hp.rep rx
  have hz' : vs.length ≤ 16777216 := by rw [hi.length]; exact hz
  refine wpAny_truthy_list hl.isList (by simp; omega) ?_
  have e : vs.toArray.isEmpty = xs.isEmpty := by
    rw [List.isEmpty_toArray]; cases hi <;> rfl
  rw [e]; exact k _

def Tst (C : Cfg) (A : Around) (env : Env) (X : List Addr) (ρ : List (Str × PV)) (e : Expr) (b : Bool) : Prop :=
  ∀ (s : Shared) (Q : Bool → Shared → Prop) (E : Value → Shared → Prop), Cx env X ρ s.heap → Ok C s.heap → Live C A X s.heap →
    (∀ h' tk, Kp C s.heap h' → Ok C h' → Q b { s with heap := h', toks := tk }) → wpAny C.M A (isTrue e env (eval e env)) Q E s
theorem Tst.eq {e : Expr} {a b : Bool} (h : Tst C A env X ρ e a) (q : a = b) : Tst C A env X ρ e b := q ▸ h

theorem Tst.cmp {l r : Expr} {a b : PV} {t : Bool} {op : CmpOp} {pos : Pos} (hl : Ev C A env X ρ l a) (hr : Ev C A env X ρ r b) (ho : Op2 C A X (compareOp op) a b (.bool t)) (hm : behindInMarks op r = false := by with_unfolding_all rfl) :
    Tst C A env X ρ (.Compare l [op] [r] pos) t := fun s Q E c o lv k =>
  wpAny_isTrue_Compare1 (hl s _ E c o lv fun x h₁ tk₁ k₁ o₁ r₁ => hr _ _ E (c.kp o k₁) o₁ (lv.kp k₁) fun y h₂ tk₂ k₂ o₂ r₂ =>
    ho _ _ E x y o₂ ((lv.kp k₁).kp k₂) (r₁.kp o₁ k₂) r₂ fun v h₃ tk₃ k₃ o₃ r₃ => Tr.bool _ _ _ v o₃ r₃ fun tk => k h₃ tk ((k₁.trans k₂).trans k₃) o₃) hm
theorem Tst.value {e : Expr} {a : PV} {t : Bool} (he : Ev C A env X ρ e a) (ht : Tr C A X a t) (hq : isTrue e env (eval e env) = (do let v ← eval e env; standAt e.pos; holding [v] (truthy v)) := by rfl) : Tst C A env X ρ e t :=
  fun s Q E c o lv k => wpAny_isTrue_value (he s _ E c o lv fun x h₁ tk₁ k₁ o₁ r₁ => ht _ _ E x o₁ r₁ fun tk => k h₁ tk k₁ o₁) hq
theorem Tst.not {e : Expr} {pos : Pos} {t : Bool} (he : Tst C A env X ρ e t) : Tst C A env X ρ (.UnaryOp .Not e pos) (!t) :=
  fun s Q E c o lv k => wpAny_isTrue_Not (he s _ E c o lv fun h₁ tk₁ k₁ o₁ => k h₁ tk₁ k₁ o₁)

/-- all of a list of tests, one by one -/
inductive TsAnd (C : Cfg) (A : Around) (env : Env) (X : List Addr) (ρ : List (Str × PV)) : List Expr → Bool → Prop
  | nil : TsAnd C A env X ρ [] true
  | stop {e r} : Tst C A env X ρ e false → TsAnd C A env X ρ (e :: r) false
  | cons {e r b} : Tst C A env X ρ e true → TsAnd C A env X ρ r b → TsAnd C A env X ρ (e :: r) b
inductive TsOr (C : Cfg) (A : Around) (env : Env) (X : List Addr) (ρ : List (Str × PV)) : List Expr → Bool → Prop
  | nil : TsOr C A env X ρ [] false
  | stop {e r} : Tst C A env X ρ e true → TsOr C A env X ρ (e :: r) true
  | cons {e r b} : Tst C A env X ρ e false → TsOr C A env X ρ r b → TsOr C A env X ρ (e :: r) b
theorem TsAnd.run {es : List Expr} {b : Bool} (h : TsAnd C A env X ρ es b) : ∀ (s : Shared) (Q : Bool → Shared → Prop) (E : Value → Shared → Prop), Cx env X ρ s.heap → Ok C s.heap → Live C A X s.heap →
    (∀ h' tk, Kp C s.heap h' → Ok C h' → Q b { s with heap := h', toks := tk }) → wpAny C.M A (allTrue .And es env) Q E s := by
  induction h with
  | nil => intro s Q E c o lv k; exact wpAny_allTrue_And_nil (k s.heap s.toks (Kp.refl _) o)
  | stop h => intro s Q E c o lv k; exact wpAny_allTrue_And_cons (h s _ E c o lv fun h₁ tk₁ k₁ o₁ => by simpa using k h₁ tk₁ k₁ o₁)
  | cons h _ ih =>
    intro s Q E c o lv k
    refine wpAny_allTrue_And_cons (h s _ E c o lv fun h₁ tk₁ k₁ o₁ => ?_)
    simp only [if_true]
    exact ih _ Q E (c.kp o k₁) o₁ (lv.kp k₁) fun h₂ tk₂ k₂ o₂ => k h₂ tk₂ (k₁.trans k₂) o₂
theorem TsOr.run {es : List Expr} {b : Bool} (h : TsOr C A env X ρ es b) : ∀ (s : Shared) (Q : Bool → Shared → Prop) (E : Value → Shared → Prop), Cx env X ρ s.heap → Ok C s.heap → Live C A X s.heap →
    (∀ h' tk, Kp C s.heap h' → Ok C h' → Q b { s with heap := h', toks := tk }) → wpAny C.M A (allTrue .Or es env) Q E s := by
  induction h with
  | nil => intro s Q E c o lv k; exact wpAny_allTrue_Or_nil (k s.heap s.toks (Kp.refl _) o)
  | stop h => intro s Q E c o lv k; exact wpAny_allTrue_Or_cons (h s _ E c o lv fun h₁ tk₁ k₁ o₁ => by simpa using k h₁ tk₁ k₁ o₁)
  | cons h _ ih =>
    intro s Q E c o lv k
    refine wpAny_allTrue_Or_cons (h s _ E c o lv fun h₁ tk₁ k₁ o₁ => ?_)
    simp only [Bool.false_eq_true, if_false]
    exact ih _ Q E (c.kp o k₁) o₁ (lv.kp k₁) fun h₂ tk₂ k₂ o₂ => k h₂ tk₂ (k₁.trans k₂) o₂
theorem Tst.and {es : List Expr} {pos : Pos} {b : Bool} (h : TsAnd C A env X ρ es b) : Tst C A env X ρ (.BoolOp .And es pos) b :=
  fun s Q E c o lv k => wpAny_isTrue_BoolOp (h.run s Q E c o lv k)
theorem Tst.or {es : List Expr} {pos : Pos} {b : Bool} (h : TsOr C A env X ρ es b) : Tst C A env X ρ (.BoolOp .Or es pos) b :=
  fun s Q E c o lv k => wpAny_isTrue_BoolOp (h.run s Q E c o lv k)

/-- a BoolOp as a value (of bools) -/
inductive EvAnd (C : Cfg) (A : Around) (env : Env) (X : List Addr) (ρ : List (Str × PV)) : List Expr → Bool → Prop
  | one {e b} : Ev C A env X ρ e (.bool b) → EvAnd C A env X ρ [e] b
  | stop {e r} : Ev C A env X ρ e (.bool false) → EvAnd C A env X ρ (e :: r) false
  | cons {e f r b} : Ev C A env X ρ e (.bool true) → EvAnd C A env X ρ (f :: r) b → EvAnd C A env X ρ (e :: f :: r) b
theorem EvAnd.run {es : List Expr} {b : Bool} {pos : Pos} (h : EvAnd C A env X ρ es b) : ∀ (s : Shared) (Q : Value → Shared → Prop) (E : Value → Shared → Prop), Cx env X ρ s.heap → Ok C s.heap → Live C A X s.heap →
    (∀ v h' tk, Kp C s.heap h' → Ok C h' → Rep X h' v (.bool b) → Q v { s with heap := h', toks := tk }) → wpAny C.M A (boolOp pos .And (evalEach es env)) Q E s := by
  induction h with
  | one h => intro s Q E c o lv k; exact h s Q E c o lv k
  | @stop e r h =>
    intro s Q E c o lv k
    cases r with
    | nil => exact h s Q E c o lv k
    | cons f r =>
      show wpAny _ _ (do let v ← eval e env; standAt pos; let t ← holding [v] (truthy v); (match BoolOp.And, t with | .And, false | .Or, true => pure v | _, _ => boolOp pos .And (eval f env :: evalEach r env))) _ _ _
      refine wpAny_bind (h s _ E c o lv fun v h₁ tk₁ k₁ o₁ r₁ => ?_)
      cases r₁
      exact wpAny_bind (wpAny_standAt (wpAny_bind (wpAny_holding (wpAny_truthy_bool (wpAny_pure (k _ h₁ tk₁ k₁ o₁ rfl))))))
  | @cons e f r b h _ ih =>
    intro s Q E c o lv k
    show wpAny _ _ (do let v ← eval e env; standAt pos; let t ← holding [v] (truthy v); (match BoolOp.And, t with | .And, false | .Or, true => pure v | _, _ => boolOp pos .And (eval f env :: evalEach r env))) _ _ _
    refine wpAny_bind (h s _ E c o lv fun v h₁ tk₁ k₁ o₁ r₁ => ?_)
    cases r₁
    exact wpAny_bind (wpAny_standAt (wpAny_bind (wpAny_holding (wpAny_truthy_bool
      (ih _ Q E (c.kp o k₁) o₁ (lv.kp k₁) fun v h₂ tk₂ k₂ o₂ r₂ => k v h₂ tk₂ (k₁.trans k₂) o₂ r₂)))))
theorem Ev.and {es : List Expr} {pos : Pos} {b : Bool} (h : EvAnd C A env X ρ es b) : Ev C A env X ρ (.BoolOp .And es pos) (.bool b) := fun s Q E c o lv k => by
  show wpAny _ _ (boolOp pos .And (evalEach es env)) _ _ _
  exact h.run s Q E c o lv k

theorem Ev.ifT {t a b : Expr} {pos : Pos} {p : PV} (ht : Tst C A env X ρ t true) (h : Ev C A env X ρ a p) : Ev C A env X ρ (.IfExp t a b pos) p :=
  fun s Q E c o lv k => wpAny_IfExp (ht s _ E c o lv fun h₁ tk₁ k₁ o₁ => by
    simp only [if_true]; exact h _ Q E (c.kp o k₁) o₁ (lv.kp k₁) fun v h₂ tk₂ k₂ o₂ r₂ => k v h₂ tk₂ (k₁.trans k₂) o₂ r₂)
theorem Ev.ifF {t a b : Expr} {pos : Pos} {p : PV} (ht : Tst C A env X ρ t false) (h : Ev C A env X ρ b p) : Ev C A env X ρ (.IfExp t a b pos) p :=
  fun s Q E c o lv k => wpAny_IfExp (ht s _ E c o lv fun h₁ tk₁ k₁ o₁ => by
    simp only [Bool.false_eq_true, if_false]; exact h _ Q E (c.kp o k₁) o₁ (lv.kp k₁) fun v h₂ tk₂ k₂ o₂ r₂ => k v h₂ tk₂ (k₁.trans k₂) o₂ r₂)
theorem Ev.ifte {t a b : Expr} {pos : Pos} {p q : PV} {c : Bool} (ht : Tst C A env X ρ t c) (h : c = true → Ev C A env X ρ a p) (h' : c = false → Ev C A env X ρ b q) : Ev C A env X ρ (.IfExp t a b pos) (if c then p else q) := by
  cases c with
  | true => exact Ev.ifT ht (h rfl)
  | false => exact Ev.ifF ht (h' rfl)
end
end Mine
namespace Mine
open PySem PySem.Calls PySem.W PyProof.Rows
variable {C : Cfg}

inductive Reps (X : List Addr) (h : Heap) : List Value → List PV → Prop
  | nil : Reps X h [] []
  | cons {v p vs ps} : Rep X h v p → Reps X h vs ps → Reps X h (v :: vs) (p :: ps)
theorem Reps.kp {X : List Addr} {h h' : Heap} {vs : List Value} {ps : List PV} (r : Reps X h vs ps) (o : Ok C h) (k : Kp C h h') : Reps X h' vs ps := by
  induction r with
  | nil => exact .nil
  | cons h _ ih => exact .cons (h.kp o k) ih

inductive Evs (C : Cfg) (A : Around) (env : Env) (X : List Addr) (ρ : List (Str × PV)) : List Expr → List PV → Prop
  | nil : Evs C A env X ρ [] []
  | cons {e p es ps} (h : Ev C A env X ρ e p) (t : Evs C A env X ρ es ps) (he : starEach (e :: es) env = (false, eval e env) :: starEach es env := by rfl) : Evs C A env X ρ (e :: es) (p :: ps)

section
variable {A : Around} {env : Env} {X : List Addr} {ρ : List (Str × PV)}

theorem Evs.run {es : List Expr} {ps : List PV} {pos : Pos} (h : Evs C A env X ρ es ps) : ∀ (s : Shared) (Q : List Value → Shared → Prop) (E : Value → Shared → Prop), Cx env X ρ s.heap → Ok C s.heap → Live C A X s.heap →
    (∀ vs h' tk, Kp C s.heap h' → Ok C h' → Reps X h' vs ps → Q vs { s with heap := h', toks := tk }) → wpAny C.M A (spliced (backTo pos (starEach es env))) Q E s := by
  induction h with
  | nil => intro s Q E c o lv k; exact wpAny_items_nil (k [] s.heap s.toks (Kp.refl _) o .nil)
  | cons h _ he ih =>
    intro s Q E c o lv k
    refine wpAny_items_cons (h s _ E c o lv fun v h₁ tk₁ k₁ o₁ r₁ => ?_) he
    exact ih _ _ E (c.kp o k₁) o₁ (lv.kp k₁) fun vs h₂ tk₂ k₂ o₂ r₂ => k (v :: vs) h₂ tk₂ (k₁.trans k₂) o₂ (.cons (r₁.kp o₁ k₂) r₂)

theorem Reps.ints : ∀ {h : Heap} {vs : List Value} {xs : List Int}, Reps X h vs (xs.map .int) → IntsAre vs xs
  | _, _, [], .nil => .nil
  | _, _, x :: xs, .cons ⟨t, e⟩ r => by subst e; exact .cons x t (Reps.ints r)

theorem Ev.list {es : List Expr} {ps : List PV} {xs : List Int} {pos : Pos} (h : Evs C A env X ρ es ps) (e : ps = xs.map .int) (hz : xs.length ≤ sizeLine) : Ev C A env X ρ (.List es pos) (.il xs) := fun s Q E c o lv k => by
  subst e
  refine wpAny_List (h.run s _ E c o lv fun vs h₁ tk₁ k₁ o₁ r₁ => ⟨by rw [r₁.ints.length]; exact hz, ?_⟩)
  exact k _ _ _ (k₁.trans (Full.push _ _).kp) (o₁.full (Full.push _ _)) (rep_new (s := { s with heap := h₁, toks := tk₁ }) (lv.kp k₁) r₁.ints)
theorem Ev.tuple {es : List Expr} {ps : List PV} {xs : List Int} {n : Nat} {pos : Pos} (h : Evs C A env X ρ es ps) (e : ps = xs.map .int) (hz : xs.length ≤ sizeLine) : Ev C A env X ρ (.Tuple es n pos) (.it xs) := fun s Q E c o lv k => by
  subst e
  refine wpAny_Tuple (h.run s _ E c o lv fun vs h₁ tk₁ k₁ o₁ r₁ => ⟨by rw [r₁.ints.length]; exact hz, ?_⟩)
  exact k _ _ _ (k₁.trans (Full.push _ _).kp) (o₁.full (Full.push _ _)) (rep_newT (s := { s with heap := h₁, toks := tk₁ }) r₁.ints)

/-! calls -/
def Cal (C : Cfg) (A : Around) (f : Value) (args : List PV) (res : PV) : Prop :=
  ∀ (X : List Addr) (s : Shared) (Q : Value → Shared → Prop) (E : Value → Shared → Prop) (vs : List Value), Ok C s.heap → Live C A X s.heap → Reps X s.heap vs args →
    (∀ v h' tk, Kp C s.heap h' → Ok C h' → Rep X h' v res → Q v { s with heap := h', toks := tk }) → wpAny C.M A (call f vs) Q E s
theorem Cal.eq {f : Value} {args : List PV} {p q : PV} (h : Cal C A f args p) (e : p = q) : Cal C A f args q := e ▸ h

def GlobIs (C : Cfg) (x : Str) (v : Value) : Prop := C.mg x = some v ∨ (C.mg x = none ∧ C.mb x = some v)

theorem eval_glob {x : Str} {v : Value} {pos : Pos} {s : Shared} {Q : Value → Shared → Prop} {E : Value → Shared → Prop} (g : GlobIs C x v) (c : Cx env X ρ s.heap) (o : Ok C s.heap) (hx : env.kindOf x = some .globalImplicit) (h : Q v s)
    (hd : (x == ("__debug__" : Str)) = false := by decide) : wpAny C.M A (eval (.Name x pos) env) Q E s := by
  refine Name_function_global c.fn hx ?_ hd
  rcases g with g | ⟨g, b⟩
  · exact loadGlobal_global (by rw [c.glob]; exact C.gNs.keeps o.up) g h
  · exact loadGlobal_builtin (by rw [c.glob]; exact C.gNs.keeps o.up) g (by rw [c.blt]; exact C.bNs.keeps o.up) b h

theorem any_plain : ∀ {es : List Expr} {ps : List PV} {pos : Pos}, Evs C A env X ρ es ps → (backTo pos (starEach es env)).any (·.1) = false
  | _, _, _, .nil => rfl
  | _, _, pos, .cons (es := es) _ t he => by
    have ih := any_plain (pos := pos) t
    rw [he]
    simp only [backTo, List.map_cons, List.any_cons, Bool.false_or]
    simpa [backTo] using ih

theorem args_run {f : Value} {es : List Expr} {ps : List PV} {pos : Pos} (h : Evs C A env X ρ es ps) (hne : es ≠ []) (s : Shared) (Q : Args → Shared → Prop) (E : Value → Shared → Prop) (c : Cx env X ρ s.heap) (o : Ok C s.heap) (lv : Live C A X s.heap)
    (k : ∀ vs h' tk, Kp C s.heap h' → Ok C h' → Reps X h' vs ps → Q ⟨vs, []⟩ { s with heap := h', toks := tk }) : wpAny C.M A (evalArgs f true (backTo pos (starEach es env)) []) Q E s := by
  have run := h.run (pos := pos) s (fun vs s' => Q ⟨vs, []⟩ s') E c o lv k
  cases h with
  | nil => exact absurd rfl hne
  | cons h t he =>
    rw [he] at run ⊢
    simp only [backTo, List.map_cons, Bool.false_eq_true, if_false] at run ⊢
    exact evalArgs_plain run

theorem Ev.callFn {f : Str} {a : Addr} {es : List Expr} {ps : List PV} {r : PV} {np pos : Pos} {ob : Obj} {fd : FuncData} (g : GlobIs C f (.ref a)) (ho : C.g.get? a = some ob) (hd : ob.data = .func fd) (h : Evs C A env X ρ es ps) (hc : Cal C A (.ref a) ps r)
    (hx : env.kindOf f = some .globalImplicit := by rfl) (hne : es ≠ [] := by exact List.cons_ne_nil _ _) (hdb : (f == ("__debug__" : Str)) = false := by decide) : Ev C A env X ρ (.Call (.Name f np) es [] pos) r := fun s Q E c o lv k => by
  refine wpAny_Call_NameR (eval_glob g c o hx ?_ hdb)
  refine callWith_function (o := ob) (fd := fd) (args_run h hne s _ E c o lv fun vs h₁ tk₁ k₁ o₁ r₁ => ⟨⟨o₁.up _ _ ho, hd⟩, ?_⟩)
  exact hc X _ Q E vs o₁ (lv.kp k₁) r₁ fun v h₂ tk₂ k₂ o₂ r₂ => k v h₂ tk₂ (k₁.trans k₂) o₂ r₂
theorem Ev.callBi {f : Str} {b : String} {es : List Expr} {ps : List PV} {r : PV} {np pos : Pos} (g : GlobIs C f (.builtin b)) (h : Evs C A env X ρ es ps) (hc : Cal C A (.builtin b) ps r)
    (hx : env.kindOf f = some .globalImplicit := by rfl) (hne : es ≠ [] := by exact List.cons_ne_nil _ _) (hdb : (f == ("__debug__" : Str)) = false := by decide) : Ev C A env X ρ (.Call (.Name f np) es [] pos) r := fun s Q E c o lv k => by
  refine wpAny_Call_NameR (eval_glob g c o hx ?_ hdb)
  refine callWith_builtin (any_plain h) (args_run h hne s _ E c o lv fun vs h₁ tk₁ k₁ o₁ r₁ => ?_)
  exact hc X _ Q E vs o₁ (lv.kp k₁) r₁ fun v h₂ tk₂ k₂ o₂ r₂ => k v h₂ tk₂ (k₁.trans k₂) o₂ r₂
theorem Ev.callTy {f : Str} {b : String} {es : List Expr} {ps : List PV} {r : PV} {np pos : Pos} (g : GlobIs C f (.type b)) (h : Evs C A env X ρ es ps) (hc : Cal C A (.type b) ps r)
    (hx : env.kindOf f = some .globalImplicit := by rfl) (hne : es ≠ [] := by exact List.cons_ne_nil _ _) (hdb : (f == ("__debug__" : Str)) = false := by decide) : Ev C A env X ρ (.Call (.Name f np) es [] pos) r := fun s Q E c o lv k => by
  refine wpAny_Call_NameR (eval_glob g c o hx ?_ hdb)
  refine PySem.callWith_type (any_plain h) (args_run h hne s _ E c o lv fun vs h₁ tk₁ k₁ o₁ r₁ => ?_)
  exact hc X _ Q E vs o₁ (lv.kp k₁) r₁ fun v h₂ tk₂ k₂ o₂ r₂ => k v h₂ tk₂ (k₁.trans k₂) o₂ r₂

theorem reps1 {X : List Addr} {h : Heap} {vs : List Value} {p : PV} (r : Reps X h vs [p]) : ∃ v, vs = [v] ∧ Rep X h v p := by
  cases r with | cons a b => cases b; exact ⟨_, rfl, a⟩
theorem reps2 {X : List Addr} {h : Heap} {vs : List Value} {p q : PV} (r : Reps X h vs [p, q]) : ∃ v w, vs = [v, w] ∧ Rep X h v p ∧ Rep X h w q := by
  cases r with | cons a b => obtain ⟨w, rfl, r⟩ := reps1 b; exact ⟨_, w, rfl, a, r⟩
theorem reps3 {X : List Addr} {h : Heap} {vs : List Value} {p q u : PV} (r : Reps X h vs [p, q, u]) : ∃ v w z, vs = [v, w, z] ∧ Rep X h v p ∧ Rep X h w q ∧ Rep X h z u := by
  cases r with | cons a b => obtain ⟨w, z, rfl, r, r'⟩ := reps2 b; exact ⟨_, w, z, rfl, a, r, r'⟩

theorem Cal.len {p : PV} {xs : List Int} (hp : LI p xs) (hz : xs.length ≤ sizeLine) : Cal C A (.builtin "len") [p] (.int xs.length) := by
  intro X s Q E vs o lv r k
  obtain ⟨v, rfl, r'⟩ := reps1 r
  obtain ⟨a, vs, rfl, hl, hi⟩ := hp.rep r'
  have hz' : vs.length ≤ 16777216 := by rw [hi.length]; exact hz
  refine call_len_list hl.isList (by simp; omega) ?_
  exact k _ s.heap _ (Kp.refl _) o ⟨s.toks + 1, by simp [hi.length]⟩
theorem Cal.lenBytes {b : List UInt8} (hz : b.length ≤ sizeLine) : Cal C A (.builtin "len") [.bytes b] (.int b.length) := by
  intro X s Q E vs o lv r k
  obtain ⟨v, rfl, t, rfl⟩ := reps1 r
  have hz' : b.length ≤ 16777216 := hz
  refine KBw.len_K rfl (by rw [KBw.ints_length]; simp; omega) ?_
  exact k _ s.heap _ (Kp.refl _) o ⟨s.toks + 1, by rw [KBw.ints_length]; simp⟩
theorem Cal.range1 {n : Int} : Cal C A (.type "range") [.int n] (.rg 0 n 1) := by
  intro X s Q E vs o lv r k
  obtain ⟨v, rfl, t, rfl⟩ := reps1 r
  exact call_range_1 (k _ _ _ (Full.push _ _).kp (o.full (Full.push _ _)) ⟨_, _, _, _, rfl, Heap.get?_push_size _ rfl⟩)
theorem Cal.range2 {a n : Int} : Cal C A (.type "range") [.int a, .int n] (.rg a n 1) := by
  intro X s Q E vs o lv r k
  obtain ⟨v, w, rfl, ⟨t, rfl⟩, ⟨u, rfl⟩⟩ := reps2 r
  exact call_range_2 (k _ _ _ (Full.push _ _).kp (o.full (Full.push _ _)) ⟨_, _, _, _, rfl, Heap.get?_push_size _ rfl⟩)
theorem Cal.range3 {a n c : Int} (hc : c ≠ 0) (hp : Builtin.divisionGoesByPylong (n - a) c = false) : Cal C A (.type "range") [.int a, .int n, .int c] (.rg a n c) := by
  intro X s Q E vs o lv r k
  obtain ⟨v, w, z, rfl, ⟨t, rfl⟩, ⟨u, rfl⟩, ⟨y, rfl⟩⟩ := reps3 r
  exact call_range_3 hc (k _ _ _ (Full.push _ _).kp (o.full (Full.push _ _)) ⟨_, _, _, _, rfl, Heap.get?_push_size _ rfl⟩) (.inl hp)
theorem Cal.divmod {a b : Int} (hb : b ≠ 0) (hp : Builtin.divisionGoesByPylong a b = false) : Cal C A (.builtin "divmod") [.int a, .int b] (.it [a.fdiv b, a.fmod b]) := by
  intro X s Q E vs o lv r k
  obtain ⟨v, w, rfl, ⟨t, rfl⟩, ⟨u, rfl⟩⟩ := reps2 r
  exact divmod_int hb (k _ _ _ (Full.push _ _).kp (o.full (Full.push _ _)) ⟨_, [.int (a.fdiv b) s.toks, .int (a.fmod b) (s.toks + 1)], rfl, ⟨0, Heap.get?_push_size _ rfl⟩, .cons _ _ (.cons _ _ .nil)⟩) (.inl hp)
theorem Cal.abs {a : Int} : Cal C A (.builtin "abs") [.int a] (.int a.natAbs) := by
  intro X s Q E vs o lv r k
  obtain ⟨v, rfl, t, rfl⟩ := reps1 r
  refine call_abs_int fun u tk => k _ _ _ (Kp.refl _) o ⟨u, ?_⟩
  congr 1; split <;> omega
theorem Cal.int {a : Int} : Cal C A (.type "int") [.int a] (.int a) := by
  intro X s Q E vs o lv r k
  obtain ⟨v, rfl, t, rfl⟩ := reps1 r
  exact call_int_int (k _ s.heap s.toks (Kp.refl _) o ⟨t, rfl⟩)
theorem Cal.min {a b : Int} {d : Nat} (rm : Room A d) : Cal C A (.builtin "min") [.int a, .int b] (.int (min a b)) := by
  intro X s Q E vs o lv r k
  obtain ⟨v, w, rfl, ⟨t, rfl⟩, ⟨u, rfl⟩⟩ := reps2 r
  refine min_two_ints rm.hd fun h' tk hk => ?_
  refine k _ h' tk (Full.kp hk) (o.full hk) ?_
  split
  · exact ⟨u, by congr 1; omega⟩
  · exact ⟨t, by congr 1; omega⟩
theorem Cal.max {a b : Int} {d : Nat} (rm : Room A d) : Cal C A (.builtin "max") [.int a, .int b] (.int (max a b)) := by
  intro X s Q E vs o lv r k
  obtain ⟨v, w, rfl, ⟨t, rfl⟩, ⟨u, rfl⟩⟩ := reps2 r
  refine max_two_ints rm.hd fun h' tk hk => ?_
  refine k _ h' tk (Full.kp hk) (o.full hk) ?_
  split
  · exact ⟨u, by congr 1; omega⟩
  · exact ⟨t, by congr 1; omega⟩
theorem Cal.bytes {p : PV} {xs : List Int} {d : Nat} (rm : Room A d) (hp : LI p xs) (hr : ∀ n ∈ xs, 0 ≤ n ∧ n < 256) (hz : xs.length ≤ sizeLine) : Cal C A (.type "bytes") [p] (.bytes (xs.map fun n => n.toNat.toUInt8)) := by
  intro X s Q E vs o lv r k
  obtain ⟨v, rfl, r'⟩ := reps1 r
  obtain ⟨a, vs, rfl, hl, hi⟩ := hp.rep r'
  refine call_bytes_ints hl.isList hi hr (by rw [hi.length]; exact hz) rm.hd fun h' t tk hk => ?_
  exact k _ h' tk (Full.kp hk) (o.full hk) ⟨t, rfl⟩
theorem preSum_getD (xs : List Int) : ∀ n, n ≤ xs.length → preSum (fun i => xs.getD i 0) n = (xs.take n).sum := KBmo.pre_take xs
theorem Cal.sum {p : PV} {xs : List Int} {d : Nat} (rm : Room A d) (hp : LI p xs) : Cal C A (.builtin "sum") [p] (.int xs.sum) := by
  intro X s Q E vs o lv r k
  obtain ⟨v, rfl, r'⟩ := reps1 r
  obtain ⟨a, vs, rfl, hl, hi⟩ := hp.rep r'
  have hlt : a < s.heap.objs.size := by obtain ⟨n, e⟩ := hl; exact Heap.lt_size e
  refine call_sum_walkG (wpAny_pyIter_list hl.isList ⟨_, _, _, _, _, _, fun i => xs.getD i 0, rfl, Walks.list (A := A.in1) rm.hd s.heap.objs.size a (Nat.ne_of_lt hlt) vs.toArray, ?_, ?_, ?_, ?_⟩)
  · exact ⟨⟨_, Heap.get?_push_size _ rfl, rfl, rfl⟩, hl.isList.push _⟩
  · intro b hb
    show b < (s.heap.push _).objs.size
    rw [Heap.size_push]
    rcases List.mem_cons.mp hb with rfl | hb
    · exact Nat.lt_succ_self _
    · rw [List.mem_singleton.mp hb]; exact Nat.lt_succ_of_lt hlt
  · intro i v hv
    exact hi.int_at i v (by simpa using hv)
  · intro h' tk t' hk
    have hf : Full s.heap h' := fun b ob e => hk b ob (fun hm => by rw [List.mem_singleton.mp hm] at e; exact absurd (Heap.lt_size e) (Nat.lt_irrefl _)) (Heap.get?_push_of_some _ e)
    refine k _ h' tk hf.kp (o.full hf) ⟨t', ?_⟩
    rw [preSum_getD xs _ (by simp [hi.length])]
    simp [hi.length]

/-! subscripts -/
theorem sub_tail {s : Shared} {value slice : Expr} {ov i : Value} {T id : String} {Q : Value → Shared → Prop} {E : Value → Shared → Prop} (hT : s.TypeIs ov T) (hl : typeLookup (.type T) "__getitem__" = pure (some (.builtin id)))
    (h : wpAny C.M A (getItem ov i) Q E s) : wpAny C.M A (subscriptTail value slice ov i) Q E s := by
  unfold subscriptTail
  have fin : ∀ l, wpAny C.M A (operate l (getItem ov i)) (fun r s₃ => wpAny C.M A (letTemporaryGo value ov r >>= fun _ => pure r) Q E s₃) E s := fun l =>
    wpAny_operating (wpAny_mono h (fun r s₃ h₃ => wpAny_bind (wpAny_letTemporaryGo (wpAny_pure h₃))) fun _ _ x => x)
  refine wpAny_bind ?_
  rw [getitemInPython_of_ne hT.not_modules]
  refine wpAny_bind (wpAny_specialOf hT hl ?_)
  refine wpAny_pure (wpAny_bind ?_)
  unfold subscripted
  split
  · exact fin _
  · rename_i q; cases q
  · exact fin _

theorem Ev.sub {value slice : Expr} {a b r : PV} {T id : String} {pos : Pos} (hv : Ev C A env X ρ value a) (hs : Ev C A env X ρ slice b) (hl : typeLookup (.type T) "__getitem__" = pure (some (.builtin id)))
    (hT : ∀ (s : Shared) v, Rep X s.heap v a → s.TypeIs v T) (ho : Op2 C A X getItem a b r) : Ev C A env X ρ (.Subscript value slice pos) r := fun s Q E c o lv k =>
  Subscript_ (hv s _ E c o lv fun x h₁ tk₁ k₁ o₁ r₁ => hs _ _ E (c.kp o k₁) o₁ (lv.kp k₁) fun y h₂ tk₂ k₂ o₂ r₂ =>
    sub_tail (hT _ _ (r₁.kp o₁ k₂)) hl (ho _ Q E x y o₂ ((lv.kp k₁).kp k₂) (r₁.kp o₁ k₂) r₂ fun v h₃ tk₃ k₃ o₃ r₃ => k v h₃ tk₃ ((k₁.trans k₂).trans k₃) o₃ r₃))

theorem LI.type {p : PV} {xs : List Int} (hp : LI p xs) (s : Shared) (v : Value) (r : Rep X s.heap v p) : s.TypeIs v "list" := by
  obtain ⟨a, vs, rfl, hl, _⟩ := hp.rep r; exact hl.isList.typeIs

theorem Op2.item {p : PV} {xs : List Int} {k x : Int} (hp : LI p xs) (h0 : 0 ≤ k) (hx : xs[k.toNat]? = some x) (hz : xs.length ≤ sizeLine) : Op2 C A X getItem p (.int k) (.int x) := by
  rintro s Q E v y o lv rx ⟨u, rfl⟩ kk
  obtain ⟨a, vs, rfl, hl, hi⟩ := hp.rep rx
  obtain ⟨t, ht⟩ := hi.get k.toNat x hx
  have hz' : xs.length ≤ 16777216 := hz
  have hlt : k.toNat < xs.length := by
    rcases Nat.lt_or_ge k.toNat xs.length with h | h
    · exact h
    · rw [List.getElem?_eq_none h] at hx; cases hx
  exact wpAny_getItem_list hl.isList h0 (by omega) (by simpa using ht) (kk _ s.heap s.toks (Kp.refl _) o ⟨t, rfl⟩)
theorem Op2.itemNeg {p : PV} {xs : List Int} {k x : Int} (hp : LI p xs) (h0 : k < 0) (h1 : -(xs.length : Int) ≤ k) (hx : xs[(k + xs.length).toNat]? = some x) (hz : xs.length ≤ sizeLine) : Op2 C A X getItem p (.int k) (.int x) := by
  rintro s Q E v y o lv rx ⟨u, rfl⟩ kk
  obtain ⟨a, vs, rfl, hl, hi⟩ := hp.rep rx
  obtain ⟨t, ht⟩ := hi.get _ x hx
  have hz' : xs.length ≤ 16777216 := hz
  exact wpAny_getItem_list_neg hl.isList h0 (by simpa [hi.length] using h1) (by omega) (by simpa [hi.length] using ht) (kk _ s.heap s.toks (Kp.refl _) o ⟨t, rfl⟩)
theorem Op2.itemT {xs : List Int} {k x : Int} (h0 : 0 ≤ k) (hx : xs[k.toNat]? = some x) (hz : xs.length ≤ sizeLine) : Op2 C A X getItem (.it xs) (.int k) (.int x) := by
  rintro s Q E v y o lv ⟨a, vs, rfl, hl, hi⟩ ⟨u, rfl⟩ kk
  obtain ⟨t, ht⟩ := hi.get k.toNat x hx
  have hz' : xs.length ≤ 16777216 := hz
  have hlt : k.toNat < xs.length := by
    rcases Nat.lt_or_ge k.toNat xs.length with h | h
    · exact h
    · rw [List.getElem?_eq_none h] at hx; cases hx
  exact PyProof.Rows.getItem_tuple hl.isTup (by omega) (by omega) (seqIndex_of h0 (by simp [hi.length]; omega)) (by simpa using ht) (kk _ s.heap s.toks (Kp.refl _) o ⟨t, rfl⟩)

theorem Ev.item {value slice : Expr} {p : PV} {xs : List Int} {k x : Int} {pos : Pos} (hv : Ev C A env X ρ value p) (hp : LI p xs) (hs : Ev C A env X ρ slice (.int k)) (h0 : 0 ≤ k) (hx : xs[k.toNat]? = some x) (hz : xs.length ≤ sizeLine) : Ev C A env X ρ (.Subscript value slice pos) (.int x) :=
  Ev.sub hv hs list_getitem_lookup hp.type (Op2.item hp h0 hx hz)
theorem Ev.itemNeg {value slice : Expr} {p : PV} {xs : List Int} {k x : Int} {pos : Pos} (hv : Ev C A env X ρ value p) (hp : LI p xs) (hs : Ev C A env X ρ slice (.int k)) (h0 : k < 0) (h1 : -(xs.length : Int) ≤ k) (hx : xs[(k + xs.length).toNat]? = some x) (hz : xs.length ≤ sizeLine) :
    Ev C A env X ρ (.Subscript value slice pos) (.int x) := Ev.sub hv hs list_getitem_lookup hp.type (Op2.itemNeg hp h0 h1 hx hz)

/-- a slice's part -/
inductive EvP (C : Cfg) (A : Around) (env : Env) (X : List Addr) (ρ : List (Str × PV)) : Option Expr → Option Int → Prop
  | none : EvP C A env X ρ none none
  | some {e i} : Ev C A env X ρ e (.int i) → EvP C A env X ρ (some e) (some i)
theorem EvP.run {e : Option Expr} {i : Option Int} (h : EvP C A env X ρ e i) (s : Shared) (Q : Value → Shared → Prop) (E : Value → Shared → Prop) (c : Cx env X ρ s.heap) (o : Ok C s.heap) (lv : Live C A X s.heap)
    (k : ∀ v h' tk, Kp C s.heap h' → Ok C h' → IsPart v i → Q v { s with heap := h', toks := tk }) : wpAny C.M A (evalPart e env) Q E s := by
  cases h with
  | none => exact wpAny_pure (k .none s.heap s.toks (Kp.refl _) o .none)
  | some h => exact h s Q E c o lv fun v h₁ tk₁ k₁ o₁ r₁ => by obtain ⟨t, rfl⟩ := r₁; exact k _ h₁ tk₁ k₁ o₁ (.int _ t)

/-- a slice, made, then used -/
theorem slice_run {value : Expr} {l u st : Option Expr} {a r : PV} {lo hi sp : Option Int} {T id : String} {p pos : Pos} (hv : Ev C A env X ρ value a) (h1 : EvP C A env X ρ l lo) (h2 : EvP C A env X ρ u hi) (h3 : EvP C A env X ρ st sp)
    (hl : typeLookup (.type T) "__getitem__" = pure (some (.builtin id))) (hT : ∀ (s : Shared) v, Rep X s.heap v a → s.TypeIs v T)
    (ho : ∀ (s : Shared) (Q : Value → Shared → Prop) (E : Value → Shared → Prop) (v vl vu vs : Value) (sl : Addr), Ok C s.heap → Live C A X s.heap → Rep X s.heap v a → IsPart vl lo → IsPart vu hi → IsPart vs sp → s.heap.IsSliceOf sl vl vu vs →
      (∀ v h' tk, Kp C s.heap h' → Ok C h' → Rep X h' v r → Q v { s with heap := h', toks := tk }) → wpAny C.M A (getItem v (.ref sl)) Q E s) : Ev C A env X ρ (.Subscript value (.Slice l u st p) pos) r := fun s Q E c o lv k => by
  refine Subscript_ (hv s _ E c o lv fun x h₁ tk₁ k₁ o₁ r₁ => wpAny_Slice (h1.run _ _ E (c.kp o k₁) o₁ (lv.kp k₁) fun vl h₂ tk₂ k₂ o₂ r₂ => h2.run _ _ E ((c.kp o k₁).kp o₁ k₂) o₂ ((lv.kp k₁).kp k₂) fun vu h₃ tk₃ k₃ o₃ r₃ =>
    h3.run _ _ E (((c.kp o k₁).kp o₁ k₂).kp o₂ k₃) o₃ (((lv.kp k₁).kp k₂).kp k₃) fun vs h₄ tk₄ k₄ o₄ r₄ => ?_))
  have kp : Kp C h₄ (h₄.push { cls := .type "slice", data := .fields #[vl, vu, vs] }) := (Full.push _ _).kp
  have o₅ : Ok C (h₄.push { cls := .type "slice", data := .fields #[vl, vu, vs] }) := o₄.full (Full.push _ _)
  have rx := (((r₁.kp o₁ k₂).kp o₂ k₃).kp o₃ k₄).kp o₄ kp
  refine sub_tail (hT _ _ rx) hl (ho _ Q E x vl vu vs _ o₅ (((((lv.kp k₁).kp k₂).kp k₃).kp k₄).kp kp) rx r₂ r₃ r₄ (Heap.IsSliceOf.new ..) fun v h₆ tk₆ k₆ o₆ r₆ => ?_)
  exact k v h₆ tk₆ (((((k₁.trans k₂).trans k₃).trans k₄).trans kp).trans k₆) o₆ r₆

theorem Ev.slice {value : Expr} {l u st : Option Expr} {q : PV} {xs : List Int} {lo hi sp : Option Int} {p pos : Pos} (hv : Ev C A env X ρ value q) (hq : LI q xs) (h1 : EvP C A env X ρ l lo) (h2 : EvP C A env X ρ u hi) (h3 : EvP C A env X ρ st sp) (h0 : sp ≠ some 0) (hz : xs.length ≤ sizeLine) :
    Ev C A env X ρ (.Subscript value (.Slice l u st p) pos) (.il (pickNums xs lo hi sp)) :=
  slice_run hv h1 h2 h3 list_getitem_lookup hq.type fun s Q E v vl vu vs sl o lv r p1 p2 p3 hs k => by
    obtain ⟨a, ws, rfl, hl, hi'⟩ := hq.rep r
    refine wpAny_getItem_list_slice hl.isList hs p1 p2 p3 h0 ?_ (by simpa [hi'.length] using hz)
    have e : slicePick ws.toArray lo hi sp = (slicePick ws.toArray lo hi sp).toList.toArray := by simp
    rw [e]
    exact k _ _ _ (Full.push _ _).kp (o.full (Full.push _ _)) (rep_new lv (hi'.pick lo hi sp))
theorem Ev.sliceBytes {value : Expr} {l u : Option Expr} {b : List UInt8} {lo hi : Option Int} {p pos : Pos} (hv : Ev C A env X ρ value (.bytes b)) (h1 : EvP C A env X ρ l lo) (h2 : EvP C A env X ρ u hi) (hz : b.length ≤ sizeLine) :
    Ev C A env X ρ (.Subscript value (.Slice l u none p) pos) (.bytes (KBy.picked b.toArray lo hi).toList) :=
  slice_run (sp := none) hv h1 h2 .none FB.slot_bytes_getitem.lookup (fun s v r => by obtain ⟨t, rfl⟩ := r; exact PySem.W.typeIs_bytes _ _ _) fun s Q E v vl vu vs sl o lv r p1 p2 p3 hs k => by
    obtain ⟨t, rfl⟩ := r
    cases p3
    refine getItem_meets (PySem.W.typeIs_bytes _ _ _) (by decide) FB.slot_bytes_getitem FB.entry_bytes_getitem (FB.args_bytes_getitem_2 _ _) (KBc.meets_slice2 b.toArray t sl p1 p2) ⟨hs, Nat.le_trans (KBc.size_picked_le _ lo hi) (by simpa using hz), fun t' tk => ?_⟩
    exact k _ s.heap tk (Kp.refl _) o ⟨t', by simp⟩
end
end Mine
namespace Mine
open PySem PySem.Calls PySem.W PyProof.Rows
variable {C : Cfg}

def PV.plain : PV → Bool
  | .own _ _ => false
  | _ => true
theorem PV.plain_ne {p : PV} (h : p.plain = true) (a : Addr) (xs : List Int) : p ≠ .own a xs := fun e => by rw [e] at h; cases h

/-- the frame's own lists: none was there before, each has one name -/
structure OwnOk (g0 : Heap) (ρ : List (Str × PV)) : Prop where
  new : ∀ x a xs, ρ.lookup x = some (.own a xs) → g0.get? a = none
  one : ∀ x y a xs ys, ρ.lookup x = some (.own a xs) → ρ.lookup y = some (.own a ys) → x = y
theorem OwnOk.put {g0 : Heap} {ρ : List (Str × PV)} {x : Str} {pv : PV} (h : OwnOk g0 ρ) (hp : pv.plain = true) : OwnOk g0 ((x, pv) :: ρ) := by
  have down : ∀ y a xs, ((x, pv) :: ρ).lookup y = some (.own a xs) → ρ.lookup y = some (.own a xs) := fun y a xs e => by
    rw [List.lookup_cons] at e
    cases hb : y == x with
    | true => rw [hb] at e; exact absurd (Option.some.inj e) (PV.plain_ne hp a xs)
    | false => rw [hb] at e; exact e
  exact ⟨fun y a xs e => h.new y a xs (down y a xs e), fun y z a xs ys e e' => h.one y z a xs ys (down y a xs e) (down z a ys e')⟩
theorem OwnOk.set {g0 : Heap} {ρ : List (Str × PV)} {x : Str} {a : Addr} {xs zs : List Int} (h : OwnOk g0 ρ) (hx : ρ.lookup x = some (.own a xs)) : OwnOk g0 ((x, .own a zs) :: ρ) := by
  have down : ∀ y b ys, ((x, PV.own a zs) :: ρ).lookup y = some (.own b ys) → ∃ ys', ρ.lookup y = some (.own b ys') := fun y b ys e => by
    rw [List.lookup_cons] at e
    cases hb : y == x with
    | true => rw [hb] at e; cases e; rw [eq_of_beq hb]; exact ⟨xs, hx⟩
    | false => rw [hb] at e; exact ⟨ys, e⟩
  exact ⟨fun y b ys e => let ⟨_, q⟩ := down y b ys e; h.new y b _ q, fun y z b ys us e e' => let ⟨_, q⟩ := down y b ys e; let ⟨_, q'⟩ := down z b us e'; h.one y z b _ _ q q'⟩
theorem OwnOk.add {g0 : Heap} {ρ : List (Str × PV)} {x : Str} {a : Addr} {zs : List Int} (h : OwnOk g0 ρ) (hg : g0.get? a = none) (hn : ∀ y ys, ρ.lookup y ≠ some (.own a ys)) : OwnOk g0 ((x, .own a zs) :: ρ) := by
  have down : ∀ y b ys, ((x, PV.own a zs) :: ρ).lookup y = some (.own b ys) → (y = x ∧ b = a) ∨ ρ.lookup y = some (.own b ys) := fun y b ys e => by
    rw [List.lookup_cons] at e
    cases hb : y == x with
    | true => rw [hb] at e; cases e; exact .inl ⟨eq_of_beq hb, rfl⟩
    | false => rw [hb] at e; exact .inr e
  refine ⟨fun y b ys e => ?_, fun y z b ys us e e' => ?_⟩
  · rcases down y b ys e with ⟨_, rfl⟩ | q
    · exact hg
    · exact h.new y b _ q
  · rcases down y b ys e with ⟨rfl, rfl⟩ | q <;> rcases down z b us e' with ⟨rfl, r⟩ | q'
    · rfl
    · exact absurd q' (hn _ _)
    · rw [r] at q; exact absurd q (hn _ _)
    · exact h.one y z b _ _ q q'
theorem OwnOk.sub {g0 : Heap} {ρ ρ' : List (Str × PV)} (h : OwnOk g0 ρ) (hs : ∀ x pv, ρ'.lookup x = some pv → ρ.lookup x = some pv) : OwnOk g0 ρ' :=
  ⟨fun y a xs e => h.new y a xs (hs _ _ e), fun y z a xs ys e e' => h.one y z a xs ys (hs _ _ e) (hs _ _ e')⟩
theorem lookup_mem {α : Type} : ∀ {l : List (Str × α)} {n : Str} {c : α}, l.lookup n = some c → (n, c) ∈ l := mem_of_lookup
theorem OwnOk.plain {g0 : Heap} {ns : List Str} {ps : List PV} (h : ps.all PV.plain = true) : OwnOk g0 (ns.zip ps) := by
  have no : ∀ x a xs, (ns.zip ps).lookup x ≠ some (PV.own a xs) := fun x a xs e =>
    PV.plain_ne (List.all_eq_true.mp h _ (List.of_mem_zip (mem_of_lookup e)).2) a xs rfl
  exact ⟨fun x a xs e => absurd e (no x a xs), fun x _ a xs _ e _ => absurd e (no x a xs)⟩

/-- a def's frame between two statements -/
def Stk0 (C : Cfg) (A : Around) (env : Env) (g0 : Heap) : Prop := ∃ outer, A.frames = some (env :: outer) ∧ env.frame = some env.locals ∧ ∀ e ∈ outer, FrAt C g0 e
structure St (C : Cfg) (A : Around) (env : Env) (X : List Addr) (g0 : Heap) (ρ : List (Str × PV)) (h : Heap) : Prop where
  cx : Cx env X ρ h
  ok : Ok C h
  lo : LiveO C X h
  ok0 : Ok C g0
  kp : Kp C g0 h
  ns : ∃ m, h.Ns env.locals m
  cells : ∀ n c, env.cells.lookup n = some c → ∃ v, h.IsCell c v
  apart : env.cells.Pairwise fun x y => x.2 ≠ y.2
  newL : g0.get? env.locals = none
  newC : ∀ n c, (n, c) ∈ env.cells → env.kindOf n = some .cell → g0.get? c = none
  own : OwnOk g0 ρ
  stk : Stk0 C A env g0

section
variable {A : Around} {env : Env} {X : List Addr} {ρ : List (Str × PV)} {g0 : Heap}

theorem St.step {h h' : Heap} (S : St C A env X g0 ρ h) (k : Kp C h h') (o : Ok C h') : St C A env X g0 ρ h' where
  cx := S.cx.kp S.ok k
  ok := o
  lo := S.lo.kp k
  ok0 := S.ok0
  kp := S.kp.trans k
  ns := let ⟨m, n⟩ := S.ns; ⟨m, S.ok.ns k n⟩
  cells := fun n c e => let ⟨v, x⟩ := S.cells n c e; ⟨v, S.ok.cell k x⟩
  apart := S.apart
  newL := S.newL
  newC := S.newC
  own := S.own
  stk := S.stk

def Puts (env : Env) (x : Str) : Prop := env.kindOf x = some .local ∨ (env.kindOf x = some .cell ∧ (env.cells.lookup x).isSome = true)

theorem St.nog {h : Heap} (S : St C A env X g0 ρ h) {a : Addr} (e : g0.get? a = none) : C.g.get? a = none := by
  cases q : C.g.get? a with
  | none => rfl
  | some o => rw [S.ok0.up _ _ q] at e; cases e

theorem St.live {h : Heap} (S : St C A env X g0 ρ h) : Live C A X h := by
  obtain ⟨outer, hA, hf, r⟩ := S.stk
  refine ⟨S.lo, _, hA, fun e he => ?_⟩
  rcases List.mem_cons.mp he with rfl | he
  · obtain ⟨m, n⟩ := S.ns
    have n' := n
    obtain ⟨o, es, ep, e1, d1, _⟩ := n'
    exact ⟨S.cx.fn, _, m, hf, S.nog S.newL, S.ok.notT' e1 (by rw [d1]; nofun), n⟩
  · exact (r e he).kp S.kp

/-- one object changes; what the names say is told anew -/
theorem St.at {h h' : Heap} {a : Addr} {oa : Obj} {ρ' : List (Str × PV)} (S : St C A env X g0 ρ h) (ha : h.get? a = some oa) (hd : Aside oa) (hg : g0.get? a = none) (hk : ∀ b o, b ≠ a → h.get? b = some o → h'.get? b = some o)
    (hns : ∃ m, h'.Ns env.locals m) (hcl : ∀ n c, env.cells.lookup n = some c → ∃ v, h'.IsCell c v) (hvar : ∀ y pw, ρ'.lookup y = some pw → ∃ u, Var env h' y u ∧ Rep X h' u pw) (hw : OwnOk g0 ρ') : St C A env X g0 ρ' h' := by
  refine ⟨⟨S.cx.fn, S.cx.glob, S.cx.blt, hvar⟩, ⟨fun b o e => hk b o (fun q => by rw [q, S.nog hg] at e; cases e) (S.ok.up b o e), C.tabBut _ _ a oa S.ok.tab ha hd.tab hk⟩, fun b hb => ⟨(S.lo b hb).1, ?_⟩, S.ok0, S.kp.but hg hk, hns, hcl, S.apart, S.newL, S.newC, hw, S.stk⟩
  obtain ⟨its, n, e⟩ := (S.lo b hb).2
  by_cases q : b = a
  · subst q; rw [ha] at e; cases e; exact absurd rfl (hd.ns _ _)
  · exact ⟨its, n, hk b _ q e⟩

/-- an object that is none of the frame's changes -/
theorem St.other {h h' : Heap} {a : Addr} {oa : Obj} (S : St C A env X g0 ρ h) (ha : h.get? a = some oa) (hd : Aside oa) (hg : g0.get? a = none) (hL : env.locals ≠ a) (hC : ∀ n c, env.cells.lookup n = some c → c ≠ a)
    (hk : ∀ b o, b ≠ a → h.get? b = some o → h'.get? b = some o) : St C A env X g0 ρ h' := by
  refine S.at ha hd hg hk (let ⟨m, n⟩ := S.ns; ⟨m, n.at' fun o e => hk _ o hL e⟩) (fun n c e => let ⟨v, o, e1, e2⟩ := S.cells n c e; ⟨v, o, hk _ o (hC n c e) e1, e2⟩) (fun y pw e => ?_) S.own
  obtain ⟨u, hu, ru⟩ := S.cx.var y pw e
  refine ⟨u, ?_, ru.but ha hd hk⟩
  rcases hu with ⟨a1, m1, n1, b1⟩ | ⟨a1, c1, n1, o1, e1, b1⟩
  · exact .inl ⟨a1, m1, n1.at' fun o e => hk _ o hL e, b1⟩
  · exact .inr ⟨a1, c1, n1, o1, hk _ _ (hC y c1 n1) e1, b1⟩

/-- a local name is stored -/
theorem St.storeL {s : Shared} {x : Str} {v : Value} {pv : PV} {Q : Unit → Shared → Prop} {E : Value → Shared → Prop} (S : St C A env X g0 ρ s.heap) (hl : env.kindOf x = some .local) (r : Rep X s.heap v pv) (hw : OwnOk g0 ((x, pv) :: ρ))
    (k : ∀ h' tk, St C A env X g0 ((x, pv) :: ρ) h' → Heap.SameBut env.locals s.heap h' → Q () { s with heap := h', toks := tk }) : wpAny C.M A (storeName env x v) Q E s := by
  obtain ⟨m, hn⟩ := S.ns
  have hn' := hn
  obtain ⟨oa, es, ep, ha, hd, _⟩ := hn'
  refine wpAny_storeName_local hl hn (fun h' hn₁ hs₁ => k h' _ ?_ hs₁) (by rw [S.cx.fn]; rfl)
  have hk : ∀ b o, b ≠ env.locals → s.heap.get? b = some o → h'.get? b = some o := fun b o q e => hs₁.extBut b o q e
  refine S.at ha (.dict hd) S.newL hk ⟨_, hn₁⟩ (fun n c e => ?_) (fun y pw e => ?_) hw
  · obtain ⟨v', hv'⟩ := S.cells n c e
    refine ⟨v', hv'.sameBut hs₁ fun q => ?_⟩
    obtain ⟨oc, e1, e2⟩ := hv'
    rw [q, ha] at e1; cases e1; rw [hd] at e2; cases e2
  · rw [List.lookup_cons] at e
    by_cases hy : y = x
    · subst hy
      simp only [BEq.rfl] at e
      cases e
      exact ⟨v, .inl ⟨hl, _, hn₁, by simp⟩, r.but ha (.dict hd) hk⟩
    · have hb : (y == x) = false := beq_eq_false_iff_ne.mpr hy
      rw [hb] at e
      obtain ⟨u, hu, ru⟩ := S.cx.var y pw e
      refine ⟨u, ?_, ru.but ha (.dict hd) hk⟩
      rcases hu with ⟨a1, m1, n1, b1⟩ | ⟨a1, c1, n1, b1⟩
      · refine .inl ⟨a1, _, hn₁, ?_⟩
        rw [if_neg hy]
        obtain ⟨o1, es1, ep1, e1, d1, _, f1⟩ := n1
        obtain ⟨o2, es2, ep2, e2, d2, _, f2⟩ := hn
        rw [e1] at e2; cases e2; rw [d1] at d2; cases d2
        rw [← f2 y, f1 y]; exact b1
      · refine .inr ⟨a1, c1, n1, b1.sameBut hs₁ fun q => ?_⟩
        obtain ⟨oc, e1, e2⟩ := b1
        rw [q, ha] at e1; cases e1; rw [hd] at e2; cases e2

/-- one name is stored -/
theorem St.storeK {s : Shared} {x : Str} {v : Value} {pv : PV} {Q : Unit → Shared → Prop} {E : Value → Shared → Prop} (S : St C A env X g0 ρ s.heap) (hx : Puts env x) (r : Rep X s.heap v pv) (hw : OwnOk g0 ((x, pv) :: ρ))
    (k : ∀ h' tk, St C A env X g0 ((x, pv) :: ρ) h' → (∀ b o, b ≠ env.locals → (∀ n c, env.cells.lookup n = some c → b ≠ c) → s.heap.get? b = some o → h'.get? b = some o) → Q () { s with heap := h', toks := tk }) : wpAny C.M A (storeName env x v) Q E s := by
  rcases hx with hl | ⟨hl, hc⟩
  · exact S.storeL hl r hw fun h' tk S' hs => k h' tk S' fun b o q _ e => hs.extBut b o q e
  · obtain ⟨c, hc⟩ := Option.isSome_iff_exists.mp hc
    obtain ⟨v0, hv0⟩ := S.cells x c hc
    have hv0' := hv0
    obtain ⟨oa, ha, hd⟩ := hv0'
    refine wpAny_storeName_cell S.cx.fn hl hc hv0 fun h' hc₁ hs₁ => k h' s.toks ?_ fun b o _ q e => hs₁.extBut b o (q x c hc) e
    have hk : ∀ b o, b ≠ c → s.heap.get? b = some o → h'.get? b = some o := fun b o q e => hs₁.extBut b o q e
    have neL : env.locals ≠ c := fun q => by
      obtain ⟨m, o, es, ep, e1, e2, _⟩ := S.ns
      rw [q, ha] at e1; cases e1; rw [hd] at e2; cases e2
    refine S.at ha (.cell hd) (S.newC x c (mem_of_lookup hc) hl) hk (let ⟨m, n⟩ := S.ns; ⟨m, n.sameBut hs₁ neL⟩) (fun n c' e => ?_) (fun y pw e => ?_) hw
    · by_cases q : c' = c
      · subst q; exact ⟨_, hc₁⟩
      · obtain ⟨v', hv'⟩ := S.cells n c' e
        exact ⟨v', hv'.sameBut hs₁ q⟩
    · rw [List.lookup_cons] at e
      by_cases hy : y = x
      · subst hy
        simp only [BEq.rfl] at e
        cases e
        exact ⟨v, .inr ⟨.inl hl, c, hc, hc₁⟩, r.but ha (.cell hd) hk⟩
      · have hb : (y == x) = false := beq_eq_false_iff_ne.mpr hy
        rw [hb] at e
        obtain ⟨u, hu, ru⟩ := S.cx.var y pw e
        refine ⟨u, ?_, ru.but ha (.cell hd) hk⟩
        rcases hu with ⟨a1, m1, n1, b1⟩ | ⟨a1, c1, n1, b1⟩
        · exact .inl ⟨a1, m1, n1.sameBut hs₁ neL, b1⟩
        · exact .inr ⟨a1, c1, n1, b1.sameBut hs₁ fun q => hy (name_of_addr S.apart (mem_of_lookup n1) (q ▸ mem_of_lookup hc))⟩

theorem St.store {s : Shared} {x : Str} {v : Value} {pv : PV} {Q : Unit → Shared → Prop} {E : Value → Shared → Prop} (S : St C A env X g0 ρ s.heap) (hx : Puts env x) (r : Rep X s.heap v pv) (hp : pv.plain = true)
    (k : ∀ h' tk, St C A env X g0 ((x, pv) :: ρ) h' → Q () { s with heap := h', toks := tk }) : wpAny C.M A (storeName env x v) Q E s := S.storeK hx r (S.own.put hp) fun h' tk S' _ => k h' tk S'

theorem St.sub {h : Heap} {ρ' : List (Str × PV)} (S : St C A env X g0 ρ h) (hs : ∀ x pv, ρ'.lookup x = some pv → ρ.lookup x = some pv) : St C A env X g0 ρ' h :=
  { S with cx := ⟨S.cx.fn, S.cx.glob, S.cx.blt, fun x pv e => S.cx.var x pv (hs x pv e)⟩, own := S.own.sub hs }

/-- a smaller environment, name by name -/
theorem lk_nil {ρ : List (Str × PV)} : ∀ x pv, ([] : List (Str × PV)).lookup x = some pv → ρ.lookup x = some pv := fun _ _ e => by cases e
theorem lk_cons {ρ r : List (Str × PV)} {x : Str} {pv : PV} (h : ρ.lookup x = some pv) (t : ∀ y pw, r.lookup y = some pw → ρ.lookup y = some pw) : ∀ y pw, ((x, pv) :: r).lookup y = some pw → ρ.lookup y = some pw := fun y pw e => by
  rw [List.lookup_cons] at e
  cases hb : y == x with
  | true => rw [hb] at e; cases e; rw [eq_of_beq hb]; exact h
  | false => rw [hb] at e; exact t y pw e

section stmts
variable {s : Shared} {Q : Flow → Shared → Prop} {E : Value → Shared → Prop} {rest : List Stmt}

def Nxt (C : Cfg) (A : Around) (env : Env) (rest : List Stmt) (Q : Flow → Shared → Prop) (E : Value → Shared → Prop) (f : Flow) (s' : Shared) : Prop := match f with
  | .next => wpAny C.M A (execs rest env) Q E s'
  | f => Q f s'

theorem do_assign {x : Str} {p pos : Pos} {e : Expr} {pv : PV} (S : St C A env X g0 ρ s.heap) (he : Ev C A env X ρ e pv) (hx : Puts env x)
    (k : ∀ h' tk, St C A env X g0 ((x, pv) :: ρ) h' → wpAny C.M A (execs rest env) Q E { s with heap := h', toks := tk }) (hp : pv.plain = true := by rfl) (hs : swapsWith e (some (.Name x p)) pos.line env = pure false := by rfl) :
    wpAny C.M A (execs (.Assign [.Name x p] e pos :: rest) env) Q E s := by
  refine wpAny_execs_cons (wpAny_Assign_Name (he s _ E S.cx S.ok S.live fun v h₁ tk₁ k₁ o₁ r₁ => ?_) hs)
  exact St.store (s := { s with heap := h₁, toks := tk₁ }) (S.step k₁ o₁) hx r₁ hp fun h₂ tk₂ S₂ => k h₂ tk₂ S₂

theorem do_if {t : Expr} {body orelse : List Stmt} {pos : Pos} {b : Bool} (S : St C A env X g0 ρ s.heap) (ht : Tst C A env X ρ t b)
    (k : ∀ h' tk, St C A env X g0 ρ h' → wpAny C.M A (execs (if b then body else orelse) env) (Nxt C A env rest Q E) E { s with heap := h', toks := tk }) : wpAny C.M A (execs (.If t body orelse pos :: rest) env) Q E s := by
  refine wpAny_execs_cons (wpAny_If (ht s _ E S.cx S.ok S.live fun h₁ tk₁ k₁ o₁ => ?_))
  have := k h₁ tk₁ (S.step k₁ o₁)
  cases b with
  | true => exact this
  | false => exact this
theorem do_ifT {t : Expr} {body orelse : List Stmt} {pos : Pos} (S : St C A env X g0 ρ s.heap) (ht : Tst C A env X ρ t true)
    (k : ∀ h' tk, St C A env X g0 ρ h' → wpAny C.M A (execs body env) (Nxt C A env rest Q E) E { s with heap := h', toks := tk }) : wpAny C.M A (execs (.If t body orelse pos :: rest) env) Q E s := do_if S ht k
theorem do_ifF {t : Expr} {body orelse : List Stmt} {pos : Pos} (S : St C A env X g0 ρ s.heap) (ht : Tst C A env X ρ t false)
    (k : ∀ h' tk, St C A env X g0 ρ h' → wpAny C.M A (execs orelse env) (Nxt C A env rest Q E) E { s with heap := h', toks := tk }) : wpAny C.M A (execs (.If t body orelse pos :: rest) env) Q E s := do_if S ht k
theorem do_ifF0 {t : Expr} {body : List Stmt} {pos : Pos} (S : St C A env X g0 ρ s.heap) (ht : Tst C A env X ρ t false)
    (k : ∀ h' tk, St C A env X g0 ρ h' → wpAny C.M A (execs rest env) Q E { s with heap := h', toks := tk }) : wpAny C.M A (execs (.If t body [] pos :: rest) env) Q E s := do_if S ht fun h' tk S' => wpAny_execs_nil (k h' tk S')
theorem do_nil (S : St C A env X g0 ρ s.heap) (k : Q .next s) : wpAny C.M A (execs [] env) Q E s := wpAny_execs_nil k

theorem do_return {e : Expr} {pos : Pos} {pv : PV} (S : St C A env X g0 ρ s.heap) (he : Ev C A env X ρ e pv) (k : ∀ v h' tk, Kp C g0 h' → Ok C h' → Rep X h' v pv → Q (.ret v) { s with heap := h', toks := tk }) :
    wpAny C.M A (execs (.Return (some e) pos :: rest) env) Q E s := by
  refine wpAny_execs_cons (wpAny_Return_some (he s _ E S.cx S.ok S.live fun v h₁ tk₁ k₁ o₁ r₁ => ?_))
  exact k v h₁ tk₁ (S.kp.trans k₁) o₁ r₁

theorem do_while {t : Expr} {body : List Stmt} {pos : Pos} {σ : Type} (f : σ → List (Str × PV)) (μ : σ → Nat) (P : σ → Prop) (b : σ → Bool) (a : σ) (hP : P a) (S : St C A env X g0 (f a) s.heap)
    (ht : ∀ a, P a → Tst C A env X (f a) t (b a))
    (turn : ∀ a (s' : Shared) (Q' : Flow → Shared → Prop) (E' : Value → Shared → Prop), P a → b a = true → St C A env X g0 (f a) s'.heap → (∀ a' h' tk, P a' → μ a' < μ a → St C A env X g0 (f a') h' → Q' .next { s' with heap := h', toks := tk }) → wpAny C.M A (execs body env) Q' E' s')
    (k : ∀ a h' tk, P a → b a = false → St C A env X g0 (f a) h' → wpAny C.M A (execs rest env) Q E { s with heap := h', toks := tk }) : wpAny C.M A (execs (.While t body [] pos :: rest) env) Q E s := by
  refine wpAny_execs_cons (wpAny_While (codeAny_whileLoop (fun n s' => ∃ a h tk, s' = { s with heap := h, toks := tk } ∧ μ a = n ∧ P a ∧ St C A env X g0 (f a) h) ?_ (μ a) ⟨a, s.heap, s.toks, rfl, rfl, hP, S⟩))
  rintro n s' ⟨a, h, tk, rfl, rfl, hPa, Sa⟩
  refine ht a hPa _ _ _ Sa.cx Sa.ok Sa.live fun h₁ tk₁ k₁ o₁ => ?_
  cases hb : b a with
  | false =>
    simp only [Bool.false_eq_true, if_false]
    exact wpAny_execs_nil (k a h₁ tk₁ hPa hb (Sa.step k₁ o₁))
  | true =>
    simp only [if_true]
    exact turn a _ _ _ hPa hb (Sa.step k₁ o₁) fun a' h' tk' hp hm S' => ⟨μ a', hm, a', h', tk', rfl, rfl, hp, S'⟩

end stmts
end

/-! a def's call -/
theorem codeRec_at {cd : Value} {q : Str} (h : codeIn C.K cd q = true) : C.g.CodeRec cd q := codeRec_of C.kIn h

theorem bindL_get {kindOf : Str → Option NameKind} {x : Str} : ∀ (binds : List (Str × Value)) (m : Str → Option Value), x ∉ binds.map (·.1) → bindL kindOf binds m x = m x
  | [], _, _ => rfl
  | (n, v) :: r, m, h => by
    simp only [List.map_cons, List.mem_cons, not_or] at h
    unfold bindL
    rw [bindL_get r _ h.2]
    split
    · simp [h.1]
    · rfl
theorem bindL_at {kindOf : Str → Option NameKind} {x : Str} {v : Value} : ∀ (binds : List (Str × Value)) (m : Str → Option Value), (binds.map (·.1)).Nodup → (x, v) ∈ binds → kindOf x = some .local → bindL kindOf binds m x = some v
  | (n, w) :: r, m, hn, hm, hk => by
    simp only [List.map_cons, List.nodup_cons] at hn
    unfold bindL
    rcases List.mem_cons.mp hm with e | hm
    · cases e
      rw [bindL_get r _ hn.1, if_pos hk]; simp
    · exact bindL_at r _ hn.2 hm hk
theorem bindC_get {kindOf : Str → Option NameKind} {x : Str} : ∀ (binds : List (Str × Value)) (m : Str → Option Value), x ∉ binds.map (·.1) → bindC kindOf binds m x = m x
  | [], _, _ => rfl
  | (n, v) :: r, m, h => by
    simp only [List.map_cons, List.mem_cons, not_or] at h
    unfold bindC
    rw [bindC_get r _ h.2]
    split
    · rfl
    · simp [h.1]
theorem bindC_at {kindOf : Str → Option NameKind} {x : Str} {v : Value} : ∀ (binds : List (Str × Value)) (m : Str → Option Value), (binds.map (·.1)).Nodup → (x, v) ∈ binds → kindOf x ≠ some .local → bindC kindOf binds m x = some v
  | (n, w) :: r, m, hn, hm, hk => by
    simp only [List.map_cons, List.nodup_cons] at hn
    unfold bindC
    rcases List.mem_cons.mp hm with e | hm
    · cases e
      rw [bindC_get r _ hn.1, if_neg hk]; simp
    · exact bindC_at r _ hn.2 hm hk

theorem reps_zip {X : List Addr} {h : Heap} : ∀ {vs : List Value} {ps : List PV}, Reps X h vs ps → ∀ (ns : List Str) (x : Str) (pv : PV), ns.length = ps.length → (ns.zip ps).lookup x = some pv → ∃ v, (x, v) ∈ ns.zip vs ∧ Rep X h v pv
  | _, _, .nil, ns, x, pv, hl, e => by
    cases ns with
    | nil => cases e
    | cons => cases hl
  | _, _, .cons (v := v) (p := p) r t, ns, x, pv, hl, e => by
    cases ns with
    | nil => cases hl
    | cons n ns =>
      rw [List.zip_cons_cons, List.lookup_cons] at e
      cases hb : x == n with
      | true => rw [hb] at e; cases e; rw [eq_of_beq hb]; exact ⟨v, .head _, r⟩
      | false =>
        rw [hb] at e
        obtain ⟨u, hu, ru⟩ := reps_zip t ns x pv (by simpa using hl) e
        exact ⟨u, .tail _ hu, ru⟩

theorem Reps.len {X : List Addr} {h : Heap} {vs : List Value} {ps : List PV} (r : Reps X h vs ps) : vs.length = ps.length := by
  induction r with
  | nil => rfl
  | cons _ _ ih => simp [ih]

theorem Cal.fn {A : Around} {d : Nat} {a : Addr} {name qual : Str} {params : Arguments} {body : List Stmt} {scope : Scope} {dV kV doc pm cdv ct oc : Value} {an od : Option Addr} {osl : Array (Option Value)} {ps : List PV} {r : PV} (rm : Room A (d + 1)) (ns : List Str)
    (ho : C.K.lookup a = some ⟨oc, od, .func (fnOf name qual params body scope dV kV doc pm an cdv ct), osl⟩) (hcd : codeIn C.K cdv qual = true)
    (hbind : ∀ vs : List Value, vs.length = ns.length → bindArgs (fnOf name qual params body scope dV kV doc pm an cdv ct) ⟨vs, []⟩ = pure (ns.zip vs))
    (hkind : (ns.all fun y => scope.names.lookup y == some .local || scope.names.lookup y == some .cell) = true) (hnd : ns.Nodup) (hlen : ns.length = ps.length) (hno : ps.all PV.plain = true)
    (hco : scope.isCoroutine = false) (hgen : scope.isGenerator = false) (hk : scope.kind = .function)
    (h : ∀ (X : List Addr) (L : Addr) (g0 : Heap) (s : Shared) (Q : Flow → Shared → Prop) (E : Value → Shared → Prop),
      Room (A.deeper (envX qual scope L a cdv (cellsFrom (L + 1) scope.names []))) d → St C (A.deeper (envX qual scope L a cdv (cellsFrom (L + 1) scope.names []))) (envX qual scope L a cdv (cellsFrom (L + 1) scope.names [])) X g0 (ns.zip ps) s.heap →
      (∀ v h' tk, Kp C g0 h' → Ok C h' → Rep X h' v r → Q (.ret v) { s with heap := h', toks := tk }) →
      wpAny C.M (A.deeper (envX qual scope L a cdv (cellsFrom (L + 1) scope.names []))) (execs body (envX qual scope L a cdv (cellsFrom (L + 1) scope.names []))) Q E s) :
    Cal C A (.ref a) ps r := by
  intro X s Q E vs o lv rs k
  have hg := o.up _ _ (C.kIn _ _ ho)
  refine wpAny_call (codeAny_call_cells (fd := fnOf name qual params body scope dV kV doc pm an cdv ct) (binds := ns.zip vs) rm.depth hg rfl (C.lim.keeps o.up) ((codeRec_at hcd).keeps o.up) rfl (hbind vs (by rw [rs.len, hlen])) rfl ?_ ?_ hco hgen hk)
  · intro x hx
    have hm : x.1 ∈ ns := (List.of_mem_zip hx).1
    have := List.all_eq_true.mp hkind x.1 hm
    rcases Bool.or_eq_true_iff.mp this with q | q
    · exact .inl (by simpa using q)
    · have q' : scope.names.lookup x.1 = some .cell := by simpa using q
      exact .inr ⟨q', cellsFrom_some _ _ _ (.inl q')⟩
  · intro s₁ I
    have hk₁ : Full s.heap s₁.heap := I.toInCall.keep
    obtain ⟨h₁, tk₁, rfl, _⟩ := I.done
    have hzip : ((ns.zip vs).map (·.1)) = ns := by
      rw [List.map_fst_zip]; rw [rs.len, hlen]; exact Nat.le_refl _
    have fresh : ∀ b, s.heap.objs.size ≤ b → s.heap.get? b = none := fun b hb => Heap.get?_none_of_le hb
    refine wpAny_mono (h X s.heap.objs.size s.heap _ (fun f s' => Q (match f with | .ret v => v | _ => .none) s') (fun _ _ => False) (rm.deeper _) ?_ fun v h' tk kp ok rp => k v h' tk kp ok rp) (fun f s' q => q) fun _ _ q => q.elim
    refine ⟨⟨hk, rfl, rfl, fun x pv e => ?_⟩, o.full hk₁, lv.lo.kp hk₁.kp, o, hk₁.kp, ⟨_, I.toInCall.ns⟩, fun n c e => ⟨_, I.cell n c e⟩, I.apart, fresh _ (Nat.le_refl _), fun n c hm _ => fresh _ (Nat.le_of_lt (I.above n c hm)), .plain hno, let ⟨l, hA, r⟩ := lv.stk; ⟨l, Around.frames_deeper hA, rfl, r⟩⟩
    obtain ⟨v, hm, rv⟩ := reps_zip rs ns x pv hlen e
    refine ⟨v, ?_, rv.kp o hk₁.kp⟩
    have hx : x ∈ ns := (List.of_mem_zip hm).1
    have := List.all_eq_true.mp hkind x hx
    rcases Bool.or_eq_true_iff.mp this with q | q
    · have q' : scope.names.lookup x = some .local := by simpa using q
      exact .inl ⟨q', _, I.toInCall.ns, bindL_at _ _ (by rw [hzip]; exact hnd) hm q'⟩
    · have q' : scope.names.lookup x = some .cell := by simpa using q
      obtain ⟨c, hc⟩ := Option.isSome_iff_exists.mp (cellsFrom_some scope.names (s.heap.objs.size + 1) [] (.inl q'))
      refine .inr ⟨.inl q', c, hc, ?_⟩
      have hcell := I.cell x c hc
      have e2 : bindC (callEnvC (fnOf name qual params body scope dV kV doc pm an cdv ct) s.heap.objs.size a).kindOf (ns.zip vs) (fun _ => none) x = some v :=
        bindC_at _ _ (by rw [hzip]; exact hnd) hm (by show scope.names.lookup x ≠ _; rw [q']; nofun)
      rw [e2] at hcell
      exact hcell
end Mine
namespace Mine
open PySem PySem.Calls PySem.W PyProof.Rows
variable {C : Cfg}

/-- an iterator's own object -/
structure IterObj (o : Obj) : Prop where
  nn : o.cls ≠ .none
  ncd : o.cls ≠ .type "code"
  nr : o.cls ≠ .type "range"
  nd : ∀ es ep, o.data ≠ .dict es ep
  nc : ∀ v, o.data ≠ .cell v
  ns : ∀ v n, o.data ≠ .seq v n
  nfn : isFn o.data = false
theorem IterObj.aside {o : Obj} (h : IterObj o) : Aside o := ⟨h.ns, h.nfn, .inr ⟨h.nn, h.ncd, h.nr⟩⟩

/-- the values that nobody owns are kept -/
def KpV (X : List Addr) (h h' : Heap) : Prop := ∀ b o, b ∉ X → IsVal o → h.get? b = some o → h'.get? b = some o
theorem Kp.v {X : List Addr} {h h' : Heap} (k : Kp C h h') (o : Ok C h) : KpV X h h' := fun b ob _ hv e => k.ex (o.notT e hv.cls) e hv.nd

/-! things to go over -/
def Walk (C : Cfg) (A : Around) (X : List Addr) (g₁ : Heap) (items : List PV) (I : Addr) (h : Heap) : Prop :=
  ∃ (fp : List Addr) (P : Nat → Value → Prop) (Stt : Nat → Heap → Prop), Walks C.prog C.w A I fp [I] items.length P Stt ∧ Stt 0 h ∧ g₁.get? I = none ∧ Full g₁ h ∧ (∀ b ∈ fp, b = I ∨ (b ∉ X ∧ ∃ o, g₁.get? b = some o ∧ IsVal o)) ∧
    (∀ i h, Stt i h → ∃ o, h.get? I = some o ∧ IterObj o) ∧ (∀ i v h, P i v → KpV X g₁ h → i < items.length → ∃ p, items[i]? = some p ∧ Rep X h v p)

def Src (C : Cfg) (A : Around) (X : List Addr) (p : PV) (items : List PV) : Prop :=
  ∀ (s : Shared) (Q : Value → Shared → Prop) (E : Value → Shared → Prop) (v : Value), Ok C s.heap → Live C A X s.heap → Rep X s.heap v p →
    (∀ I h₁ tk, Walk C A X s.heap items I h₁ → Q (.ref I) { s with heap := h₁, toks := tk }) → wpAny C.M A (pyIter v) Q E s

section
variable {A : Around} {env : Env} {X : List Addr} {ρ : List (Str × PV)} {g0 : Heap}

theorem Src.eq {p : PV} {a b : List PV} (h : Src C A X p a) (e : a = b) : Src C A X p b := e ▸ h

theorem fp_two {P : Addr → Prop} {I a : Addr} (h : P a) : ∀ b ∈ [I, a], b = I ∨ P b := fun b hb => by
  rcases List.mem_cons.mp hb with rfl | hb
  · exact .inl rfl
  · rw [List.mem_singleton.mp hb]; exact .inr h
theorem fp_one {P : Addr → Prop} {I : Addr} : ∀ b ∈ [I], b = I ∨ P b := fun b hb => .inl (List.mem_singleton.mp hb)

theorem Src.list {d : Nat} (rm : Room A d) {xs : List Int} : Src C A X (.il xs) (xs.map .int) := by
  intro s Q E v o lv r k
  obtain ⟨a, vs, rfl, hX, hl, hi⟩ := r
  have hl' := hl
  obtain ⟨n, ho⟩ := hl'
  have hlt : a < s.heap.objs.size := Heap.lt_size ho
  have W := Walks.list (prog := C.prog) (w := C.w) (A := A) rm.hd s.heap.objs.size a (Nat.ne_of_lt hlt) vs.toArray
  have e : vs.toArray.size = (xs.map PV.int).length := by simp [hi.length]
  rw [e] at W
  refine wpAny_pyIter_list hl.isList (k _ _ s.toks ?_)
  refine ⟨_, _, _, W, ⟨⟨_, Heap.get?_push_size _ rfl, rfl, rfl⟩, hl.isList.push _⟩, fresh_size _, Full.push _ _, fp_two ⟨hX, _, ho, isValL⟩, ?_, ?_⟩
  · rintro i h ⟨⟨ob, e1, e2, e3⟩, _⟩
    exact ⟨ob, e1, by rw [e2]; nofun, by rw [e2]; decide, by rw [e2]; decide, by rw [e3]; nofun, by rw [e3]; nofun, by rw [e3]; nofun, by rw [e3]; rfl⟩
  · intro i v h hv _ hlt
    obtain ⟨n, t, e, e'⟩ := hi.at i v (by simpa using hv)
    exact ⟨.int n, by simp [e'], t, e⟩

theorem tup_notX {h : Heap} {a : Addr} {its : Array Value} (lv : Live C A X h) (hl : PTup h a its) : a ∉ X := fun ha => by
  obtain ⟨_, its', n, e⟩ := lv.lo a ha
  obtain ⟨m, e'⟩ := hl
  rw [e] at e'
  exact absurd (congrArg Obj.cls (Option.some.inj e')) (by show Value.type "list" ≠ Value.type "tuple"; decide)

theorem Src.tuple {d : Nat} (rm : Room A d) {xs : List Int} : Src C A X (.it xs) (xs.map .int) := by
  intro s Q E v o lv r k
  obtain ⟨a, vs, rfl, hl, hi⟩ := r
  have hX := tup_notX lv hl
  obtain ⟨n, ho⟩ := hl
  have hlt : a < s.heap.objs.size := Heap.lt_size ho
  have ht : s.heap.IsTuple a vs.toArray := ⟨_, ho, rfl, n, rfl⟩
  have W := Walks.tuple (prog := C.prog) (w := C.w) (A := A) rm.hd s.heap.objs.size a (Nat.ne_of_lt hlt) vs.toArray
  have e : vs.toArray.size = (xs.map PV.int).length := by simp [hi.length]
  rw [e] at W
  refine wpAny_pyIter_tuple ht (k _ _ s.toks ?_)
  refine ⟨_, _, _, W, ⟨⟨_, Heap.get?_push_size _ rfl, rfl, rfl⟩, ht.push _⟩, fresh_size _, Full.push _ _, fp_two ⟨hX, _, ho, isValL⟩, ?_, ?_⟩
  · rintro i h ⟨⟨ob, e1, e2, e3⟩, _⟩
    exact ⟨ob, e1, by rw [e2]; nofun, by rw [e2]; decide, by rw [e2]; decide, by rw [e3]; nofun, by rw [e3]; nofun, by rw [e3]; nofun, by rw [e3]; rfl⟩
  · intro i v h hv _ hlt
    obtain ⟨n, t, e, e'⟩ := hi.at i v (by simpa using hv)
    exact ⟨.int n, by simp [e'], t, e⟩

theorem Src.range {d : Nat} (rm : Room A d) {a b c : Int} (hs : Builtin.Range.small a b c = true) (n : Nat) (hn : Builtin.Range.rangeSize a b c = n) : Src C A X (.rg a b c) ((List.range n).map fun (i : Nat) => PV.int (a + (i : Int) * c)) := by
  intro s Q E v o lv r k
  obtain ⟨r, t, u, w, rfl, hr⟩ := r
  have W := Walks.range (prog := C.prog) (w := C.w) (A := A) rm.hd s.heap.objs.size a c n
  have e : ((List.range n).map fun (i : Nat) => PV.int (a + (i : Int) * c)).length = n := by simp
  refine wpAny_pyIter_range hr hs (k _ _ s.toks ?_)
  refine ⟨[s.heap.objs.size], _, fun i h => IsRangeIter h s.heap.objs.size (a + (i : Nat) * c) ((n : Int) - (i : Nat)) c, by rw [e]; exact W, ?_, fresh_size _, Full.push _ _, fp_one, ?_, ?_⟩
  · show IsRangeIter _ _ _ _ _
    rw [hn]
    simpa using Heap.get?_push_size _ rfl
  · intro i h hi
    exact ⟨_, hi, nofun, by show Value.type "range_iterator" ≠ Value.type "code"; decide, by show Value.type "range_iterator" ≠ Value.type "range"; decide, nofun, nofun, nofun, rfl⟩
  · rintro i v h ⟨t, rfl⟩ _ hlt
    exact ⟨.int (a + i * c), by rw [List.getElem?_map, List.getElem?_range (by simpa using hlt)]; rfl, t, rfl⟩

theorem Src.bytes {d : Nat} (rm : Room A d) {b : List UInt8} : Src C A X (.bytes b) (b.map fun c => .int (c.toNat : Int)) := by
  intro s Q E v o lv r k
  obtain ⟨t, rfl⟩ := r
  have W := KBw.walks (prog := C.prog) (w := C.w) (A := A) rm.hd s.heap.objs.size b.toArray t
  have e : b.toArray.size = (b.map fun c => PV.int (c.toNat : Int)).length := by simp
  rw [e] at W
  refine KBw.pyIter_bytes (k _ _ s.toks ?_)
  refine ⟨_, _, _, W, ⟨_, Heap.get?_push_size _ rfl, rfl, rfl⟩, fresh_size _, Full.push _ _, fp_one, ?_, ?_⟩
  · rintro i h ⟨ob, e1, e2, e3⟩
    exact ⟨ob, e1, by rw [e2]; nofun, by rw [e2]; decide, by rw [e2]; decide, by rw [e3]; nofun, by rw [e3]; nofun, by rw [e3]; nofun, by rw [e3]; rfl⟩
  · rintro i v h ⟨c, u, hc, rfl⟩ _ hlt
    have hc' : b[i]? = some c := by simpa using hc
    exact ⟨.int c.toNat, by simp [hc'], u, rfl⟩

theorem AllTup.get {h : Heap} : ∀ {vs : List Value} {xss : List (List Int)}, AllTup h vs xss → ∀ (i : Nat) (v : Value), vs[i]? = some v → ∃ xs, xss[i]? = some xs ∧ RepTup h v xs
  | _, _, .nil, i, v, e => by simp at e
  | _, _, .cons hr t, 0, v, e => by simp at e; subst e; exact ⟨_, rfl, hr⟩
  | _, _, .cons hr t, i + 1, v, e => by simp at e; simpa using AllTup.get t i v e
theorem AllTup.length {h : Heap} : ∀ {vs : List Value} {xss : List (List Int)}, AllTup h vs xss → vs.length = xss.length
  | _, _, .nil => rfl
  | _, _, .cons _ t => by simp [AllTup.length t]

theorem Src.tups {d : Nat} (rm : Room A d) {xss : List (List Int)} : Src C A X (.tl xss) (xss.map .it) := by
  intro s Q E v o lv r k
  obtain ⟨a, vs, rfl, hX, hl, hi⟩ := r
  have hl' := hl
  obtain ⟨n, ho⟩ := hl'
  have hlt : a < s.heap.objs.size := Heap.lt_size ho
  have W := Walks.list (prog := C.prog) (w := C.w) (A := A) rm.hd s.heap.objs.size a (Nat.ne_of_lt hlt) vs.toArray
  have e : vs.toArray.size = (xss.map PV.it).length := by simp [hi.length]
  rw [e] at W
  refine wpAny_pyIter_list hl.isList (k _ _ s.toks ?_)
  refine ⟨_, _, _, W, ⟨⟨_, Heap.get?_push_size _ rfl, rfl, rfl⟩, hl.isList.push _⟩, fresh_size _, Full.push _ _, fp_two ⟨hX, _, ho, isValL⟩, ?_, ?_⟩
  · rintro i h ⟨⟨ob, e1, e2, e3⟩, _⟩
    exact ⟨ob, e1, by rw [e2]; nofun, by rw [e2]; decide, by rw [e2]; decide, by rw [e3]; nofun, by rw [e3]; nofun, by rw [e3]; nofun, by rw [e3]; rfl⟩
  · intro i v h hv kp hlt
    obtain ⟨xs, e, rt⟩ := hi.get i v (by simpa using hv)
    obtain ⟨a, us, rfl, ht, hi⟩ := rt
    have hX' := tup_notX lv ht
    obtain ⟨n, ht⟩ := ht
    exact ⟨.it xs, by simp [e], a, us, rfl, ⟨n, kp _ _ hX' isValL ht⟩, hi⟩

/-! comprehensions -/
inductive Ifs (C : Cfg) (A : Around) (env : Env) (X : List Addr) (ρ : List (Str × PV)) : List Expr → Bool → Prop
  | nil : Ifs C A env X ρ [] true
  | one {e b} : Tst C A env X ρ e b → Ifs C A env X ρ [e] b
theorem Ifs.run {ifs : List Expr} {b : Bool} (h : Ifs C A env X ρ ifs b) (s : Shared) (Q : Bool → Shared → Prop) (E : Value → Shared → Prop) (c : Cx env X ρ s.heap) (o : Ok C s.heap) (lv : Live C A X s.heap)
    (k : ∀ h' tk, Kp C s.heap h' → Ok C h' → Q b { s with heap := h', toks := tk }) :
    wpAny C.M A (forIn ifs true fun c r => if r = true then do let ok ← isTrue c env (eval c env); pure (ForInStep.yield ok) else pure (ForInStep.yield r)) Q E s := by
  cases h with
  | nil => exact wpAny_tests_nil (k s.heap s.toks (Kp.refl _) o)
  | one h => exact wpAny_tests_one (h s Q E c o lv k)

theorem Reps.snoc {h : Heap} : ∀ {vs : List Value} {ps : List PV} {v : Value} {p : PV}, Reps X h vs ps → Rep X h v p → Reps X h (vs ++ [v]) (ps ++ [p])
  | _, _, _, _, .nil, r => .cons r .nil
  | _, _, _, _, .cons h t, r => .cons h (Reps.snoc t r)

/-- what may stand in a new list -/
def Elem (p : PV) : Prop := (∃ i, p = .int i) ∨ ∃ xs, p = .it xs
theorem Reps.keepE {h h' : Heap} {vs : List Value} {ps : List PV} (r : Reps X h vs ps) (hp : ∀ p ∈ ps, Elem p) (hk : ∀ (a : Addr) (its : Array Value) (n : Nat), h.get? a = some { cls := .type "tuple", data := .seq its n } → h'.get? a = some { cls := .type "tuple", data := .seq its n }) : Reps X h' vs ps := by
  induction r with
  | nil => exact .nil
  | @cons v p _ _ r _ ih =>
    refine .cons ?_ (ih fun q hq => hp q (.tail _ hq))
    rcases hp p (.head _) with ⟨i, rfl⟩ | ⟨xs, rfl⟩
    · exact r
    · obtain ⟨a, vs, e, ⟨n, ho⟩, hi⟩ := r; exact ⟨a, vs, e, ⟨n, hk _ _ _ ho⟩, hi⟩

theorem comp_core {elt iter : Expr} {x : Str} {px : Pos} {ifs : List Expr} {scope : Scope} {cl : List (Str × Addr)} {pos : Pos} {s₂ : Shared} {g₁ : Heap} {I : Addr} {items : List PV} {ρ' : List (Str × PV)} {keep : PV → Bool} {g : PV → PV} {E : Value → Shared → Prop}
    {RR : Value → Addr → Result → Shared → Prop} (W : Walk C A X g₁ items I s₂.heap) (hE : ∀ p, Elem (g p)) (ok₁ : Ok C g₁) (lv₁ : Live C A X g₁) (hsz : items.length ≤ sizeLine)
    (hcell : ∀ y ∈ scope.names, y.2 ≠ .cell) (hkind : scope.kind = .function) (hx : scope.names.lookup x = some .local)
    (hcx : ∀ C' h m v item, Kp C g₁ h → h.Ns C' m → m x = some v → Rep X h v item → Cx (compEnvC scope cl C' env) X ((x, item) :: ρ') h)
    (htest : ∀ item ∈ items, ∀ C', Ifs C A (compEnvC scope cl C' env) X ((x, item) :: ρ') ifs (keep item))
    (helt : ∀ item ∈ items, keep item = true → ∀ C', Ev C A (compEnvC scope cl C' env) X ((x, item) :: ρ') elt (g item))
    (hRR : ∀ D C' h' tk m' ys, g₁.get? D = none → g₁.get? C' = none → D ≠ C' → h'.Ns C' m' → h'.PlainList D ys.toArray → Reps X h' ys ((items.filter keep).map g) → Ok C h' → Kp C g₁ h' → RR (.ref D) C' (.ok .next) { s₂ with heap := h', toks := tk }) :
    wpAny C.M A (newList []) (fun acc s₃ => wpAny C.M A (newFunctionEnv scope env.globals cl [] env.qual none .none (some env)) (fun cenv s₄ =>
      codeAny C.M A (.compStart (.ListComp elt [⟨.Name x px, iter, ifs, 0⟩] scope pos) 0 (.ref I) acc { cenv with scope := relabel scope env }) (RR acc cenv.locals) s₄) E s₃) E s₂ := by
  obtain ⟨fp, P, Stt, W, hst, hI₁, hf₁, hfp, hIo, hit⟩ := W
  refine wpAny_newObj_type (wpAny_newFunctionEnv hcell (by intro y hy; simp at hy) (fun h₁ hns₁ hsb₁ => ?_) hkind)
  dsimp only at hns₁ hsb₁ ⊢
  generalize hH2 : s₂.heap.push { cls := .type "list", dict := none, data := .seq ([] : List Value).toArray } = H2 at hns₁ hsb₁ ⊢
  have hC : H2.objs.size = s₂.heap.objs.size + 1 := by rw [← hH2, Heap.size_push]
  have hDC : s₂.heap.objs.size ≠ H2.objs.size := by rw [hC]; exact Nat.ne_of_lt (Nat.lt_succ_self _)
  have freshD : s₂.heap.get? s₂.heap.objs.size = none := fresh_size _
  have freshC : s₂.heap.get? H2.objs.size = none := Heap.get?_none_of_le (by rw [hC]; exact Nat.le_succ _)
  have old : Full s₂.heap h₁ := fun b o e => hsb₁.extBut b o (fun q => by rw [q, freshC] at e; cases e) (Heap.get?_push_of_some _ (hH2 ▸ Heap.get?_push_of_some _ e))
  have hacc : h₁.PlainList s₂.heap.objs.size #[] := ⟨_, hsb₁.extBut _ _ hDC (Heap.get?_push_of_some _ (hH2 ▸ Heap.get?_push_size _ rfl))⟩
  generalize hDD : s₂.heap.objs.size = D at *
  generalize hCC : H2.objs.size = C' at *
  have gD : g₁.get? D = none := by
    cases q : g₁.get? D with
    | none => rfl
    | some o => rw [hf₁ _ _ q] at freshD; cases freshD
  have gC : g₁.get? C' = none := by
    cases q : g₁.get? C' with
    | none => rfl
    | some o => rw [hf₁ _ _ q] at freshC; cases freshC
  obtain ⟨oI, hoI, IO⟩ := hIo _ _ hst
  have hDI : D ≠ I := fun q => by rw [q, hoI] at freshD; cases freshD
  have hCI : C' ≠ I := fun q => by rw [q, hoI] at freshC; cases freshC
  have nfp : ∀ b ∈ fp, b ≠ D ∧ b ≠ C' := fun b hb => by
    rcases hfp b hb with rfl | ⟨_, o, e, _⟩
    · exact ⟨Ne.symm hDI, Ne.symm hCI⟩
    · exact ⟨fun q => (by rw [q, gD] at e; cases e), fun q => (by rw [q, gC] at e; cases e)⟩
  have ok2 : Ok C s₂.heap := ok₁.full hf₁
  have hst₁ : Stt 0 h₁ := W.frame _ _ _ hst fun b _ o e => old b o e
  have hCT : C' ∉ C.T := fun ht => by obtain ⟨o, _, e, _⟩ := C.tabAt _ ok2.tab _ ht; rw [freshC] at e; cases e
  have hDT : D ∉ C.T := fun ht => by obtain ⟨o, _, e, _⟩ := C.tabAt _ ok2.tab _ ht; rw [freshD] at e; cases e
  have fpT : ∀ b ∈ fp, b ∉ C.T := fun b hb => by
    rcases hfp b hb with rfl | ⟨_, o, e, hv⟩
    · exact ok2.notT hoI IO.nn
    · exact ok₁.notT e hv.cls
  -- what a change at a new address leaves
  have okBut : ∀ (h h' : Heap) (a : Addr) (oa : Obj), Ok C h → h.get? a = some oa → ((∀ vs, oa.data ≠ .fields vs) ∨ (oa.cls ≠ .none ∧ oa.cls ≠ .type "code")) → g₁.get? a = none → (∀ b o, b ≠ a → h.get? b = some o → h'.get? b = some o) → Ok C h' := by
    intro h h' a oa o ha hd hg hk
    refine ⟨fun b ob e => hk b ob (fun q => ?_) (o.up b ob e), C.tabBut _ _ a oa o.tab ha hd hk⟩
    have := ok₁.up b ob e
    rw [q, hg] at this; cases this
  have kpBut : ∀ (h h' : Heap) (a : Addr), Kp C g₁ h → g₁.get? a = none → (∀ b o, b ≠ a → h.get? b = some o → h'.get? b = some o) → Kp C g₁ h' := by
    intro h h' a kp hg hk
    exact kp.but hg hk
  have fpN : ∀ (j : Nat) (h : Heap), Stt j h → Kp C g₁ h → ∀ b ∈ fp, ∀ o, h.get? b = some o → ∀ es ep, o.data ≠ .dict es ep := fun j h hs kp b hb o e => by
    rcases hfp b hb with rfl | ⟨_, o', e', hv⟩
    · obtain ⟨oi, hoi, io⟩ := hIo _ _ hs
      rw [e] at hoi; cases hoi; exact io.nd
    · have := kp.ex (ok₁.notT e' hv.cls) e' hv.nd
      rw [e] at this; cases this; exact hv.nd
  have loop : ∀ s₃ : Shared, s₃ = { s₂ with heap := h₁, toks := s₂.toks + ([] : List (Str × Value)).length } →
      codeAny C.M A (.compLoop (.ListComp elt [⟨.Name x px, iter, ifs, 0⟩] scope pos) 0 (.ref I) (.ref D) (compEnvC scope cl C' env)) (RR (.ref D) C') s₃ := by
    rintro s₃ rfl
    refine codeAny_compLoop_tests (fun k s' => ∃ (h : Heap) (tk : Nat) (m : Str → Option Value) (ys : List Value) (j : Nat), s' = { s₂ with heap := h, toks := tk } ∧ Stt j h ∧ h.PlainList D ys.toArray ∧ h.Ns C' m ∧
      Reps X h ys (((items.take j).filter keep).map g) ∧ j ≤ items.length ∧ k = items.length + 1 - j ∧ Kp C g₁ h ∧ Ok C h) ?_ (items.length + 1)
      ⟨h₁, _, _, [], 0, rfl, hst₁, hacc, hns₁, .nil, Nat.zero_le _, rfl, (hf₁.trans old).kp, ok2.full old⟩
    rintro k s' ⟨h, tk, m, ys, j, rfl, hsj, hpl, hn, hr, hj, rfl, kp, ok⟩
    have chg : ∀ (h' : Heap), (∀ b o, b ∉ [I] → h.get? b = some o → h'.get? b = some o) → Ok C h' ∧ Kp C g₁ h' ∧ h'.Ns C' m ∧ h'.PlainList D ys.toArray := by
      intro h' hk
      have hk' : ∀ b o, b ≠ I → h.get? b = some o → h'.get? b = some o := fun b o q e => hk b o (fun m => q (List.mem_singleton.mp m)) e
      obtain ⟨o, ho, io⟩ := hIo _ _ hsj
      exact ⟨okBut h h' I o ok ho (.inr ⟨io.nn, io.ncd⟩) hI₁ hk', kpBut h h' I kp hI₁ hk', hn.at' fun o e => hk' _ o hCI e, hpl.at fun o e => hk' _ o hDI e⟩
    have lvOf : ∀ h', Kp C g₁ h' → Live C A X h' := fun h' k => lv₁.kp k
    by_cases hlt : j < items.length
    · refine W.item j _ _ _ hlt hsj fun v h₂ tk₂ hPv hst₂ hk₂ => ?_
      obtain ⟨ok₂, kp₂, hn₂, hpl₂⟩ := chg h₂ hk₂
      have hEl : ∀ p ∈ ((items.take j).filter keep).map g, Elem p := fun p hp => by obtain ⟨q, _, rfl⟩ := List.mem_map.mp hp; exact hE q
      have hr₂ : Reps X h₂ ys (((items.take j).filter keep).map g) := by
        obtain ⟨oi, hoi, io⟩ := hIo _ _ hsj
        exact hr.keepE hEl fun a its n e => hk₂ a _ (fun m => by rw [List.mem_singleton.mp m, hoi] at e; cases e; exact io.ns _ _ rfl) e
      obtain ⟨item, hitem, hrep⟩ := hit j v h₂ hPv (kp₂.v ok₁) hlt
      have hmem : item ∈ items := List.mem_of_getElem? hitem
      refine wpAny_assign_Name (wpAny_storeName_local (lookup_relabel_local hx) hn₂ (fun h₃ hn₃ hs₃ => ?_) (by simp [compEnvC, relabel, hkind]))
      have hk₃ : ∀ b o, b ≠ C' → h₂.get? b = some o → h₃.get? b = some o := fun b o q e => hs₃.extBut b o q e
      have hn₂' := hn₂
      obtain ⟨oC, es, ep, hoC, hdC, _⟩ := hn₂'
      have ok₃ : Ok C h₃ := okBut h₂ h₃ C' oC ok₂ hoC (.inl (by rw [hdC]; nofun)) gC hk₃
      have kp₃ : Kp C g₁ h₃ := kpBut h₂ h₃ C' kp₂ gC hk₃
      have keepR : ∀ {v p}, Rep X h₂ v p → Rep X h₃ v p := fun {v p} r => r.but hoC (.dict hdC) hk₃
      have hr₃ : Reps X h₃ ys (((items.take j).filter keep).map g) := by
        clear hrep
        have go : ∀ {vs ps}, Reps X h₂ vs ps → Reps X h₃ vs ps := fun {vs ps} r => by
          induction r with
          | nil => exact .nil
          | cons r _ ih => exact .cons (keepR r) ih
        exact go hr₂
      have hst₃ : Stt (j + 1) h₃ := W.frame _ _ _ hst₂ fun b hb o e => hk₃ b o (nfp b hb).2 e
      have hpl₃ : h₃.PlainList D ys.toArray := hpl₂.at fun o e => hk₃ _ o hDC e
      have cx₃ := hcx C' h₃ _ v item kp₃ hn₃ (by simp) (keepR hrep)
      refine (htest item hmem C').run _ _ _ cx₃ ok₃ (lvOf _ kp₃) fun h₄ tk₄ k₄ ok₄ => ?_
      have hst₄ : Stt (j + 1) h₄ := W.frame _ _ _ hst₃ fun b hb o e => k₄.ex (fpT b hb) e (fpN _ _ hst₃ kp₃ b hb o e)
      have hpl₄ : h₄.PlainList D ys.toArray := let ⟨n, ho⟩ := hpl₃; ⟨n, k₄.ex hDT ho (by nofun)⟩
      have hn₄ := ok₃.ns k₄ hn₃
      have hr₄ := hr₃.kp ok₃ k₄
      have htake : (items.take (j + 1)).filter keep = (items.take j).filter keep ++ (if keep item then [item] else []) := take_succ_filter keep items j item hitem
      cases hkp : keep item with
      | false =>
        simp only [Bool.false_eq_true, if_false]
        refine ⟨items.length + 1 - (j + 1), by omega, h₄, tk₄, _, ys, j + 1, rfl, hst₄, hpl₄, hn₄, ?_, hlt, rfl, kp₃.trans k₄, ok₄⟩
        rw [htake, hkp]; simpa using hr₄
      | true =>
        simp only [if_true]
        refine helt item hmem hkp C' _ _ _ (cx₃.kp ok₃ k₄) ok₄ (lvOf _ (kp₃.trans k₄)) fun y h₅ tk₅ k₅ ok₅ ry => ?_
        have hpl₅ : h₅.PlainList D ys.toArray := let ⟨n, ho⟩ := hpl₄; ⟨n, k₅.ex hDT ho (by nofun)⟩
        have hlen : ys.toArray.size ≤ sizeLine := by
          have e1 := hr.len
          have e2 : ((items.take j).filter keep).length ≤ (items.take j).length := List.length_filter_le _ _
          simp only [List.length_map] at e1
          simp only [List.size_toArray]
          simp only [List.length_take] at e2
          omega
        refine wpAny_list_append_plain (hsz := hlen) hpl₅ fun h₆ hl₆ hs₆ => ?_
        have hk₆ : ∀ b o, b ≠ D → h₅.get? b = some o → h₆.get? b = some o := fun b o q e => hs₆.extBut b o q e
        have hpl₅' := hpl₅
        obtain ⟨nD, hoD⟩ := hpl₅'
        refine ⟨items.length + 1 - (j + 1), by omega, h₆, tk₅, _, ys ++ [y], j + 1, rfl, W.frame _ _ _ hst₄ fun b hb o e => hk₆ b o (nfp b hb).1 (k₅.ex (fpT b hb) e (fpN _ _ hst₄ (kp₃.trans k₄) b hb o e)), by simpa using hl₆, (ok₄.ns k₅ hn₄).sameBut hs₆ (Ne.symm hDC), ?_, hlt, rfl, kpBut h₅ h₆ D ((kp₃.trans k₄).trans k₅) gD hk₆, okBut h₅ h₆ D _ ok₅ hoD (.inl nofun) gD hk₆⟩
        rw [htake, hkp]
        simp only [if_true, List.map_append, List.map_cons, List.map_nil]
        refine ((hr₄.kp ok₄ k₅).snoc ry).keepE (fun p hp => ?_) fun a its n e => hk₆ a _ (fun q => ?_) e
        · rcases List.mem_append.mp hp with hp | hp
          · exact hEl p hp
          · rw [List.mem_singleton.mp hp]; exact hE item
        · rw [q, hoD] at e
          exact absurd (congrArg Obj.cls (Option.some.inj e)) (by show Value.type "list" ≠ Value.type "tuple"; decide)
    · have hin : j = items.length := by omega
      refine W.done _ _ _ (hin ▸ hsj) fun h₂ tk₂ hk₂ => ?_
      obtain ⟨ok₂, kp₂, hn₂, hpl₂⟩ := chg h₂ hk₂
      refine hRR D C' h₂ tk₂ m ys gD gC hDC hn₂ hpl₂ ?_ ok₂ kp₂
      obtain ⟨oi, hoi, io⟩ := hIo _ _ hsj
      rw [hin, List.take_length] at hr
      exact hr.keepE (fun p hp => by obtain ⟨q, _, rfl⟩ := List.mem_map.mp hp; exact hE q) fun a its n e => hk₂ a _ (fun m => by rw [List.mem_singleton.mp m, hoi] at e; cases e; exact io.ns _ _ rfl) e
  exact codeAny_compStart_list (loop _ rfl) (W.self 0 _ _ _ hst₁ (loop _ rfl))
end
end Mine
namespace Mine
open PySem PySem.Calls PySem.W PyProof.Rows
variable {C : Cfg}

section
variable {A : Around} {env : Env} {X : List Addr} {ρ : List (Str × PV)} {g0 : Heap}

/-- what a comprehension's block sees of the names around it -/
inductive Cap (env : Env) (scope : Scope) (cl : List (Str × Addr)) (ρ : List (Str × PV)) : List (Str × PV) → Prop
  | nil : Cap env scope cl ρ []
  | cons {y pv r} (h : ρ.lookup y = some pv) (hk : env.kindOf y = some .cell ∨ env.kindOf y = some .free) (hc : cl.lookup y = env.cells.lookup y)
      (hs : (relabel scope env).names.lookup y = some .cell ∨ (relabel scope env).names.lookup y = some .free) (t : Cap env scope cl ρ r) : Cap env scope cl ρ ((y, pv) :: r)

theorem Cap.cx {scope : Scope} {cl : List (Str × Addr)} {ρ' : List (Str × PV)} {x : Str} {item : PV} {C' : Addr} {h : Heap} {m : Str → Option Value} {v : Value} (hc : Cap env scope cl ρ ρ') (c : Cx env X ρ h) (hk : scope.kind = .function) (hx : scope.names.lookup x = some .local)
    (hn : h.Ns C' m) (hm : m x = some v) (r : Rep X h v item) : Cx (compEnvC scope cl C' env) X ((x, item) :: ρ') h := by
  refine ⟨hk, c.glob, c.blt, fun y pv e => ?_⟩
  rw [List.lookup_cons] at e
  cases hb : y == x with
  | true =>
    rw [hb] at e; cases e
    rw [eq_of_beq hb]
    exact ⟨v, .inl ⟨lookup_relabel_local hx, m, hn, hm⟩, r⟩
  | false =>
    rw [hb] at e
    induction hc with
    | nil => cases e
    | @cons z pz rr h1 hk1 hc1 hs1 t ih =>
      rw [List.lookup_cons] at e
      cases hz : y == z with
      | true =>
        rw [hz] at e; cases e
        rw [eq_of_beq hz]
        obtain ⟨u, hu, ru⟩ := c.var z pv h1
        refine ⟨u, .inr ⟨hs1, ?_⟩, ru⟩
        rcases hu with ⟨a1, _⟩ | ⟨_, c1, n1, b1⟩
        · rcases hk1 with q | q <;> rw [q] at a1 <;> cases a1
        · exact ⟨c1, hc1.trans n1, b1⟩
      | false => rw [hz] at e; exact ih e

/-- an expression that makes a new list -/
def EvN (C : Cfg) (A : Around) (env : Env) (X : List Addr) (ρ : List (Str × PV)) (e : Expr) (ps : List PV) : Prop :=
  ∀ (s : Shared) (Q : Value → Shared → Prop) (E : Value → Shared → Prop), Cx env X ρ s.heap → Ok C s.heap → Live C A X s.heap →
    (∀ D ys h' tk, Kp C s.heap h' → Ok C h' → s.heap.get? D = none → h'.PlainList D ys.toArray → Reps X h' ys ps → Q (.ref D) { s with heap := h', toks := tk }) → wpAny C.M A (eval e env) Q E s

theorem Reps.tups {h : Heap} : ∀ {vs : List Value} {xss : List (List Int)}, Reps X h vs (xss.map .it) → AllTup h vs xss
  | _, [], .nil => .nil
  | _, _ :: _, .cons r t => .cons r (Reps.tups t)

theorem EvN.il {e : Expr} {ps : List PV} {xs : List Int} (h : EvN C A env X ρ e ps) (q : ps = xs.map .int) : Ev C A env X ρ e (.il xs) := fun s Q E c o lv k =>
  h s Q E c o lv fun D ys h' tk k' o' hD hp r => k _ h' tk k' o' ⟨D, ys, rfl, lv.fresh hD, hp, (q ▸ r).ints⟩
theorem EvN.tl {e : Expr} {ps : List PV} {xss : List (List Int)} (h : EvN C A env X ρ e ps) (q : ps = xss.map .it) : Ev C A env X ρ e (.tl xss) := fun s Q E c o lv k =>
  h s Q E c o lv fun D ys h' tk k' o' hD hp r => k _ h' tk k' o' ⟨D, ys, rfl, lv.fresh hD, hp, (q ▸ r).tups⟩

structure CompOk (env : Env) (scope : Scope) (cl : List (Str × Addr)) (x : Str) : Prop where
  clos : closureFor scope env = pure cl
  cell : (scope.names.all fun y => y.2 != .cell) = true
  kind : scope.kind = .function
  names : (scope.names.all fun y => y.2 != .local || scope.names.lookup y.1 == some .local) = true
  var : scope.names.lookup x = some .local
theorem CompOk.cell' {scope : Scope} {cl : List (Str × Addr)} {x : Str} (h : CompOk env scope cl x) : ∀ y ∈ scope.names, y.2 ≠ .cell := fun y hy => by
  have := List.all_eq_true.mp h.cell y hy
  simpa using this
theorem CompOk.names' {scope : Scope} {cl : List (Str × Addr)} {x : Str} (h : CompOk env scope cl x) : ∀ y ∈ scope.names, y.2 = .local → scope.names.lookup y.1 = some .local := fun y hy e => by
  have := List.all_eq_true.mp h.names y hy
  rw [e] at this
  simpa using this

theorem EvN.comp {elt iter : Expr} {x : Str} {px : Pos} {ifs : List Expr} {scope : Scope} {pos : Pos} {p : PV} {items : List PV} (cl : List (Str × Addr)) (ρ' : List (Str × PV)) (keep : PV → Bool) (g : PV → PV)
    (hok : CompOk env scope cl x) (hi : Ev C A env X ρ iter p) (hsrc : Src C A X p items) (hsz : items.length ≤ sizeLine) (hcap : Cap env scope cl ρ ρ') (hE : ∀ p, Elem (g p))
    (htest : ∀ item ∈ items, ∀ C', Ifs C A (compEnvC scope cl C' env) X ((x, item) :: ρ') ifs (keep item))
    (helt : ∀ item ∈ items, keep item = true → ∀ C', Ev C A (compEnvC scope cl C' env) X ((x, item) :: ρ') elt (g item)) (hs : ∀ x, foldedSetIterable iter env x = pure x := by intro _; rfl) :
    EvN C A env X ρ (.ListComp elt [⟨.Name x px, iter, ifs, 0⟩] scope pos) ((items.filter keep).map g) := fun s Q E c o lv k => by
  rw [eval_ListComp]
  refine wpAny_comprehension_free (use := none) rfl hs hok.clos hok.kind hok.names' (hi s _ E c o lv fun xv h₁ tk₁ k₁ o₁ r₁ => ?_)
  refine hsrc _ _ E xv o₁ (lv.kp k₁) r₁ fun I h₂ tk₂ W => ?_
  refine comp_core (RR := fun acc C' => compPost C.M A E none Q acc C') (ρ' := ρ') (keep := keep) (g := g) W hE o₁ (lv.kp k₁) hsz hok.cell' hok.kind hok.var (fun C' h m v item kp hn hm r => hcap.cx ((c.kp o k₁).kp o₁ kp) hok.kind hok.var hn hm r) htest helt ?_
  intro D C' h' tk m' ys hD hC hDC hn hl hr ok' kp'
  have hn' := hn
  obtain ⟨oC, es, ep, hoC, hdC, _⟩ := hn'
  refine ⟨m', hn, fun h'' hs'' => ?_⟩
  have hk : ∀ b o, b ≠ C' → h'.get? b = some o → h''.get? b = some o := fun b o q e => hs''.extBut b o q e
  have sD : s.heap.get? D = none := by
    cases q : s.heap.get? D with
    | none => rfl
    | some ob =>
      by_cases ht : D ∈ C.T
      · obtain ⟨o', _, e', _⟩ := C.tabAt _ o₁.tab _ ht; rw [hD] at e'; cases e'
      · obtain ⟨_, q', _⟩ := k₁ _ _ ht q; rw [q'] at hD; cases hD
  refine k D ys h'' tk (k₁.trans (kp'.but hC hk)) ?_ sD (hl.at fun o e => hk _ o hDC e) (hr.keepE (fun p hp => by obtain ⟨q, _, rfl⟩ := List.mem_map.mp hp; exact hE q) fun a its n e => hk a _ (fun q => by rw [q, hoC] at e; cases e; cases hdC) e)
  exact ⟨fun b ob e => hk b ob (fun q => by have := o₁.up b ob e; rw [q, hC] at this; cases this) (ok'.up b ob e), C.tabBut _ _ C' oC ok'.tab hoC (.inl (by rw [hdC]; nofun)) hk⟩

section stmts
variable {s : Shared} {Q : Flow → Shared → Prop} {E : Value → Shared → Prop} {rest : List Stmt}

/-- name = [..] where the name is a local of the frame: the store stands before the block's end -/
theorem do_assign_comp {elt iter : Expr} {x y : Str} {px py : Pos} {ifs : List Expr} {scope : Scope} {pos spos : Pos} {p pv : PV} {items : List PV} (cl : List (Str × Addr)) (ρ' : List (Str × PV)) (keep : PV → Bool) (g : PV → PV) (S : St C A env X g0 ρ s.heap)
    (hok : CompOk env scope cl x) (hi : Ev C A env X ρ iter p) (hsrc : Src C A X p items) (hsz : items.length ≤ sizeLine) (hcap : Cap env scope cl ρ ρ') (hE : ∀ p, Elem (g p))
    (htest : ∀ item ∈ items, ∀ C', Ifs C A (compEnvC scope cl C' env) X ((x, item) :: ρ') ifs (keep item))
    (helt : ∀ item ∈ items, keep item = true → ∀ C', Ev C A (compEnvC scope cl C' env) X ((x, item) :: ρ') elt (g item))
    (hpv : (∃ xs, pv = .il xs ∧ (items.filter keep).map g = xs.map .int) ∨ (∃ xss, pv = .tl xss ∧ (items.filter keep).map g = xss.map .it)) (hy : env.kindOf y = some .local)
    (k : ∀ h' tk, St C A env X g0 ((y, pv) :: ρ) h' → wpAny C.M A (execs rest env) Q E { s with heap := h', toks := tk })
    (hsw : swapsWith (.ListComp elt [⟨.Name x px, iter, ifs, 0⟩] scope pos) (some (.Name y py)) spos.line env = pure true := by rfl) (hs : ∀ x, foldedSetIterable iter env x = pure x := by intro _; rfl) :
    wpAny C.M A (execs (.Assign [.Name y py] (.ListComp elt [⟨.Name x px, iter, ifs, 0⟩] scope pos) spos :: rest) env) Q E s := by
  refine wpAny_execs_cons ?_
  rw [exec_Assign_Name_used _ _ _ _ hsw]
  refine wpAny_bind (wpAny_standAt (wpAny_bind ?_))
  show wpAny _ A (do let _ ← comprehension (.ListComp elt [⟨.Name x px, iter, ifs, 0⟩] scope pos) scope env _ (newList []) false (eval iter env) (some (assign (.Name y py) env))) _ _ s
  refine wpAny_bind (wpAny_mono (wpAny_comprehension_free (use := some (assign (.Name y py) env)) (Q := fun _ s' => wpAny C.M A (execs rest env) Q E s') rfl hs hok.clos hok.kind hok.names' (hi s _ E S.cx S.ok S.live fun xv h₁ tk₁ k₁ o₁ r₁ => ?_))
    (fun _ s' hq => wpAny_pure (wpAny_pure hq)) fun _ _ e => e)
  have S₁ := S.step k₁ o₁
  refine hsrc _ _ E xv o₁ (S.live.kp k₁) r₁ fun I h₂ tk₂ W => ?_
  refine comp_core (RR := fun acc C' => compPost C.M A E (some (assign (.Name y py) env)) (fun _ s' => wpAny C.M A (execs rest env) Q E s') acc C') (ρ' := ρ') (keep := keep) (g := g) W hE o₁ (S.live.kp k₁) hsz hok.cell' hok.kind hok.var
    (fun C' h m v item kp hn hm r => hcap.cx (S₁.cx.kp o₁ kp) hok.kind hok.var hn hm r) htest helt ?_
  intro D C' h' tk m' ys hD hC hDC hn hl hr ok' kp'
  have S₂ : St C A env X g0 ρ h' := S₁.step kp' ok'
  have rD : Rep X h' (.ref D) pv := by
    rcases hpv with ⟨xs, rfl, q⟩ | ⟨xss, rfl, q⟩
    · exact ⟨D, ys, rfl, S₁.live.fresh hD, hl, (q ▸ hr).ints⟩
    · exact ⟨D, ys, rfl, S₁.live.fresh hD, hl, (q ▸ hr).tups⟩
  have hn' := hn
  obtain ⟨oC, es, ep, hoC, hdC, _⟩ := hn'
  have hLC : env.locals ≠ C' := fun q => by obtain ⟨m, o, _, _, e, _⟩ := S₁.ns; rw [q, hC] at e; cases e
  have gC : g0.get? C' = none := by
    cases q : g0.get? C' with
    | none => rfl
    | some ob =>
      by_cases ht : C' ∈ C.T
      · obtain ⟨o', _, e', _⟩ := C.tabAt _ o₁.tab _ ht; rw [hC] at e'; cases e'
      · obtain ⟨_, q', _⟩ := S₁.kp _ _ ht q; rw [hC] at q'; cases q'
  show wpAny _ _ (assign (.Name y py) env (.ref D)) _ _ _
  obtain ⟨m0, hn0⟩ := S₂.ns
  -- the store, done by hand so that the block's own names are seen to stay
  refine wpAny_assign_Name ?_
  refine St.storeL (s := { s with heap := h', toks := tk }) S₂ hy rD (S₂.own.put (by rcases hpv with ⟨_, rfl, _⟩ | ⟨_, rfl, _⟩ <;> rfl)) fun h₃ tk₃ S₃ hs₃ => ?_
  refine ⟨m', hn.sameBut hs₃ (Ne.symm hLC), fun h₄ hs₄ => k h₄ tk₃ ?_⟩
  have hk₄ : ∀ b o, b ≠ C' → h₃.get? b = some o → h₄.get? b = some o := fun b o q e => hs₄.extBut b o q e
  have hoC₃ : h₃.get? C' = some oC := hs₃.extBut _ _ (Ne.symm hLC) hoC
  exact S₃.other hoC₃ (.dict hdC) gC hLC (fun n c hc q => by
    obtain ⟨v, o, e1, e2⟩ := S₃.cells n c hc
    rw [q, hoC₃] at e1; cases e1; rw [hdC] at e2; cases e2) hk₄
end stmts
end
end Mine
namespace Mine
open PySem PySem.Calls PySem.W PyProof.Rows
variable {C : Cfg}

section
variable {A : Around} {env : Env} {X : List Addr} {ρ : List (Str × PV)} {g0 : Heap}

/-! the frame's ground moved up: all that is no part of the frame is to stay -/
def hidden (env : Env) (X : List Addr) (g0 : Heap) : List Addr := env.locals :: (env.cells.map (·.2) ++ X.filter fun a => (g0.get? a).isNone)

theorem mem_hidden_none {h : Heap} (S : St C A env X g0 ρ h) (hcc : (env.cells.map (·.1)).all (fun n => env.kindOf n == some .cell) = true) {b : Addr} (hb : b ∈ hidden env X g0) : g0.get? b = none := by
  rcases List.mem_cons.mp hb with rfl | hb
  · exact S.newL
  · rcases List.mem_append.mp hb with hb | hb
    · obtain ⟨⟨n, c⟩, hm, rfl⟩ := List.mem_map.mp hb
      exact S.newC n c hm (by simpa using List.all_eq_true.mp hcc n (List.mem_map_of_mem (f := (·.1)) hm))
    · have := (List.mem_filter.mp hb).2
      simpa using this
theorem cells_lookup_some : ∀ {l : List (Str × Addr)} {n : Str} {c : Addr}, (n, c) ∈ l → ∃ c', l.lookup n = some c'
  | (k, v) :: r, n, c, h => by
    rw [List.lookup_cons]
    cases hb : n == k with
    | true => exact ⟨v, rfl⟩
    | false =>
      rcases List.mem_cons.mp h with e | h
      · cases e; simp at hb
      · exact cells_lookup_some h

theorem St.hide {h : Heap} (S : St C A env X g0 ρ h) (hcn : (env.cells.map (·.1)).Nodup) (hcc : (env.cells.map (·.1)).all (fun n => env.kindOf n == some .cell) = true) : St C A env X (hideAll h (hidden env X g0)) ρ h ∧ Kp C g0 (hideAll h (hidden env X g0)) := by
  have kp0 : Kp C g0 (hideAll h (hidden env X g0)) := fun b o n e => let ⟨o', e', s⟩ := S.kp b o n e; ⟨o', hideAll_get _ e' (fun hb => by rw [mem_hidden_none S hcc hb] at e; cases e), s⟩
  have hobj : ∀ b ∈ hidden env X g0, ∀ o vs, h.get? b = some o → o.data ≠ .fields vs := by
    intro b hb o vs e d
    rcases List.mem_cons.mp hb with rfl | hb
    · obtain ⟨m, o', es, ep, e', d', _⟩ := S.ns
      rw [e] at e'; cases e'; rw [d] at d'; cases d'
    · rcases List.mem_append.mp hb with hb | hb
      · obtain ⟨⟨n, c⟩, hm, rfl⟩ := List.mem_map.mp hb
        obtain ⟨v, o', e', d'⟩ := S.cells n c (lookup_of_mem_nodup hcn hm)
        simp only at e
        rw [e] at e'; cases e'; rw [d] at d'; cases d'
      · obtain ⟨_, its, n, e'⟩ := S.lo b (List.mem_filter.mp hb).1
        rw [e] at e'; cases e'; cases d
  refine ⟨⟨S.cx, S.ok, S.lo, ⟨fun b o e => hideAll_get _ (S.ok.up b o e) fun hb => ?_, C.tabKeep _ _ S.ok.tab fun b o vs e d _ => hideAll_get _ e fun hb => hobj b hb o vs e d⟩, fun b o _ e => ⟨o, of_hideAll _ e, .refl o⟩, S.ns, S.cells, S.apart, hideAll_none _ (.head _), fun n c hm _ => hideAll_none _ (.tail _ (List.mem_append_left _ (List.mem_map_of_mem (f := (·.2)) hm))), ⟨fun x a xs e => ?_, S.own.one⟩, let ⟨ou, hA, hf, r⟩ := S.stk; ⟨ou, hA, hf, fun e he => (r e he).kp kp0⟩⟩, kp0⟩
  · rw [S.nog (mem_hidden_none S hcc hb)] at e; cases e
  · obtain ⟨v, _, r⟩ := S.cx.var x _ e
    obtain ⟨vs, _, hX, _⟩ := r
    exact hideAll_none _ (.tail _ (List.mem_append_right _ (List.mem_filter.mpr ⟨hX, by rw [S.own.new x a xs e]; rfl⟩)))

section stmts
variable {s : Shared} {Q : Flow → Shared → Prop} {E : Value → Shared → Prop} {rest : List Stmt}

/-- what a loop goes over: the expression, then its iterator -/
def ItE (C : Cfg) (A : Around) (env : Env) (X : List Addr) (ρ : List (Str × PV)) (iter : Expr) (items : List PV) : Prop :=
  ∀ (s : Shared) (Q : Value → Shared → Prop) (E : Value → Shared → Prop), Cx env X ρ s.heap → Ok C s.heap → Live C A X s.heap →
    (∀ I h₁ h₂ tk, Kp C s.heap h₁ → Ok C h₁ → Walk C A X h₁ items I h₂ → Q (.ref I) { s with heap := h₂, toks := tk }) → wpAny C.M A (eval iter env) (fun v s₁ => wpAny C.M A (pyIter v) Q E s₁) E s
theorem ItE.of {iter : Expr} {p : PV} {items : List PV} (hi : Ev C A env X ρ iter p) (hsrc : Src C A X p items) : ItE C A env X ρ iter items := fun s Q E c o lv k =>
  hi s _ E c o lv fun v h₁ tk₁ k₁ o₁ r₁ => hsrc _ Q E v o₁ (lv.kp k₁) r₁ fun I h₂ tk₂ W => k I h₁ h₂ tk₂ k₁ o₁ W

theorem do_for {x : Str} {px pos : Pos} {iter : Expr} {body : List Stmt} {items : List PV} {σ : Type} (f : σ → List (Str × PV)) (P : Nat → σ → Prop) (R : PV → Prop) (a₀ : σ) (h0 : P 0 a₀) (S : St C A env X g0 (f a₀) s.heap)
    (hi : ItE C A env X (f a₀) iter items) (hx : Puts env x) (hpl : ∀ q ∈ items, q.plain = true)
    (turn : ∀ i item a g (s' : Shared) (Q' : Flow → Shared → Prop) (E' : Value → Shared → Prop), items[i]? = some item → P i a → St C A env X g ((x, item) :: f a) s'.heap →
      (∀ a' h' tk, P (i + 1) a' → St C A env X g (f a') h' → Q' .next { s' with heap := h', toks := tk }) → (∀ v pv h' tk, R pv → Kp C g h' → Ok C h' → Rep X h' v pv → Q' (.ret v) { s' with heap := h', toks := tk }) → wpAny C.M A (execs body env) Q' E' s')
    (k : ∀ a h' tk, P items.length a → St C A env X g0 (f a) h' → wpAny C.M A (execs rest env) Q E { s with heap := h', toks := tk })
    (kr : ∀ v pv h' tk, R pv → Kp C g0 h' → Ok C h' → Rep X h' v pv → Q (.ret v) { s with heap := h', toks := tk })
    (hcn : (env.cells.map (·.1)).Nodup := by decide) (hcc : (env.cells.map (·.1)).all (fun n => env.kindOf n == some .cell) = true := by rfl) (hs : ∀ x, foldedSetIterable iter env x = pure x := by intro _; rfl) : wpAny C.M A (execs (.For (.Name x px) iter body [] pos :: rest) env) Q E s := by
  refine wpAny_execs_cons (wpAny_For (hi s _ E S.cx S.ok S.live fun I h₁ h₂ tk₂ k₁ o₁ W => ?_) hs)
  have S₁ := S.step k₁ o₁
  obtain ⟨fp, P', Stt, W, hst, hI₁, hf₁, hfp, hIo, hit⟩ := W
  have gI : g0.get? I = none := by
    cases q : g0.get? I with
    | none => rfl
    | some ob =>
      by_cases ht : I ∈ C.T
      · obtain ⟨o', _, e', _⟩ := C.tabAt _ o₁.tab _ ht; rw [hI₁] at e'; cases e'
      · obtain ⟨_, q', _⟩ := S₁.kp _ _ ht q; rw [hI₁] at q'; cases q'
  have IL : env.locals ≠ I := fun q => by obtain ⟨m, o, _, _, e, _⟩ := S₁.ns; rw [q, hI₁] at e; cases e
  have IC : ∀ n c, env.cells.lookup n = some c → c ≠ I := fun n c hc q => by obtain ⟨v, o, e, _⟩ := S₁.cells n c hc; rw [q, hI₁] at e; cases e
  have IX : I ∉ X := S₁.live.fresh hI₁
  have S₂ : St C A env X g0 (f a₀) h₂ := S₁.step hf₁.kp (o₁.full hf₁)
  have notH : ∀ (h : Heap), St C A env X g0 (f a₀) h ∨ (∃ a, St C A env X g0 (f a) h) ∨ (∃ a item, St C A env X g0 ((x, item) :: f a) h) → ∀ b o, b ∉ X → IsVal o → h.get? b = some o → b ∉ hidden env X g0 := by
    intro h hS b o hbX hv e hb
    have key : ∀ {ρ}, St C A env X g0 ρ h → False := fun {ρ} S => by
      rcases List.mem_cons.mp hb with rfl | hb
      · obtain ⟨m, o', es, ep, e', d', _⟩ := S.ns
        rw [e] at e'; cases e'; exact (Aside.dict d').not hv
      · rcases List.mem_append.mp hb with hb | hb
        · obtain ⟨⟨n, c⟩, hm, rfl⟩ := List.mem_map.mp hb
          obtain ⟨v, o', e', d'⟩ := S.cells n c (lookup_of_mem_nodup hcn hm)
          simp only at e
          rw [e] at e'; cases e'; exact (Aside.cell d').not hv
        · exact hbX (List.mem_filter.mp hb).1
    rcases hS with S | ⟨a, S⟩ | ⟨a, it, S⟩ <;> exact key S
  have IH : I ∉ hidden env X g0 := fun hb => by
    rcases List.mem_cons.mp hb with e | hb
    · exact IL e.symm
    · rcases List.mem_append.mp hb with hb | hb
      · obtain ⟨⟨n, c⟩, hm, e⟩ := List.mem_map.mp hb
        exact IC n c (lookup_of_mem_nodup hcn hm) e
      · exact IX (List.mem_filter.mp hb).1
  have IT : I ∉ C.T := fun ht => by obtain ⟨o', _, e', _⟩ := C.tabAt _ o₁.tab _ ht; rw [hI₁] at e'; cases e'
  refine codeAny_forLoop (fun n s' => ∃ i a h tk, s' = { s with heap := h, toks := tk } ∧ n = items.length + 1 - i ∧ i ≤ items.length ∧ P i a ∧ St C A env X g0 (f a) h ∧ Stt i h ∧ KpV X h₁ h) ?_ (items.length + 1) ⟨0, a₀, h₂, tk₂, rfl, rfl, Nat.zero_le _, h0, S₂, hst, hf₁.kp.v o₁⟩
  rintro n s' ⟨i, a, h, tk, rfl, rfl, hi', hP, Sa, hsi, kv⟩
  obtain ⟨oI, hoI, IO⟩ := hIo _ _ hsi
  by_cases hlt : i < items.length
  · refine W.item i _ _ _ hlt hsi fun v h₃ tk₃ hPv hst₃ hk₃ => ?_
    have hk₃' : ∀ b o, b ≠ I → h.get? b = some o → h₃.get? b = some o := fun b o q e => hk₃ b o (fun m => q (List.mem_singleton.mp m)) e
    have S₃ : St C A env X g0 (f a) h₃ := Sa.other hoI IO.aside gI IL IC hk₃'
    have kv₃ : KpV X h₁ h₃ := fun b o hX hv e => hk₃' b o (fun q => by rw [q, hI₁] at e; cases e) (kv b o hX hv e)
    obtain ⟨item, hitem, hrep⟩ := hit i v h₃ hPv kv₃ hlt
    refine wpAny_assign_Name (St.storeK (s := { s with heap := h₃, toks := tk₃ }) S₃ hx hrep (S₃.own.put (hpl item (List.mem_of_getElem? hitem))) fun h₄ tk₄ S₄ hk₄ => ?_)
    have vL : ∀ b o, IsVal o → h₃.get? b = some o → h₄.get? b = some o := fun b o hv e => hk₄ b o (fun q => by
      obtain ⟨m, o', es, ep, e', d', _⟩ := S₃.ns
      rw [q, e'] at e; cases e; exact (Aside.dict d').not hv) (fun n c hc q => by
      obtain ⟨v, o', e', d'⟩ := S₃.cells n c hc
      rw [q, e'] at e; cases e; exact (Aside.cell d').not hv) e
    have kv₄ : KpV X h₁ h₄ := fun b o hX hv e => vL b o hv (kv₃ b o hX hv e)
    have keepI : ∀ o, h₃.get? I = some o → h₄.get? I = some o := fun o e => hk₄ I o (Ne.symm IL) (fun n c hc q => IC n c hc q.symm) e
    have hst₄ : Stt (i + 1) h₄ := W.frame _ _ _ hst₃ fun b hb o e => by
      rcases hfp b hb with rfl | ⟨hX, ob, e1, hv⟩
      · exact keepI o e
      · have e2 := kv₃ b ob hX hv e1
        rw [e] at e2; cases e2
        exact vL b _ hv e
    obtain ⟨S₅, kg⟩ := S₄.hide hcn hcc
    have back : ∀ h', Kp C (hideAll h₄ (hidden env X g0)) h' → KpV X h₁ h' ∧ Stt (i + 1) h' ∧ Kp C g0 h' := by
      intro h' kp
      have kv' : ∀ b o, b ∉ X → IsVal o → h₄.get? b = some o → h'.get? b = some o := fun b o hX hv e => kp.ex (S₄.ok.notT e hv.cls) (hideAll_get _ e (notH h₄ (.inr (.inr ⟨a, item, S₄⟩)) b o hX hv e)) hv.nd
      refine ⟨fun b o hX hv e => kv' b o hX hv (kv₄ b o hX hv e), W.frame _ _ _ hst₄ fun b hb o e => ?_, kg.trans kp⟩
      rcases hfp b hb with rfl | ⟨hX, ob, e1, hv⟩
      · obtain ⟨oi, hoi, io⟩ := hIo _ _ hst₄
        rw [e] at hoi; cases hoi
        exact kp.ex IT (hideAll_get _ e IH) io.nd
      · have e2 := kv₄ b ob hX hv e1
        rw [e] at e2; cases e2
        exact kv' b _ hX hv e
    refine turn i item a _ _ _ _ hitem hP S₅ (fun a' h' tk' hP' S' => ?_) fun v pv h' tk' hR kp ok r => ?_
    · obtain ⟨kv', st', kp'⟩ := back h' S'.kp
      refine ⟨items.length + 1 - (i + 1), by omega, i + 1, a', h', tk', rfl, rfl, hlt, hP', ?_, st', kv'⟩
      refine ⟨S'.cx, S'.ok, S'.lo, S.ok0, kp', S'.ns, S'.cells, S'.apart, S.newL, S.newC, ⟨fun x a xs e => ?_, S'.own.one⟩, S.stk⟩
      have := S'.own.new x a xs e
      cases q : g0.get? a with
      | none => rfl
      | some ob =>
        by_cases ht : a ∈ C.T
        · obtain ⟨v, _, r⟩ := S'.cx.var x _ e
          obtain ⟨vs, _, hX, _⟩ := r
          exact absurd ht (S.lo a hX).1
        · obtain ⟨_, q', _⟩ := kg _ _ ht q; rw [q'] at this; cases this
    · obtain ⟨_, _, kp'⟩ := back h' kp
      exact kr v pv h' tk' hR kp' ok r
  · have hin : i = items.length := by omega
    subst hin
    refine W.done _ _ _ hsi fun h₃ tk₃ hk₃ => wpAny_execs_nil (k a h₃ tk₃ hP ?_)
    exact Sa.other hoI IO.aside gI IL IC fun b o q e => hk₃ b o (fun m => q (List.mem_singleton.mp m)) e
end stmts
end
end Mine
namespace Mine
open PySem PySem.Calls PySem.W PyProof.Rows
variable {C : Cfg}

section
variable {A : Around} {env : Env} {X : List Addr} {ρ : List (Str × PV)} {g0 : Heap}

/-! lists of one's own -/
theorem notT_none {h : Heap} (o : Ok C h) {a : Addr} (e : h.get? a = none) : a ∉ C.T := fun ht => by
  obtain ⟨o', _, e', _⟩ := C.tabAt _ o.tab _ ht; rw [e] at e'; cases e'
theorem kp_none {h h' : Heap} (k : Kp C h h') (o : Ok C h') {a : Addr} (e : h'.get? a = none) : h.get? a = none := by
  cases q : h.get? a with
  | none => rfl
  | some ob => obtain ⟨_, q', _⟩ := k _ _ (notT_none o e) q; rw [q'] at e; cases e

theorem Rep.addX {h : Heap} {v : Value} {pv : PV} {D : Addr} (r : Rep X h v pv) (hD : h.get? D = none) : Rep (D :: X) h v pv := by
  have ne : ∀ {a : Addr} {its : Array Value}, h.PlainList a its → a ≠ D := fun {a its} hl q => by obtain ⟨n, e⟩ := hl; rw [q, hD] at e; cases e
  cases pv with
  | none => exact r
  | int i => exact r
  | bool b => exact r
  | bytes b => exact r
  | il xs => obtain ⟨a, vs, e, hX, hl, hi⟩ := r; exact ⟨a, vs, e, fun hm => (List.mem_cons.mp hm).elim (ne hl) hX, hl, hi⟩
  | it xs => exact r
  | tl xss => obtain ⟨a, vs, e, hX, hl, hi⟩ := r; exact ⟨a, vs, e, fun hm => (List.mem_cons.mp hm).elim (ne hl) hX, hl, hi⟩
  | own a xs => obtain ⟨vs, e, hX, hl, hi⟩ := r; exact ⟨vs, e, .tail _ hX, hl, hi⟩
  | rg a b c => exact r
  | fn a fd => exact r
theorem Rep.dropX {h : Heap} {v : Value} {pv : PV} {D : Addr} (r : Rep (D :: X) h v pv) (hp : ∀ xs, pv ≠ .own D xs) : Rep X h v pv := by
  cases pv with
  | none => exact r
  | int i => exact r
  | bool b => exact r
  | bytes b => exact r
  | il xs => obtain ⟨a, vs, e, hX, hl, hi⟩ := r; exact ⟨a, vs, e, fun hm => hX (.tail _ hm), hl, hi⟩
  | it xs => exact r
  | tl xss => obtain ⟨a, vs, e, hX, hl, hi⟩ := r; exact ⟨a, vs, e, fun hm => hX (.tail _ hm), hl, hi⟩
  | own a xs =>
    obtain ⟨vs, e, hX, hl, hi⟩ := r
    refine ⟨vs, e, (List.mem_cons.mp hX).elim (fun q => ?_) id, hl, hi⟩
    subst q; exact absurd rfl (hp xs)
  | rg a b c => exact r
  | fn a fd => exact r
theorem Rep.free {h : Heap} {v : Value} {D : Addr} {xs : List Int} (r : Rep (D :: X) h v (.own D xs)) (hX : D ∉ X) : Rep X h v (.il xs) := by
  obtain ⟨vs, e, _, hl, hi⟩ := r; exact ⟨D, vs, e, hX, hl, hi⟩

theorem EvN.list {es : List Expr} {ps : List PV} {pos : Pos} (h : Evs C A env X ρ es ps) (hp : ∀ p ∈ ps, Elem p) (hz : ps.length ≤ sizeLine) : EvN C A env X ρ (.List es pos) ps := fun s Q E c o lv k => by
  refine wpAny_List (h.run s _ E c o lv fun vs h₁ tk₁ k₁ o₁ r₁ => ⟨by rw [r₁.len]; exact hz, ?_⟩)
  exact k _ vs _ _ (k₁.trans (Full.push _ _).kp) (o₁.full (Full.push _ _)) (kp_none k₁ o₁ (fresh_size _)) ⟨0, Heap.get?_push_size _ rfl⟩ (r₁.kp o₁ (Full.push _ _).kp)
theorem ints_reps {h : Heap} : ∀ {vs : List Value} {xs : List Int}, IntsAre vs xs → Reps X h vs (xs.map .int)
  | _, _, .nil => .nil
  | _, _, .cons n t r => .cons ⟨t, rfl⟩ (ints_reps r)
theorem EvN.slice {value : Expr} {l u st : Option Expr} {q : PV} {xs : List Int} {lo hi sp : Option Int} {p pos : Pos} (hv : Ev C A env X ρ value q) (hq : LI q xs) (h1 : EvP C A env X ρ l lo) (h2 : EvP C A env X ρ u hi) (h3 : EvP C A env X ρ st sp) (h0 : sp ≠ some 0) (hz : xs.length ≤ sizeLine) :
    EvN C A env X ρ (.Subscript value (.Slice l u st p) pos) ((pickNums xs lo hi sp).map .int) := fun s Q E c o lv k => by
  refine Subscript_ (hv s _ E c o lv fun x h₁ tk₁ k₁ o₁ r₁ => wpAny_Slice (h1.run _ _ E (c.kp o k₁) o₁ (lv.kp k₁) fun vl h₂ tk₂ k₂ o₂ r₂ => h2.run _ _ E ((c.kp o k₁).kp o₁ k₂) o₂ ((lv.kp k₁).kp k₂) fun vu h₃ tk₃ k₃ o₃ r₃ =>
    h3.run _ _ E (((c.kp o k₁).kp o₁ k₂).kp o₂ k₃) o₃ (((lv.kp k₁).kp k₂).kp k₃) fun vs h₄ tk₄ k₄ o₄ r₄ => ?_))
  have kp : Kp C h₄ (h₄.push { cls := .type "slice", data := .fields #[vl, vu, vs] }) := (Full.push _ _).kp
  have o₅ : Ok C (h₄.push { cls := .type "slice", data := .fields #[vl, vu, vs] }) := o₄.full (Full.push _ _)
  have rx := (((r₁.kp o₁ k₂).kp o₂ k₃).kp o₃ k₄).kp o₄ kp
  obtain ⟨a, ws, rfl, hl, hi'⟩ := hq.rep rx
  refine sub_tail hl.isList.typeIs list_getitem_lookup (wpAny_getItem_list_slice hl.isList (Heap.IsSliceOf.new ..) r₂ r₃ r₄ h0 ?_ (by simpa [hi'.length] using hz))
  have e : slicePick ws.toArray lo hi sp = (slicePick ws.toArray lo hi sp).toList.toArray := by simp
  rw [e]
  have kk := ((((k₁.trans k₂).trans k₃).trans k₄).trans kp)
  exact k _ _ _ _ (kk.trans (Full.push _ _).kp) (o₅.full (Full.push _ _)) (kp_none kk o₅ (fresh_size _)) ⟨0, Heap.get?_push_size _ rfl⟩ (ints_reps (hi'.pick lo hi sp))
theorem EvN.mul {l r : Expr} {p : PV} {xs : List Int} {x : Int} {pos : Pos} (hl : Ev C A env X ρ l p) (hr : Ev C A env X ρ r (.int x)) (hp : LI p xs) (h0 : x < 2 ^ 63) (h1 : -(2 ^ 63 : Int) ≤ x) (hz : xs.length * x.toNat ≤ 2 ^ 24) :
    EvN C A env X ρ (.BinOp l .Mult r pos) ((List.replicate x.toNat xs).flatten.map .int) := fun s Q E c o lv k => by
  refine wpAny_BinOp (hl s _ E c o lv fun v h₁ tk₁ k₁ o₁ r₁ => hr _ _ E (c.kp o k₁) o₁ (lv.kp k₁) fun y h₂ tk₂ k₂ o₂ r₂ => ?_)
  obtain ⟨u, rfl⟩ := r₂
  obtain ⟨a, vs, rfl, ⟨n, ho⟩, hi⟩ := hp.rep (r₁.kp o₁ k₂)
  have hsz' : vs.toArray.size * x.toNat ≤ 2 ^ 24 := by simpa [hi.length] using hz
  refine wpAny_binaryOp_repeat_ref (T := "list") (U := "int") (by decide) ⟨_, ho, rfl⟩ (fun s' => typeIs_int s' x u) noFill_list_mul F.fills_int_mul F.slot_int_rmul repeat_list F.slot_int_index.lookup
    (call_meets F.slot_int_rmul (typeIs_int _ x u) F.entry_int_rmul (F.args_int_rmul_2 _ _) (int___rmul___int_list x u a vs.toArray n)
      ⟨ho, rfl, ⟨_, ho, rfl⟩, call_meets F.slot_list_mul ⟨_, ho, rfl⟩ F.entry_list_mul (F.args_list_mul_2 _ _)
        (AutoListH.list___mul___list_int_3 a vs.toArray n x u (by simp [Builtin.List.listFitsIndex]; omega) (by omega) (by simp [Builtin.List.listTooLong, sizeLine]; omega))
        ⟨ho, ?_⟩⟩)
  rw [listMul_foldl_if]
  exact k _ _ _ _ ((k₁.trans k₂).trans (Full.push _ _).kp) (o₂.full (Full.push _ _)) (kp_none (k₁.trans k₂) o₂ (fresh_size _)) ⟨0, Heap.get?_push_size _ rfl⟩ (ints_reps (KM.ints_rep hi _))

/-- the new list is the frame's own from here on -/
theorem St.own_new {h h' : Heap} {D : Addr} {ys : List Value} (S : St C A env X g0 ρ h) (k : Kp C h h') (o : Ok C h') (hD : h.get? D = none) (hl : h'.PlainList D ys.toArray) : D ∉ X ∧ g0.get? D = none ∧ (∀ y zs, ρ.lookup y ≠ some (.own D zs)) ∧ St C A env (D :: X) g0 ρ h' := by
  have hX : D ∉ X := S.live.fresh hD
  have hg : g0.get? D = none := kp_none S.kp S.ok hD
  have hT : D ∉ C.T := notT_none S.ok hD
  refine ⟨hX, hg, fun y zs e => ?_, ?_⟩
  · obtain ⟨v, _, vs, _, hX', _⟩ := S.cx.var y _ e
    exact hX hX'
  · have S' := S.step k o
    refine ⟨⟨S'.cx.fn, S'.cx.glob, S'.cx.blt, fun y pw e => ?_⟩, o, fun a ha => ?_, S.ok0, S'.kp, S'.ns, S'.cells, S.apart, S.newL, S.newC, S.own, S.stk⟩
    · obtain ⟨u, hu, ru⟩ := S.cx.var y pw e
      exact ⟨u, hu.kp S.ok k, (ru.addX hD).kp S.ok k⟩
    · rcases List.mem_cons.mp ha with rfl | ha
      · exact ⟨hT, _, hl⟩
      · exact S'.lo a ha

section stmts
variable {s : Shared} {Q : Flow → Shared → Prop} {E : Value → Shared → Prop} {rest : List Stmt}

theorem do_own {x : Str} {p pos : Pos} {e : Expr} {ps : List PV} {xs : List Int} (S : St C A env X g0 ρ s.heap) (he : EvN C A env X ρ e ps) (q : ps = xs.map .int) (hx : Puts env x)
    (k : ∀ a h' tk, a ∉ X → St C A env (a :: X) g0 ((x, .own a xs) :: ρ) h' → wpAny C.M A (execs rest env) Q E { s with heap := h', toks := tk }) (hs : swapsWith e (some (.Name x p)) pos.line env = pure false := by rfl) :
    wpAny C.M A (execs (.Assign [.Name x p] e pos :: rest) env) Q E s := by
  refine wpAny_execs_cons (wpAny_Assign_Name (he s _ E S.cx S.ok S.live fun D ys h₁ tk₁ k₁ o₁ hD hl hr => ?_) hs)
  obtain ⟨hX, hg, hn, S₁⟩ := S.own_new k₁ o₁ hD hl
  exact St.storeK (s := { s with heap := h₁, toks := tk₁ }) (pv := .own D xs) S₁ hx ⟨ys, rfl, .head _, hl, (q ▸ hr).ints⟩ (S₁.own.add hg hn) fun h₂ tk₂ S₂ _ => k D h₂ tk₂ hX S₂

/-- the frame lets its list go -/
theorem St.free {h : Heap} {a : Addr} {x : Str} {xs : List Int} {ρ' : List (Str × PV)} (S : St C A env (a :: X) g0 ρ h) (hX : a ∉ X) (hx : ρ.lookup x = some (.own a xs)) (hs : ∀ y pv, ρ'.lookup y = some pv → ρ.lookup y = some pv ∧ pv.plain = true) : St C A env X g0 ((x, .il xs) :: ρ') h := by
  refine ⟨⟨S.cx.fn, S.cx.glob, S.cx.blt, fun y pw e => ?_⟩, S.ok, fun b hb => S.lo b (.tail _ hb), S.ok0, S.kp, S.ns, S.cells, S.apart, S.newL, S.newC, (OwnOk.sub S.own (ρ' := ρ') fun y pv e => (hs y pv e).1).put rfl, S.stk⟩
  rw [List.lookup_cons] at e
  cases hb : y == x with
  | true =>
    rw [hb] at e; cases e
    rw [eq_of_beq hb]
    obtain ⟨v, hv, r⟩ := S.cx.var x _ hx
    exact ⟨v, hv, r.free hX⟩
  | false =>
    rw [hb] at e
    obtain ⟨e1, e2⟩ := hs y pw e
    obtain ⟨v, hv, r⟩ := S.cx.var y _ e1
    exact ⟨v, hv, r.dropX (PV.plain_ne e2 a)⟩

theorem do_return_own {x : Str} {p pos : Pos} {a : Addr} {xs : List Int} (S : St C A env (a :: X) g0 ρ s.heap) (hX : a ∉ X) (hx : ρ.lookup x = some (.own a xs)) (k : ∀ v h' tk, Kp C g0 h' → Ok C h' → Rep X h' v (.il xs) → Q (.ret v) { s with heap := h', toks := tk })
    (hd : (x == ("__debug__" : Str)) = false := by decide) (hn : (x == ("__classdict__" : Str)) = false := by decide) : wpAny C.M A (execs (.Return (some (.Name x p)) pos :: rest) env) Q E s :=
  do_return S (Ev.name hx hd hn) fun v h' tk kp ok r => k v h' tk kp ok (r.free hX)

/-- an owned list has changed -/
theorem St.mut {h h' : Heap} {x : Str} {a : Addr} {xs ys : List Int} {vs : List Value} (S : St C A env X g0 ρ h) (hx : ρ.lookup x = some (.own a xs)) (hk : ∀ b o, b ≠ a → h.get? b = some o → h'.get? b = some o) (hl : h'.PlainList a vs.toArray) (hi : IntsAre vs ys) :
    St C A env X g0 ((x, .own a ys) :: ρ) h' := by
  obtain ⟨v, hv, ws, rfl, hX, hpl, hi'⟩ := S.cx.var x _ hx
  have hpl' := hpl
  obtain ⟨n, ho⟩ := hpl'
  have hg := S.own.new x a xs hx
  have neL : env.locals ≠ a := fun q => by obtain ⟨m, o', es, ep, e', d', _⟩ := S.ns; rw [q, ho] at e'; cases e'; cases d'
  have neC : ∀ n c, env.cells.lookup n = some c → c ≠ a := fun n c hc q => by obtain ⟨v, o', e', d'⟩ := S.cells n c hc; rw [q, ho] at e'; cases e'; cases d'
  have var : ∀ {y u}, Var env h y u → Var env h' y u := fun {y u} r => by
    rcases r with ⟨a1, m1, n1, b1⟩ | ⟨a1, c1, n1, o1, e1, b1⟩
    · exact .inl ⟨a1, m1, n1.at' fun o e => hk _ o neL e, b1⟩
    · exact .inr ⟨a1, c1, n1, o1, hk _ _ (neC y c1 n1) e1, b1⟩
  refine ⟨⟨S.cx.fn, S.cx.glob, S.cx.blt, fun y pw e => ?_⟩, ⟨fun b o e => hk b o (fun q => by rw [q, S.nog hg] at e; cases e) (S.ok.up b o e), C.tabBut _ _ a _ S.ok.tab ho (.inl nofun) hk⟩, fun b hb => ⟨(S.lo b hb).1, ?_⟩, S.ok0, S.kp.but hg hk,
    let ⟨m, n⟩ := S.ns; ⟨m, n.at' fun o e => hk _ o neL e⟩, fun n c e => let ⟨v, o, e1, e2⟩ := S.cells n c e; ⟨v, o, hk _ o (neC n c e) e1, e2⟩, S.apart, S.newL, S.newC, S.own.set hx, S.stk⟩
  · rw [List.lookup_cons] at e
    cases hb : y == x with
    | true =>
      rw [hb] at e; cases e
      rw [eq_of_beq hb]
      exact ⟨_, var hv, vs, rfl, hX, hl, hi⟩
    | false =>
      rw [hb] at e
      obtain ⟨u, hu, ru⟩ := S.cx.var y pw e
      refine ⟨u, var hu, ru.mut hpl.isList hX (fun zs q => ?_) fun b o q _ e => hk b o q e⟩
      subst q
      have := S.own.one y x a zs xs e hx
      rw [this] at hb; simp at hb
  · obtain ⟨its, n, e⟩ := (S.lo b hb).2
    by_cases q : b = a
    · subst q; exact ⟨_, hl⟩
    · exact ⟨its, n, hk b _ q e⟩

theorem update_but {h : Heap} {a : Addr} {f : Obj → Obj} : ∀ b o, b ≠ a → h.get? b = some o → (h.update a f).get? b = some o := fun b o q e => (Heap.SameBut.update ..).extBut b o q e
theorem plain_update {h : Heap} {a : Addr} {its : Array Value} {f : Array Value → Array Value} (hl : h.PlainList a its) : (h.update a (Obj.mapSeq f)).PlainList a (f its) := by
  obtain ⟨n, e⟩ := hl
  exact ⟨_, Heap.get?_update_self _ e rfl⟩

/-- a method of a list: o.name(..) -/
theorem meth_call {x name : Str} {xp apos pos : Pos} {args : List Expr} {id : String} {a : Addr} {xs : List Int} {Q : Value → Shared → Prop} (S : St C A env X g0 ρ s.heap) (hx : ρ.lookup x = some (.own a xs)) (slot : Slot "list" name id) (hty : typeOf (.builtin id) = pure (.type "method_descriptor"))
    (h : ∀ h₁ tk₁ vs, St C A env X g0 ρ h₁ → h₁.PlainList a vs.toArray → IntsAre vs xs → wpAny C.M A (callWith pos (.builtin id) [.ref a] (backTo pos (starEach args env)) []) Q E { s with heap := h₁, toks := tk₁ })
    (hbase : attributeBase (.Name x xp) name env (eval (.Name x xp) env) = eval (.Name x xp) env := by rfl)
    (hfew : ((backTo pos (starEach args env)).all (fun x => !x.1) && (backToKw pos (keywordEach [] env)).all (fun x => x.1.isSome) && decide (args.length + ([] : List Keyword).length + (if ([] : List Keyword).isEmpty then 0 else 1) < 30)) = true := by rfl)
    (hline : (apos.endLine == pos.line) = true := by rfl) (hd : (x == ("__debug__" : Str)) = false := by decide) (hn : (x == ("__classdict__" : Str)) = false := by decide) :
    wpAny C.M A (eval (.Call (.Attribute (.Name x xp) name apos) args [] pos) env) Q E s := by
  refine wpAny_Call_method hbase hfew hline PySem.F.plainAttrs_list slot hty (Ev.name hx hd hn s _ E S.cx S.ok S.live fun v h₁ tk₁ k₁ o₁ r₁ => ?_)
  obtain ⟨vs, rfl, hX, hl, hi⟩ := r₁
  have hl' := hl
  obtain ⟨n, ho⟩ := hl'
  exact ⟨hl.isList.typeIs, fun b q => by cases q; exact ⟨_, ho, rfl⟩, h h₁ tk₁ vs (S.step k₁ o₁) hl hi⟩

theorem do_append {x : Str} {xp apos pos epos : Pos} {e : Expr} {a : Addr} {xs : List Int} {y : Int} (S : St C A env X g0 ρ s.heap) (hx : ρ.lookup x = some (.own a xs)) (he : Ev C A env X ρ e (.int y)) (hz : xs.length ≤ sizeLine)
    (k : ∀ h' tk, St C A env X g0 ((x, .own a (xs ++ [y])) :: ρ) h' → wpAny C.M A (execs rest env) Q E { s with heap := h', toks := tk })
    (hbase : attributeBase (.Name x xp) "append" env (eval (.Name x xp) env) = eval (.Name x xp) env := by rfl) (hst : backTo pos (starEach [e] env) = [(false, eval e env)] := by rfl)
    (hline : (apos.endLine == pos.line) = true := by rfl) (hd : (x == ("__debug__" : Str)) = false := by decide) (hn : (x == ("__classdict__" : Str)) = false := by decide) (hi : interactive env = false := by rfl) (hs : swapsWith (.Call (.Attribute (.Name x xp) "append" apos) [e] [] pos) none epos.line env = pure false := by rfl) :
    wpAny C.M A (execs (.Expr (.Call (.Attribute (.Name x xp) "append" apos) [e] [] pos) epos :: rest) env) Q E s := by
  refine wpAny_execs_cons (wpAny_Expr_any (meth_call S hx PySem.F.slot_list_append PySem.F.type_list_append (fun h₁ tk₁ vs S₁ hl hi' => ?_) hbase (by rw [hst]; rfl) hline hd hn) hi hs)
  rw [hst]
  refine P.append_list (he _ _ E S₁.cx S₁.ok S₁.live fun v h₂ tk₂ k₂ o₂ r₂ => ?_)
  obtain ⟨t, rfl⟩ := r₂
  have S₂ := S₁.step k₂ o₂
  have hl₂ : h₂.PlainList a vs.toArray := by
    obtain ⟨v, _, ws, _, hX, _⟩ := S₁.cx.var x _ hx
    obtain ⟨n, ho⟩ := hl; exact ⟨n, k₂.ex (S₁.lo a hX).1 ho (by nofun)⟩
  have hl₂' := hl₂
  obtain ⟨n, ho⟩ := hl₂'
  refine ⟨vs.toArray, n, by simpa [hi'.length] using hz, ho, k _ tk₂ (S₂.mut hx update_but (vs := vs ++ [.int y t]) ?_ (hi'.append (.cons y t .nil)))⟩
  have := plain_update (f := fun xs => xs.push (.int y t)) hl₂
  simpa using this
theorem do_reverse {x : Str} {xp apos pos epos : Pos} {a : Addr} {xs : List Int} (S : St C A env X g0 ρ s.heap) (hx : ρ.lookup x = some (.own a xs)) (hz : xs.length ≤ sizeLine)
    (k : ∀ h' tk, St C A env X g0 ((x, .own a xs.reverse) :: ρ) h' → wpAny C.M A (execs rest env) Q E { s with heap := h', toks := tk })
    (hbase : attributeBase (.Name x xp) "reverse" env (eval (.Name x xp) env) = eval (.Name x xp) env := by rfl)
    (hline : (apos.endLine == pos.line) = true := by rfl) (hd : (x == ("__debug__" : Str)) = false := by decide) (hn : (x == ("__classdict__" : Str)) = false := by decide) (hi : interactive env = false := by rfl) (hs : swapsWith (.Call (.Attribute (.Name x xp) "reverse" apos) [] [] pos) none epos.line env = pure false := by rfl) :
    wpAny C.M A (execs (.Expr (.Call (.Attribute (.Name x xp) "reverse" apos) [] [] pos) epos :: rest) env) Q E s := by
  refine wpAny_execs_cons (wpAny_Expr_any (meth_call S hx PySem.F.slot_list_reverse PySem.F.type_list_reverse (fun h₁ tk₁ vs S₁ hl hi' => ?_) hbase rfl hline hd hn) hi hs)
  have hl' := hl
  obtain ⟨n, ho⟩ := hl'
  refine P.reverse_list ho (k _ tk₁ (S₁.mut hx update_but (vs := vs.reverse) ?_ (PyProof.Rows.IntsAre.reverse hi'))) (by simpa [hi'.length] using hz)
  have := plain_update (f := fun xs => xs.reverse) hl
  simpa using this
theorem do_pop {x : Str} {xp apos pos epos : Pos} {a : Addr} {xs : List Int} (S : St C A env X g0 ρ s.heap) (hx : ρ.lookup x = some (.own a xs)) (hne : xs ≠ []) (hz : xs.length ≤ sizeLine)
    (k : ∀ h' tk, St C A env X g0 ((x, .own a xs.dropLast) :: ρ) h' → wpAny C.M A (execs rest env) Q E { s with heap := h', toks := tk })
    (hbase : attributeBase (.Name x xp) "pop" env (eval (.Name x xp) env) = eval (.Name x xp) env := by rfl)
    (hline : (apos.endLine == pos.line) = true := by rfl) (hd : (x == ("__debug__" : Str)) = false := by decide) (hn : (x == ("__classdict__" : Str)) = false := by decide) (hi : interactive env = false := by rfl) (hs : swapsWith (.Call (.Attribute (.Name x xp) "pop" apos) [] [] pos) none epos.line env = pure false := by rfl) :
    wpAny C.M A (execs (.Expr (.Call (.Attribute (.Name x xp) "pop" apos) [] [] pos) epos :: rest) env) Q E s := by
  refine wpAny_execs_cons (wpAny_Expr_any (meth_call S hx PySem.F.slot_list_pop PySem.F.type_list_pop (fun h₁ tk₁ vs S₁ hl hi' => ?_) hbase rfl hline hd hn) hi hs)
  have hl' := hl
  obtain ⟨n, ho⟩ := hl'
  have hpos : 0 < vs.length := by rw [hi'.length]; exact List.length_pos_iff.mpr hne
  refine P.pop_list (y := vs[vs.length - 1]) ho (by simp [hpos]) (k _ tk₁ (S₁.mut hx update_but (vs := vs.dropLast) ?_ ?_)) (by simpa [hi'.length] using hz)
  · have := plain_update (f := fun xs => xs.eraseIdxIfInBounds (vs.toArray.size - 1)) hl
    have e : vs.toArray.eraseIdxIfInBounds (vs.toArray.size - 1) = vs.dropLast.toArray := by
      simp only [List.size_toArray, List.eraseIdxIfInBounds_toArray]
      rw [List.eraseIdx_length_sub_one]
    rw [e] at this; exact this
  · rw [List.dropLast_eq_take, List.dropLast_eq_take, ← hi'.length]; exact hi'.take _
end stmts
end
end Mine
namespace Mine
open PySem PySem.Calls PySem.W PyProof.Rows
variable {C : Cfg}

/-! lists in order -/
def ltL : List Int → List Int → Bool
  | [], [] => false
  | [], _ :: _ => true
  | _ :: _, [] => false
  | a :: r, b :: t => if a = b then ltL r t else decide (a < b)

theorem ltL_nil (ys : List Int) : ltL [] ys = !ys.isEmpty := by cases ys <;> rfl
theorem ltL_nil' (xs : List Int) : ltL xs [] = false := by cases xs <;> rfl

namespace Ord
open MeetsSeq MeetsSeq3
open AutoSeq1 (wpAny_loadPart')

theorem ends {xs ys : List Int} {i : Nat} (h1 : i ≤ xs.length) (h2 : i ≤ ys.length) (h : ¬ (i < xs.length ∧ i < ys.length)) : ltL (xs.drop i) (ys.drop i) = decide (xs.length < ys.length) := by
  by_cases q : i < xs.length
  · have e : ys.drop i = [] := List.drop_eq_nil_of_le (by omega)
    rw [e, ltL_nil']
    exact (decide_eq_false (by omega)).symm
  · have e : xs.drop i = [] := List.drop_eq_nil_of_le (by omega)
    rw [e, ltL_nil]
    have : (ys.drop i).isEmpty = !decide (xs.length < ys.length) := by
      rw [Bool.eq_iff_iff]
      simp [List.isEmpty_iff]
      omega
    rw [this, Bool.not_not]

theorem lt_loop (l b : Addr) (vs us : List Value) (xs ys : List Int) (n n2 : Nat) (hi : IntsAre vs xs) (hj : IntsAre us ys) (k : Nat) :
    ∀ i : Nat, i ≤ xs.length → i ≤ ys.length → xs.length - i = k → Meets (Builtin.«list.__eq__.loop» ⟨[.ref l, .ref b, rawInt i, rawInt 0], []⟩)
      (fun _ R s => s.heap.get? l = some { cls := .type "list", dict := none, data := .seq vs.toArray n, slots := #[] } ∧ s.heap.get? b = some { cls := .type "list", dict := none, data := .seq us.toArray n2, slots := #[] } ∧
        R (.ok (.ret (.bool (ltL (xs.drop i) (ys.drop i))))) s) := by
  induction k with
  | zero =>
    intro i h1 h2 hk prog w A R s h
    obtain ⟨hp, g, d, tk, os⟩ := s; obtain ⟨hl, hb, h⟩ := h
    rw [ends h1 h2 (by omega)] at h
    wp_walk using wpAny_loadPart' hl, wpAny_loadPart' hb
    have hi1 : vs.toArray[((i : Nat) : Int).toNat]? = none := by simp; rw [hi.length]; omega
    rw [hi1]
    wp_walk using wpAny_loadPart' hl, wpAny_loadPart' hb
    show R (.ok (.ret (.bool (decide (vs.toArray.size < us.toArray.size))))) _
    simpa [hi.length, hj.length] using h
  | succ k ih =>
    intro i h1 h2 hk prog w A R s h
    obtain ⟨hp, g, d, tk, os⟩ := s; obtain ⟨hl, hb, h⟩ := h
    have hlt : i < xs.length := by omega
    obtain ⟨t, hx⟩ := hi.get i xs[i] (by simp [hlt])
    have hi1 : vs.toArray[((i : Nat) : Int).toNat]? = some (.int xs[i] t) := by simpa using hx
    by_cases hlt2 : i < ys.length
    · obtain ⟨u, hy⟩ := hj.get i ys[i] (by simp [hlt2])
      have hi2 : us.toArray[((i : Nat) : Int).toNat]? = some (.int ys[i] u) := by simpa using hy
      have d1 : xs.drop i = xs[i] :: xs.drop (i + 1) := List.drop_eq_getElem_cons hlt
      have d2 : ys.drop i = ys[i] :: ys.drop (i + 1) := List.drop_eq_getElem_cons hlt2
      have hc : ((i : Int) + 1) = ((i + 1 : Nat) : Int) := by push_cast; rfl
      rw [d1, d2] at h
      wp_walk using wpAny_loadPart' hl, wpAny_loadPart' hb
      rw [hi1, hi2]
      refine wpAny_bind (EqGives.int _ _ t u prog w _ _ _ _ ?_)
      by_cases q : xs[i] = ys[i]
      · have e : ltL (xs[i] :: xs.drop (i + 1)) (ys[i] :: ys.drop (i + 1)) = ltL (xs.drop (i + 1)) (ys.drop (i + 1)) := by rw [ltL, if_pos q]
        rw [e] at h
        rw [show (xs[i] == ys[i]) = true from beq_iff_eq.mpr q]
        wp_walk
        rw [hc]
        exact ⟨plainId_quiet plain_eq_loop _, codeAny_builtin entry_eq_loop (by
          rw [Around.under_plainId plain_eq_loop _]
          exact ih (i + 1) hlt hlt2 (by omega) prog w A R _ ⟨hl, hb, h⟩)⟩
      · have e : ltL (xs[i] :: xs.drop (i + 1)) (ys[i] :: ys.drop (i + 1)) = decide (xs[i] < ys[i]) := by rw [ltL, if_neg q]
        rw [e] at h
        rw [show (xs[i] == ys[i]) = false from beq_eq_false_iff_ne.mpr q]
        wp_walk using wpAny_loadPart' hl, wpAny_loadPart' hb
        rw [hi1, hi2]
        show wpAny _ _ (do let r ← compareOp .Lt (.int xs[i] t) (.int ys[i] u); ret r) _ _ _
        exact wpAny_bind (P.lt_int (wpAny_pure h))
    · have hi2 : us.toArray[((i : Nat) : Int).toNat]? = none := by simp; rw [hj.length]; omega
      rw [ends h1 h2 (by omega)] at h
      wp_walk using wpAny_loadPart' hl, wpAny_loadPart' hb
      rw [hi1, hi2]
      wp_walk using wpAny_loadPart' hl, wpAny_loadPart' hb
      show R (.ok (.ret (.bool (decide (vs.toArray.size < us.toArray.size))))) _
      simpa [hi.length, hj.length] using h

theorem ge_loop (l b : Addr) (vs us : List Value) (xs ys : List Int) (n n2 : Nat) (hi : IntsAre vs xs) (hj : IntsAre us ys) (k : Nat) :
    ∀ i : Nat, i ≤ xs.length → i ≤ ys.length → xs.length - i = k → Meets (Builtin.«list.__eq__.loop» ⟨[.ref l, .ref b, rawInt i, rawInt 5], []⟩)
      (fun _ R s => s.heap.get? l = some { cls := .type "list", dict := none, data := .seq vs.toArray n, slots := #[] } ∧ s.heap.get? b = some { cls := .type "list", dict := none, data := .seq us.toArray n2, slots := #[] } ∧
        R (.ok (.ret (.bool (!ltL (xs.drop i) (ys.drop i))))) s) := by
  have fin : ∀ m n : Nat, (!decide (m < n)) = decide (m ≥ n) := fun m n => by
    by_cases q : m < n
    · rw [decide_eq_true q, decide_eq_false (by omega)]; rfl
    · rw [decide_eq_false q, decide_eq_true (by omega)]; rfl
  have finI : ∀ m n : Int, (!decide (m < n)) = decide (m ≥ n) := fun m n => by
    by_cases q : m < n
    · rw [decide_eq_true q, decide_eq_false (by omega)]; rfl
    · rw [decide_eq_false q, decide_eq_true (by omega)]; rfl
  induction k with
  | zero =>
    intro i h1 h2 hk prog w A R s h
    obtain ⟨hp, g, d, tk, os⟩ := s; obtain ⟨hl, hb, h⟩ := h
    rw [ends h1 h2 (by omega), fin] at h
    wp_walk using wpAny_loadPart' hl, wpAny_loadPart' hb
    have hi1 : vs.toArray[((i : Nat) : Int).toNat]? = none := by simp; rw [hi.length]; omega
    rw [hi1]
    wp_walk using wpAny_loadPart' hl, wpAny_loadPart' hb
    show R (.ok (.ret (.bool (decide (vs.toArray.size ≥ us.toArray.size))))) _
    simpa [hi.length, hj.length] using h
  | succ k ih =>
    intro i h1 h2 hk prog w A R s h
    obtain ⟨hp, g, d, tk, os⟩ := s; obtain ⟨hl, hb, h⟩ := h
    have hlt : i < xs.length := by omega
    obtain ⟨t, hx⟩ := hi.get i xs[i] (by simp [hlt])
    have hi1 : vs.toArray[((i : Nat) : Int).toNat]? = some (.int xs[i] t) := by simpa using hx
    by_cases hlt2 : i < ys.length
    · obtain ⟨u, hy⟩ := hj.get i ys[i] (by simp [hlt2])
      have hi2 : us.toArray[((i : Nat) : Int).toNat]? = some (.int ys[i] u) := by simpa using hy
      have d1 : xs.drop i = xs[i] :: xs.drop (i + 1) := List.drop_eq_getElem_cons hlt
      have d2 : ys.drop i = ys[i] :: ys.drop (i + 1) := List.drop_eq_getElem_cons hlt2
      have hc : ((i : Int) + 1) = ((i + 1 : Nat) : Int) := by push_cast; rfl
      rw [d1, d2] at h
      wp_walk using wpAny_loadPart' hl, wpAny_loadPart' hb
      rw [hi1, hi2]
      refine wpAny_bind (EqGives.int _ _ t u prog w _ _ _ _ ?_)
      by_cases q : xs[i] = ys[i]
      · have e : ltL (xs[i] :: xs.drop (i + 1)) (ys[i] :: ys.drop (i + 1)) = ltL (xs.drop (i + 1)) (ys.drop (i + 1)) := by rw [ltL, if_pos q]
        rw [e] at h
        rw [show (xs[i] == ys[i]) = true from beq_iff_eq.mpr q]
        wp_walk
        rw [hc]
        exact ⟨plainId_quiet plain_eq_loop _, codeAny_builtin entry_eq_loop (by
          rw [Around.under_plainId plain_eq_loop _]
          exact ih (i + 1) hlt hlt2 (by omega) prog w A R _ ⟨hl, hb, h⟩)⟩
      · have e : ltL (xs[i] :: xs.drop (i + 1)) (ys[i] :: ys.drop (i + 1)) = decide (xs[i] < ys[i]) := by rw [ltL, if_neg q]
        rw [e, finI] at h
        rw [show (xs[i] == ys[i]) = false from beq_eq_false_iff_ne.mpr q]
        wp_walk using wpAny_loadPart' hl, wpAny_loadPart' hb
        rw [hi1, hi2]
        show wpAny _ _ (do let r ← compareOp .GtE (.int xs[i] t) (.int ys[i] u); ret r) _ _ _
        exact wpAny_bind (P.ge_int (wpAny_pure h))
    · have hi2 : us.toArray[((i : Nat) : Int).toNat]? = none := by simp; rw [hj.length]; omega
      rw [ends h1 h2 (by omega), fin] at h
      wp_walk using wpAny_loadPart' hl, wpAny_loadPart' hb
      rw [hi1, hi2]
      wp_walk using wpAny_loadPart' hl, wpAny_loadPart' hb
      show R (.ok (.ret (.bool (decide (vs.toArray.size ≥ us.toArray.size))))) _
      simpa [hi.length, hj.length] using h

theorem list_lt (l b : Addr) (vs us : List Value) (xs ys : List Int) (n n2 : Nat) (hi : IntsAre vs xs) (hj : IntsAre us ys) :
    Meets (Builtin.«list.__lt__» ⟨[.ref l, .ref b], []⟩)
      (fun _ R s => s.heap.get? l = some { cls := .type "list", dict := none, data := .seq vs.toArray n, slots := #[] } ∧ s.heap.get? b = some { cls := .type "list", dict := none, data := .seq us.toArray n2, slots := #[] } ∧
        R (.ok (.ret (.bool (ltL xs ys)))) s) := by
  intro prog w A R s h
  obtain ⟨hp, g, d, tk, os⟩ := s; obtain ⟨hl, hb, h⟩ := h
  have f3 := AutoSeq1.sub_list_list
  wp_walk using wpAny_loadPart' hl, wpAny_loadPart' hb
  exact ⟨plainId_quiet plain_eq_loop _, codeAny_builtin entry_eq_loop (by
    rw [Around.under_plainId plain_eq_loop _]
    exact lt_loop l b vs us xs ys n n2 hi hj _ 0 (Nat.zero_le _) (Nat.zero_le _) rfl prog w A R _ ⟨hl, hb, by simpa using h⟩)⟩
theorem list_ge (l b : Addr) (vs us : List Value) (xs ys : List Int) (n n2 : Nat) (hi : IntsAre vs xs) (hj : IntsAre us ys) :
    Meets (Builtin.«list.__ge__» ⟨[.ref l, .ref b], []⟩)
      (fun _ R s => s.heap.get? l = some { cls := .type "list", dict := none, data := .seq vs.toArray n, slots := #[] } ∧ s.heap.get? b = some { cls := .type "list", dict := none, data := .seq us.toArray n2, slots := #[] } ∧
        R (.ok (.ret (.bool (!ltL xs ys)))) s) := by
  intro prog w A R s h
  obtain ⟨hp, g, d, tk, os⟩ := s; obtain ⟨hl, hb, h⟩ := h
  have f3 := AutoSeq1.sub_list_list
  wp_walk using wpAny_loadPart' hl, wpAny_loadPart' hb
  exact ⟨plainId_quiet plain_eq_loop _, codeAny_builtin entry_eq_loop (by
    rw [Around.under_plainId plain_eq_loop _]
    exact ge_loop l b vs us xs ys n n2 hi hj _ 0 (Nat.zero_le _) (Nat.zero_le _) rfl prog w A R _ ⟨hl, hb, by simpa using h⟩)⟩
end Ord

section
variable {A : Around} {env : Env} {X : List Addr} {ρ : List (Str × PV)} {g0 : Heap}

theorem Op2.ltList {p q : PV} {xs ys : List Int} {d : Nat} (r : Room A d) (hp : LI p xs) (hq : LI q ys) : Op2 C A X (compareOp .Lt) p q (.bool (ltL xs ys)) := by
  intro s Q E x y o lv rx ry k
  obtain ⟨a, vs, rfl, ⟨n, hl⟩, hi⟩ := hp.rep rx
  obtain ⟨b, us, rfl, ⟨m, hl'⟩, hi'⟩ := hq.rep ry
  refine richCompare_meets_room (op := .Lt) ⟨_, hl, rfl⟩ ⟨_, hl', rfl⟩ F.slot_list_lt F.entry_list_lt (F.args_list_lt_2 _ _) (Ord.list_lt a b vs us xs ys n m hi hi') ⟨hl, hl', ?_⟩ r.units
  exact show Value.bool (ltL xs ys) ≠ Value.notImplemented ∧ Q (.bool (ltL xs ys)) s from ⟨nofun, k (.bool (ltL xs ys)) s.heap s.toks (Kp.refl _) o rfl⟩
theorem Op2.geList {p q : PV} {xs ys : List Int} {d : Nat} (r : Room A d) (hp : LI p xs) (hq : LI q ys) : Op2 C A X (compareOp .GtE) p q (.bool (!ltL xs ys)) := by
  intro s Q E x y o lv rx ry k
  obtain ⟨a, vs, rfl, ⟨n, hl⟩, hi⟩ := hp.rep rx
  obtain ⟨b, us, rfl, ⟨m, hl'⟩, hi'⟩ := hq.rep ry
  refine richCompare_meets_room (op := .GtE) ⟨_, hl, rfl⟩ ⟨_, hl', rfl⟩ F.slot_list_ge F.entry_list_ge (F.args_list_ge_2 _ _) (Ord.list_ge a b vs us xs ys n m hi hi') ⟨hl, hl', ?_⟩ r.units
  exact show Value.bool (!ltL xs ys) ≠ Value.notImplemented ∧ Q (.bool (!ltL xs ys)) s from ⟨nofun, k (.bool (!ltL xs ys)) s.heap s.toks (Kp.refl _) o rfl⟩

/-! tuples of ints -/
theorem reads_tup {h : Heap} {v : Value} {xs : List Int} (r : RepTup h v xs) : Reads h v (.tuple (xs.map PyData.int)) [] := by
  obtain ⟨a, vs, rfl, ⟨n, ho⟩, hi⟩ := r
  exact Reads.tuple ho rfl rfl (by simpa using readsAll_of_ints hi)
theorem shaped_tup (xs : List Int) : SeqAt.shaped (.tuple (xs.map PyData.int)) = true := by
  have h1 := W.depthAll_ints xs
  have h2 : PyData.depth (.tuple (xs.map PyData.int)) ≤ 64 := by simp only [PyData.depth]; omega
  show (PyData.canLay0 (.tuple (xs.map PyData.int)) && decide (PyData.depth (.tuple (xs.map PyData.int)) ≤ 64)) = true
  rw [Bool.and_eq_true]
  exact ⟨by simp only [PyData.canLay0]; exact canLayAll0_ints xs, decide_eq_true h2⟩
theorem Op2.eqTup {xs ys : List Int} {d : Nat} (r : Room A d) : Op2 C A X (compareOp .Eq) (.it xs) (.it ys) (.bool (decide (xs = ys))) := by
  intro s Q E x y o lv rx ry k
  refine eq_dataH_same (reads_tup rx) (reads_tup ry) (shaped_tup xs) (shaped_tup ys) r.units64 (by simp only [SeqAt.noMix]; exact noMix_ints xs ys) ?_
  simp only [PySem.Spec.same]
  rw [same_ints]
  exact k (.bool (decide (xs = ys))) s.heap s.toks (Kp.refl _) o rfl
theorem Op2.neTup {xs ys : List Int} {d : Nat} (r : Room A d) : Op2 C A X (compareOp .NotEq) (.it xs) (.it ys) (.bool (!decide (xs = ys))) := by
  intro s Q E x y o lv rx ry k
  refine ne_dataH_same (reads_tup rx) (reads_tup ry) (shaped_tup xs) (shaped_tup ys) r.units64 (by simp only [SeqAt.noMix]; exact noMix_ints xs ys) ?_
  simp only [PySem.Spec.same]
  rw [same_ints]
  exact k (.bool (!decide (xs = ys))) s.heap s.toks (Kp.refl _) o rfl

theorem Op2.notInList {k : Int} {p : PV} {xs : List Int} (hp : LI p xs) : Op2 C A X (compareOp .NotIn) (.int k) p (.bool (!(xs.any (· == k)))) := by
  rintro s Q E x y o lv ⟨t, rfl⟩ ry kk
  obtain ⟨a, vs, rfl, hl, hi⟩ := hp.rep ry
  exact notin_list_ints hl.isList hi (kk (.bool _) s.heap s.toks (Kp.refl _) o rfl)
theorem Op2.notInTup {k : Int} {xs : List Int} : Op2 C A X (compareOp .NotIn) (.int k) (.it xs) (.bool (!(xs.any (· == k)))) := by
  rintro s Q E x y o lv ⟨t, rfl⟩ ⟨a, vs, rfl, ⟨n, ho⟩, hi⟩ kk
  refine SeqRoads2.notIn_tuple (items := vs.toArray) (isInt k) (fun y hy => eq_isInt k t hi y (by simpa using hy)) ho ?_
  have := kk (.bool (!(xs.any (· == k)))) s.heap s.toks (Kp.refl _) o rfl
  rw [← any_isInt k hi] at this
  simpa [← Array.any_toList] using this
end
end Mine
namespace Mine
open PySem PySem.Calls PySem.W PyProof.Rows
variable {C : Cfg}

section
variable {A : Around} {env : Env} {X : List Addr} {ρ : List (Str × PV)} {g0 : Heap}

/-- a < b < c as a value -/
theorem Ev.chain {l m r : Expr} {a b c : PV} {t u : Bool} {op₁ op₂ : CmpOp} {pos : Pos} (hl : Ev C A env X ρ l a) (hm : Ev C A env X ρ m b) (hr : t = true → Ev C A env X ρ r c) (h1 : Op2 C A X (compareOp op₁) a b (.bool t)) (h2 : t = true → Op2 C A X (compareOp op₂) b c (.bool u))
    (hk : lastMarks [op₁, op₂] [m, r] = false := by with_unfolding_all rfl) : Ev C A env X ρ (.Compare l [op₁, op₂] [m, r] pos) (.bool (t && u)) := fun s Q E cx o lv k => by
  refine Compare_chain (hl s _ E cx o lv fun x h₁ tk₁ k₁ o₁ r₁ => ?_) hk
  show wpAny _ _ (do
    let rv ← holding [x] (eval m env)
    standAt pos
    let c ← holding [x, rv] (compareOp op₁ x rv)
    release [x, rv] [c]
    if ← holding [c, rv] (truthy c) then compareChain pos rv [op₂] [eval r env] else pure c) _ _ _
  refine wpAny_bind (wpAny_holding (hm _ _ E (cx.kp o k₁) o₁ (lv.kp k₁) fun y h₂ tk₂ k₂ o₂ r₂ => ?_))
  refine wpAny_bind (wpAny_standAt (wpAny_bind (wpAny_holding (h1 _ _ E x y o₂ ((lv.kp k₁).kp k₂) (r₁.kp o₁ k₂) r₂ fun v h₃ tk₃ k₃ o₃ r₃ => ?_))))
  cases r₃
  refine wpAny_bind (wpAny_release (wpAny_bind (wpAny_holding (wpAny_truthy_bool ?_))))
  cases t with
  | false => exact wpAny_pure (k _ h₃ tk₃ ((k₁.trans k₂).trans k₃) o₃ rfl)
  | true =>
    simp only [if_true]
    show wpAny _ _ (do
      let rv ← holding [y] (eval r env)
      standAt pos
      operate [y, rv] (compareOp op₂ y rv)) _ _ _
    refine wpAny_bind (wpAny_holding (hr rfl _ _ E (((cx.kp o k₁).kp o₁ k₂).kp o₂ k₃) o₃ (((lv.kp k₁).kp k₂).kp k₃) fun z h₄ tk₄ k₄ o₄ r₄ => ?_))
    refine wpAny_bind (wpAny_standAt (wpAny_operating (h2 rfl _ _ E y z o₄ ((((lv.kp k₁).kp k₂).kp k₃).kp k₄) ((r₂.kp o₂ k₃).kp o₃ k₄) r₄ fun v h₅ tk₅ k₅ o₅ r₅ => ?_)))
    exact k v h₅ tk₅ ((((k₁.trans k₂).trans k₃).trans k₄).trans k₅) o₅ (by simpa using r₅)

/-! methods as values -/
theorem Ev.bitlen {x : Str} {xp apos pos : Pos} {i : Int} (hx : Ev C A env X ρ (.Name x xp) (.int i))
    (hbase : attributeBase (.Name x xp) "bit_length" env (eval (.Name x xp) env) = eval (.Name x xp) env := by rfl) (hline : (apos.endLine == pos.line) = true := by rfl) :
    Ev C A env X ρ (.Call (.Attribute (.Name x xp) "bit_length" apos) [] [] pos) (.int (Builtin.Int.intBits i)) := fun s Q E c o lv k => by
  refine wpAny_Call_method hbase rfl hline PySem.F.plainAttrs_int PySem.F.slot_int_bit_length PySem.F.type_int_bit_length (hx s _ E c o lv fun v h₁ tk₁ k₁ o₁ r₁ => ?_)
  obtain ⟨t, rfl⟩ := r₁
  refine ⟨typeIs_int _ _ _, fun a q => (by cases q), ?_⟩
  exact callWith_builtin rfl (PySem.evalArgs_none (call_int_bit_length (k _ h₁ _ k₁ o₁ ⟨_, rfl⟩)))

theorem Ev.index {x : Str} {xp apos pos : Pos} {p : PV} {xs : List Int} {e : Expr} {y : Int} {j : Nat} (hx : Ev C A env X ρ (.Name x xp) p) (hp : LI p xs) (he : Ev C A env X ρ e (.int y)) (hz : xs.length ≤ sizeLine) (hj : xs[j]? = some y) (hno : ∀ m, m < j → xs[m]? ≠ some y)
    (hbase : attributeBase (.Name x xp) "index" env (eval (.Name x xp) env) = eval (.Name x xp) env := by rfl) (hst : backTo pos (starEach [e] env) = [(false, eval e env)] := by rfl) (hline : (apos.endLine == pos.line) = true := by rfl) :
    Ev C A env X ρ (.Call (.Attribute (.Name x xp) "index" apos) [e] [] pos) (.int j) := fun s Q E c o lv k => by
  have hjl : j < xs.length := by
    rcases Nat.lt_or_ge j xs.length with h | h
    · exact h
    · rw [List.getElem?_eq_none h] at hj; cases hj
  have hz' : xs.length ≤ 16777216 := hz
  refine wpAny_Call_method hbase (by rw [hst]; rfl) hline PySem.F.plainAttrs_list PySem.F.slot_list_index PySem.F.type_list_index (hx s _ E c o lv fun v h₁ tk₁ k₁ o₁ r₁ => ?_)
  obtain ⟨a, vs, rfl, hl, hi⟩ := hp.rep r₁
  have hl' := hl
  obtain ⟨n, ho⟩ := hl'
  refine ⟨hl.isList.typeIs, fun b q => by cases q; exact ⟨_, ho, rfl⟩, ?_⟩
  rw [hst]
  refine P.index_list (he _ _ E (c.kp o k₁) o₁ (lv.kp k₁) fun w h₂ tk₂ k₂ o₂ r₂ => ?_)
  obtain ⟨t, rfl⟩ := r₂
  have ho₂ := k₂.ex (o₁.notT ho (by nofun)) ho (by nofun)
  obtain ⟨tj, hvj⟩ := hi.get j y hj
  refine ⟨vs.toArray, n, isInt y, j, by simpa [hi.length] using hjl, ho₂, fun z hz => eq_isInt y t hi z (by simpa using hz), by omega, ?_, fun m hm hlt => ?_, k _ h₂ _ (k₁.trans k₂) o₂ ⟨_, rfl⟩⟩
  · have e : vs.toArray[j]'(by simpa [hi.length] using hjl) = .int y tj := by
      have : vs[j]? = some (vs[j]'(by rw [hi.length]; exact hjl)) := List.getElem?_eq_getElem _
      rw [hvj] at this; simpa using (Option.some.inj this).symm
    rw [e]; simp [isInt]
  · have hm' : m < vs.length := by simpa using hm
    obtain ⟨z, tz, e1, e2⟩ := hi.at m vs[m] (List.getElem?_eq_getElem hm')
    have e3 : vs.toArray[m] = .int z tz := by simpa using e1
    rw [e3]
    have : z ≠ y := fun q => hno m hlt (by rw [e2, q])
    simp [isInt, this]

section stmts
variable {s : Shared} {Q : Flow → Shared → Prop} {E : Value → Shared → Prop} {rest : List Stmt}

theorem do_unpack2 {x y : Str} {px py tp pos : Pos} {n : Nat} {e : Expr} {a b : Int} {d : Nat} (rm : Room A d) (S : St C A env X g0 ρ s.heap) (he : Ev C A env X ρ e (.it [a, b])) (hx : Puts env x) (hy : Puts env y)
    (k : ∀ h' tk, St C A env X g0 ((y, .int b) :: (x, .int a) :: ρ) h' → wpAny C.M A (execs rest env) Q E { s with heap := h', toks := tk })
    (hs : swapsWithSole [.Tuple [.Name x px, .Name y py] n tp] e pos.line env = pure false := by rfl) (hw : swappedStores [.Tuple [.Name x px, .Name y py] n tp] e env = pure none := by rfl) :
    wpAny C.M A (execs (.Assign [.Tuple [.Name x px, .Name y py] n tp] e pos :: rest) env) Q E s := by
  refine wpAny_execs_cons (Assign_Tuple (he s _ E S.cx S.ok S.live fun v h₁ tk₁ k₁ o₁ r₁ => ?_) hs hw)
  obtain ⟨t, vs, rfl, hl, hi⟩ := r₁
  obtain ⟨ta, vs', rfl, hi1⟩ := hi.cons_inv
  obtain ⟨tb, vs'', rfl, hi2⟩ := hi1.cons_inv
  have := hi2.nil_inv
  subst this
  refine assign_Tuple_tuple rm.hd hl.isTup rfl rfl fun h₂ hx₂ => ?_
  have f₂ : Full h₁ h₂ := fun b o e => hx₂ b o (fun q => by rw [q] at e; exact absurd (Heap.lt_size e) (Nat.lt_irrefl _)) e
  have S₂ := (S.step k₁ o₁).step f₂.kp (o₁.full f₂)
  show wpAny _ _ (do holding [Value.int b tb] (assign (.Name x px) env (.int a ta)); assignInOrder [assign (.Name y py) env] [.int b tb]) _ _ _
  refine wpAny_bind (wpAny_holding (wpAny_assign_Name (St.store (s := { s with heap := h₂, toks := tk₁ }) S₂ hx (pv := .int a) ⟨ta, rfl⟩ rfl fun h₃ tk₃ S₃ => ?_)))
  show wpAny _ _ (do holding [] (assign (.Name y py) env (.int b tb)); assignInOrder [] []) _ _ _
  refine wpAny_bind (wpAny_holding (wpAny_assign_Name (St.store (s := { s with heap := h₃, toks := tk₃ }) S₃ hy (pv := .int b) ⟨tb, rfl⟩ rfl fun h₄ tk₄ S₄ => ?_)))
  exact wpAny_pure (k h₄ tk₄ S₄)

theorem do_augAdd {x : Str} {px pos : Pos} {e : Expr} {a b : Int} (S : St C A env X g0 ρ s.heap) (hx : ρ.lookup x = some (.int a)) (he : Ev C A env X ρ e (.int b)) (hp : Puts env x)
    (k : ∀ h' tk, St C A env X g0 ((x, .int (a + b)) :: ρ) h' → wpAny C.M A (execs rest env) Q E { s with heap := h', toks := tk })
    (hn : (x == ("__classdict__" : Str)) = false := by decide) : wpAny C.M A (execs (.AugAssign (.Name x px) .Add e pos :: rest) env) Q E s := by
  obtain ⟨v, hv, t, rfl⟩ := S.cx.var x _ hx
  have key : wpAny C.M A (eval e env) (fun w s₂ => wpAny C.M A (inplaceOp .Add (.int a t) w) (fun r s₃ => wpAny C.M A (storeName env x r) (fun _ s' => wpAny C.M A (execs rest env) Q E s') E s₃) E s₂) E s :=
    he s _ E S.cx S.ok S.live fun w h₁ tk₁ k₁ o₁ r₁ => by
      obtain ⟨u, rfl⟩ := r₁
      exact P.iadd_int (St.store (s := { s with heap := h₁, toks := tk₁ + 1 }) (S.step k₁ o₁) hp (pv := .int (a + b)) ⟨_, rfl⟩ rfl fun h₂ tk₂ S₂ => k h₂ tk₂ S₂)
  refine wpAny_execs_cons (wpAny_AugAssign_Name ?_)
  rcases hv with ⟨a1, m, n, b1⟩ | ⟨a1 | a1, cc, n, b1⟩
  · exact wpAny_loadName_local S.cx.fn a1 n b1 key
  · exact wpAny_loadName_cell S.cx.fn a1 n b1 key
  · exact wpAny_loadName_free S.cx.fn a1 n b1 key hn

/-- x[i] = e for a list of one's own -/
theorem setItemP {a : Addr} {its : Array Value} {i : Int} {t : Tok} {v : Value} {Q : Unit → Shared → Prop} (hl : s.heap.PlainList a its) (h0 : 0 ≤ i) (h1 : i < its.size) (hz : its.size ≤ sizeLine)
    (k : ∀ h', h'.PlainList a (its.setIfInBounds i.toNat v) → (∀ b o, b ≠ a → s.heap.get? b = some o → h'.get? b = some o) → Q () { s with heap := h' }) :
    wpAny C.M A (setItem (.ref a) (.int i t) v) Q E s := by
  have hz' : its.size ≤ 16777216 := hz
  have hl' := hl
  obtain ⟨n, ho⟩ := hl'
  have hT : s.TypeIs (.ref a) "list" := hl.isList.typeIs
  unfold setItem
  try with_reducible refine wpAny_holding ?_
  first | refine wpAny_bind (wpAny_pure ?_) | skip
  refine wpAny_bind (wpAny_sequenceKey hT (by decide) ?_)
  refine wpAny_bind (wpAny_callSpecial?_slot (name := Str.ofString "__setitem__") hT slot_list_setitem
    (wpAny_call_entry slot_list_setitem hT entry_list_setitem ?_ (args_list_setitem _ _ _)))
  show wpAny _ _ (Builtin.List.listSubscript? (.int i t) >>= _) _ _ s
  refine wpAny_bind (wpAny_listSubscript_int (fitsIndex_of h0 (by omega)) ?_)
  obtain ⟨j, rfl⟩ := Int.eq_ofNat_of_zero_le h0
  have hj : j < its.size := by omega
  have hx' : its[j]? = some its[j] := Array.getElem?_eq_getElem hj
  show wpAny _ _ ((seqItemAt a j >>= fun r => pure (r.map (j, ·))) >>= _) _ _ s
  refine wpAny_bind (wpAny_bind (wpAny_seqItemAt ho rfl (wpAny_pure ?_)))
  rw [hx']
  show wpAny _ _ (setSeqItemAt a j v >>= _) _ _ s
  refine wpAny_bind (wpAny_setSeqItemAt ho rfl ?_)
  have fin := k _ (plain_update (f := fun xs => xs.setIfInBounds j v) hl) update_but
  first
    | exact wpAny_bind (wpAny_pure (wpAny_pure ⟨.none, rfl, wpAny_pure fin⟩))
    | exact wpAny_pure ⟨.none, rfl, wpAny_pure fin⟩
theorem setItemN {a : Addr} {its : Array Value} {i : Int} {t : Tok} {v : Value} {Q : Unit → Shared → Prop} (hl : s.heap.PlainList a its) (h0 : i < 0) (h1 : -(its.size : Int) ≤ i) (hz : its.size ≤ sizeLine)
    (k : ∀ h', h'.PlainList a (its.setIfInBounds (i + its.size).toNat v) → (∀ b o, b ≠ a → s.heap.get? b = some o → h'.get? b = some o) → Q () { s with heap := h' }) :
    wpAny C.M A (setItem (.ref a) (.int i t) v) Q E s := by
  have hz' : its.size ≤ 16777216 := hz
  have hl' := hl
  obtain ⟨n, ho⟩ := hl'
  have hT : s.TypeIs (.ref a) "list" := hl.isList.typeIs
  unfold setItem
  try with_reducible refine wpAny_holding ?_
  first | refine wpAny_bind (wpAny_pure ?_) | skip
  refine wpAny_bind (wpAny_sequenceKey hT (by decide) ?_)
  refine wpAny_bind (wpAny_callSpecial?_slot (name := Str.ofString "__setitem__") hT slot_list_setitem
    (wpAny_call_entry slot_list_setitem hT entry_list_setitem ?_ (args_list_setitem _ _ _)))
  show wpAny _ _ (Builtin.List.listSubscript? (.int i t) >>= _) _ _ s
  refine wpAny_bind (wpAny_listSubscript_int (fitsIndex_neg h0 (by omega)) ?_)
  have hidx := seqIndex_neg h0 h1
  have hj : (i + its.size).toNat < its.size := by omega
  have hx' : its[(i + its.size).toNat]? = some its[(i + its.size).toNat] := Array.getElem?_eq_getElem hj
  obtain ⟨j, rfl⟩ : ∃ j : Nat, i = Int.negSucc j := by
    cases i with
    | ofNat n => exact absurd h0 (Int.not_lt.mpr (Int.natCast_nonneg n))
    | negSucc n => exact ⟨n, rfl⟩
  show wpAny _ _ ((Builtin.List.listItems (.ref a) >>= fun xs => pure ((seqIndex? (Int.negSucc j) xs.size).bind fun i => xs[i]?.map (i, ·))) >>= _) _ _ s
  refine wpAny_bind (wpAny_bind ?_)
  show wpAny _ _ (seqItems? (.ref a) >>= _) _ _ s
  refine wpAny_bind (wpAny_seqItems ho rfl (wpAny_pure (wpAny_pure ?_)))
  rw [hidx]
  simp only [Option.bind_some, hx', Option.map_some]
  show wpAny _ _ (setSeqItemAt a _ v >>= _) _ _ s
  refine wpAny_bind (wpAny_setSeqItemAt ho rfl ?_)
  have fin := k _ (plain_update (f := fun xs => xs.setIfInBounds (Int.negSucc j + its.size).toNat v) hl) update_but
  first
    | exact wpAny_bind (wpAny_pure (wpAny_pure ⟨.none, rfl, wpAny_pure fin⟩))
    | exact wpAny_pure ⟨.none, rfl, wpAny_pure fin⟩

theorem ints_set : ∀ {vs : List Value} {xs : List Int} (j : Nat) (y : Int) (t : Tok), IntsAre vs xs → IntsAre (vs.set j (.int y t)) (xs.set j y)
  | _, _, _, _, _, .nil => .nil
  | _, _, 0, y, t, .cons n u r => .cons y t r
  | _, _, j + 1, y, t, .cons n u r => .cons n u (ints_set j y t r)

theorem do_setitem {x : Str} {xp sp pos : Pos} {i e : Expr} {a : Addr} {xs : List Int} {j y : Int} (S : St C A env X g0 ρ s.heap) (hx : ρ.lookup x = some (.own a xs)) (hi : Ev C A env X ρ i (.int j)) (he : Ev C A env X ρ e (.int y)) (h0 : -(xs.length : Int) ≤ j) (h1 : j < xs.length) (hz : xs.length ≤ sizeLine)
    (k : ∀ h' tk, St C A env X g0 ((x, .own a (xs.set (if j < 0 then (j + xs.length).toNat else j.toNat) y)) :: ρ) h' → wpAny C.M A (execs rest env) Q E { s with heap := h', toks := tk })
    (hd : (x == ("__debug__" : Str)) = false := by decide) (hn : (x == ("__classdict__" : Str)) = false := by decide)
    (hs : swapsWith e (some (.Subscript (.Name x xp) i sp)) pos.line env = pure false := by rfl) : wpAny C.M A (execs (.Assign [.Subscript (.Name x xp) i sp] e pos :: rest) env) Q E s := by
  refine wpAny_execs_cons (wpAny_Assign_Subscript (he s _ E S.cx S.ok S.live fun w h₁ tk₁ k₁ o₁ r₁ => Ev.name hx hd hn _ _ E (S.cx.kp S.ok k₁) o₁ (S.live.kp k₁) fun ov h₂ tk₂ k₂ o₂ r₂ =>
    hi _ _ E ((S.cx.kp S.ok k₁).kp o₁ k₂) o₂ ((S.live.kp k₁).kp k₂) fun iv h₃ tk₃ k₃ o₃ r₃ => ?_) hs)
  obtain ⟨t, rfl⟩ := r₁
  obtain ⟨u, rfl⟩ := r₃
  have S₃ := ((S.step k₁ o₁).step k₂ o₂).step k₃ o₃
  obtain ⟨vs, rfl, hX, hl, hi'⟩ := r₂.kp o₂ k₃
  by_cases q : j < 0
  · rw [if_pos q] at k
    refine setItemN (s := { s with heap := h₃, toks := tk₃ }) hl q (by simpa [hi'.length] using h0) (by simpa [hi'.length] using hz) fun h₄ hl₄ hk₄ => k h₄ tk₃ (S₃.mut hx hk₄ (vs := vs.set (j + xs.length).toNat (.int y t)) ?_ (ints_set _ _ _ hi'))
    simpa [hi'.length] using hl₄
  · rw [if_neg q] at k
    refine setItemP (s := { s with heap := h₃, toks := tk₃ }) hl (by omega) (by simpa [hi'.length] using h1) (by simpa [hi'.length] using hz) fun h₄ hl₄ hk₄ => k h₄ tk₃ (S₃.mut hx hk₄ (vs := vs.set j.toNat (.int y t)) ?_ (ints_set _ _ _ hi'))
    simpa using hl₄
end stmts
end
end Mine
namespace Mine
open PySem PySem.Calls PySem.W PyProof.Rows
variable {C : Cfg}

/-! a def in a def -/
structure Nest where
  c : Addr
  P : Addr
  line : Nat
  col : Nat
  qual : Str

def NestTab (ns : List Nest) (h : Heap) : Prop := ∀ q ∈ ns, ∃ ps, h.get? q.P = some (tabObj ps) ∧
  (ps = #[] ∨ ∃ c' d vs sl t, ps = #[rawInt q.line, rawInt q.col, .ref c'] ∧ h.get? c' = some ⟨.type "code", d, .fields vs, sl⟩ ∧ vs[1]? = some (.str q.qual t))
theorem NestTab.at {ns : List Nest} {h : Heap} (t : NestTab ns h) : ∀ a ∈ ns.map (·.P), ∃ o vs, h.get? a = some o ∧ o.cls = .none ∧ o.data = .fields vs := fun a ha => by
  obtain ⟨q, hq, rfl⟩ := List.mem_map.mp ha
  obtain ⟨ps, e, _⟩ := t q hq
  exact ⟨_, ps, e, rfl, rfl⟩
theorem NestTab.keep {ns : List Nest} {h h' : Heap} (t : NestTab ns h) (hk : ∀ b o vs, h.get? b = some o → o.data = .fields vs → (o.cls = .none ∨ o.cls = .type "code") → h'.get? b = some o) : NestTab ns h' := fun q hq => by
  obtain ⟨ps, e, r⟩ := t q hq
  refine ⟨ps, hk _ _ _ e rfl (.inl rfl), r.imp id ?_⟩
  rintro ⟨c', d, vs, sl, t, e1, e2, e3⟩
  exact ⟨c', d, vs, sl, t, e1, hk _ _ _ e2 rfl (.inr rfl), e3⟩

/-- what the ground has for the defs in defs -/
structure NestOk (C : Cfg) (ns : List Nest) : Prop where
  tab : C.Tab = NestTab ns
  T : C.T = ns.map (·.P)
  nd : (ns.map (·.P)).Nodup
  hd : ∀ q ∈ ns, CodeHd C.g q.c q.P
  bm : ∃ bm ob, C.mg "__builtins__" = some (.ref bm) ∧ bm ≠ builtinsNs ∧ C.g.get? bm = some ob ∧ ob.cls = .type "module" ∧ ob.dict = some builtinsNs ∧ ob.data = .plain

section
variable {A : Around} {env : Env} {X : List Addr} {ρ : List (Str × PV)} {g0 : Heap}

theorem nest_inj : ∀ {ns : List Nest} {q r : Nest}, (ns.map (·.P)).Nodup → q ∈ ns → r ∈ ns → q.P = r.P → q = r
  | n :: ns, q, r, hn, hq, hr, e => by
    simp only [List.map_cons, List.nodup_cons, List.mem_map, not_exists, not_and] at hn
    rcases List.mem_cons.mp hq with h1 | h1 <;> rcases List.mem_cons.mp hr with h2 | h2
    · rw [h1, h2]
    · exact absurd (h1 ▸ e.symm) (hn.1 r h2)
    · exact absurd (h2 ▸ e) (hn.1 q h1)
    · exact nest_inj hn.2 h1 h2 e

theorem mkFn {ns : List Nest} {q : Nest} {s : Shared} {Q : Value → Shared → Prop} {E : Value → Shared → Prop} {name qual : Str} {params : Arguments} {body : List Stmt} {scope : Scope} {cl : List (Str × Addr)} {pos : Pos} {n : Nat}
    (N : NestOk C ns) (hq : q ∈ ns) (o : Ok C s.heap) (hcl : closureFor scope env = pure cl) (hne : cl ≠ []) (hg : env.globals = mainGlobals) (hcode : env.code = .ref q.c) (hl : pos.line = q.line) (hc : pos.col = q.col) (hqual : qual = q.qual) (hdoc : docOf body = none)
    (k : ∀ f doc pm ctv c' h' tk, Kp C s.heap h' → Ok C h' → FnObj h' f (fnX name qual params body scope cl .none .none doc pm none (.ref c') ctv) → Q (.ref f) { s with heap := h', toks := tk }) :
    wpAny C.M A (makeFunction name qual params (.stmts body) scope env [] [] [] pos n) Q E s := by
  have ht := o.tab
  rw [N.tab] at ht
  obtain ⟨ps, hP, hps⟩ := ht q hq
  have hT : q.P ∈ C.T := by rw [N.T]; exact List.mem_map_of_mem (f := (·.P)) hq
  have hgs : s.heap.Ns mainGlobals C.mg := C.gNs.keeps o.up
  have CH : CodeHd s.heap q.c q.P := (N.hd q hq).keeps o.up
  obtain ⟨bm, ob, b1, b2, b3, b4, b5, b6⟩ := N.bm
  have hgP : mainGlobals ≠ q.P := fun e => by
    obtain ⟨o', es, ep, e', hd', _⟩ := hgs
    rw [e, hP] at e'; cases e'; cases hd'
  have hbP : bm ≠ q.P := fun e => by
    have e' := o.up _ _ b3
    rw [e, hP] at e'; cases e'; cases b4
  have hbG : bm ≠ mainGlobals := fun e => by
    obtain ⟨o', es, ep, e', hd', _⟩ := C.gNs
    rw [e, e'] at b3; cases b3; rw [hd'] at b6; cases b6
  rcases hps with rfl | ⟨c', d, vs, sl, t, rfl, hc', hv⟩
  · rw [makeFunction_eq]
    simp only [List.zip_nil_right, List.filterMap_nil, List.isEmpty_nil, if_true, pure_bind]
    unfold makeTail
    rw [hcl, hg]
    refine wpAny_bind (wpAny_pure ?_)
    have hcl' : cl.isEmpty = false := by cases cl with | nil => exact absurd rfl hne | cons => rfl
    rw [hcl']
    simp only [Bool.false_eq_true, if_false]
    refine wpAny_bind (wpAny_newTextTuple ?_)
    generalize hH : s.heap.push _ = H
    have fH : Full s.heap H := hH ▸ Full.push _ _
    have zH : s.heap.objs.size ≤ H.objs.size := by rw [← hH, Heap.size_push]; omega
    refine wpAny_bind (wpAny_functionCodeX (P := q.P) (ps := #[]) hcode ((CH.keeps fH).code (fH _ _ hP) trivial) ((CH.keeps fH).tab (fH _ _ hP)) rfl fun c' h' tk hx hge hlt _ hrec htb hpl => ?_)
    dsimp only at hx hge hlt hrec htb hpl
    obtain ⟨P', hP', _, ⟨oc, vs, hoc, hcc, hcd, _⟩, _⟩ := hpl
    obtain ⟨c2, oc2, vs2, t2, e2, g2, d2, v2⟩ := hrec
    cases e2
    rw [hoc] at g2; cases g2
    rw [hcd] at d2; cases d2
    have hg' : h'.Ns mainGlobals C.mg := (hgs.keeps fH).extBut hx hgP
    refine wpAny_bind (wpAny_builtinsFor hg' b1 b2 (hx _ _ hbP (fH _ _ (o.up _ _ b3))) b4 b5 b6 ?_)
    refine wpAny_bind (wpAny_nsGet hg' ?_)
    rw [hdoc]
    refine wpAny_bind (wpAny_pure (wpAny_newObj_type ?_ (by size_fits)))
    have hcT : c' ∉ C.T := fun h => by
      obtain ⟨o', _, e', _⟩ := C.tabAt _ o.tab _ h
      exact absurd (Heap.lt_size e') (Nat.not_lt.mpr (Nat.le_trans zH hge))
    have kp : Kp C s.heap h' := fun b o' n' e => ⟨o', hx b o' (fun e' => n' (e' ▸ hT)) (fH _ _ e), .refl o'⟩
    obtain ⟨occ, ocd, ocda, ocs⟩ := oc
    cases hcc
    cases hcd
    refine k h'.objs.size _ _ _ c' _ _ (kp.trans (Full.push _ _).kp) ⟨fun b o' e => Heap.get?_push_of_some _ (hx b o' (fun e' => ?_) (fH _ _ (o.up _ _ e))), ?_⟩ ⟨⟨_, _, Heap.get?_push_size _ rfl⟩, c', _, vs, _, t2, rfl, Heap.get?_push_of_some _ hoc, v2⟩
    · rw [e', C.tNone _ hT] at e; cases e
    · rw [N.tab]
      intro r hr
      by_cases e : r.P = q.P
      · have := nest_inj N.nd hr hq e
        subst this
        refine ⟨_, Heap.get?_push_of_some _ htb.2, .inr ⟨c', _, vs, _, t2, ?_, Heap.get?_push_of_some _ hoc, hqual ▸ v2⟩⟩
        rw [hl, hc]; rfl
      · obtain ⟨ps, e1, e2⟩ := ht r hr
        refine ⟨ps, Heap.get?_push_of_some _ (hx _ _ e (fH _ _ e1)), e2.imp id ?_⟩
        rintro ⟨c3, d3, vs3, sl3, t3, e3, g3, v3⟩
        exact ⟨c3, d3, vs3, sl3, t3, e3, Heap.get?_push_of_some _ (hx _ _ (fun e' => by rw [e', hP] at g3; cases g3) (fH _ _ g3)), v3⟩
  · refine makeFunction_hit (mg := C.mg) (cv := .ref c') hcl hg hgs hcode CH hP (by simp [TriplesOk, rawInt]) (by simp [codeAmong, rawInt, hl, hc]) ⟨bm, ob, b1, b2, hbG, hbP, o.up _ _ b3, b4, b5, b6⟩ fun ctv doc h' tk hk hsz => ?_
    refine k h'.objs.size doc _ ctv c' _ tk (Full.kp fun b o e => Heap.get?_push_of_some _ (hk b o e)) (o.full fun b o e => Heap.get?_push_of_some _ (hk b o e)) ⟨⟨_, _, Heap.get?_push_size _ rfl⟩, c', d, vs, sl, t, rfl, Heap.get?_push_of_some _ (hk _ _ hc'), ?_⟩
    rw [hv, hqual]

section stmts
variable {s : Shared} {Q : Flow → Shared → Prop} {E : Value → Shared → Prop} {rest : List Stmt}

theorem do_def {ns : List Nest} {q : Nest} {name : Str} {params : Arguments} {body : List Stmt} {scope : Scope} {pos : Pos} (cl : List (Str × Addr)) (N : NestOk C ns) (hq : q ∈ ns) (S : St C A env X g0 ρ s.heap) (hx : Puts env name)
    (k : ∀ f fd h' tk, (∃ doc pm ctv c', fd = fnX name q.qual params body scope cl .none .none doc pm none (.ref c') ctv) → St C A env X g0 ((name, .fn f fd) :: ρ) h' → wpAny C.M A (execs rest env) Q E { s with heap := h', toks := tk })
    (hcl : closureFor scope env = pure cl) (hne : cl ≠ []) (hcode : env.code = .ref q.c) (hl : pos.line = q.line) (hc : pos.col = q.col) (hqual : qualnameIn env name name = q.qual) (hdoc : docOf body = none := by rfl)
    (hd0 : params.defaults = [] := by rfl) (hk0 : params.kw_defaults = [] := by rfl) (ha : annTrees params none env = [] := by rfl) : wpAny C.M A (execs (.FunctionDef name params body [] none [] scope none name pos :: rest) env) Q E s := by
  refine wpAny_execs_cons (nestDef_K hd0 hk0 ha (mkFn N hq S.ok hcl hne S.cx.glob hcode hl hc hqual hdoc fun f doc pm ctv c' h' tk kp ok fo => ?_))
  rw [hqual] at fo
  exact St.store (s := { s with heap := h', toks := tk }) (S.step kp ok) hx (pv := .fn f _) ⟨rfl, fo⟩ rfl fun h₂ tk₂ S₂ => k f _ h₂ tk₂ ⟨doc, pm, ctv, c', rfl⟩ S₂
end stmts
end
end Mine
namespace Mine
open PySem PySem.Calls PySem.W PyProof.Rows
variable {C : Cfg}

section
variable {A : Around} {env : Env} {X : List Addr} {ρ : List (Str × PV)} {g0 : Heap}

/-- all but one address stays -/
def KpB (C : Cfg) (a : Addr) (h h' : Heap) : Prop := ∀ b o, b ∉ C.T → b ≠ a → h.get? b = some o → ∃ o', h'.get? b = some o' ∧ Sim o o'
theorem KpB.ex {a : Addr} {h h' : Heap} (k : KpB C a h h') {b : Addr} {o : Obj} (n : b ∉ C.T) (q : b ≠ a) (e : h.get? b = some o) (hd : ∀ es ep, o.data ≠ .dict es ep) : h'.get? b = some o := by
  obtain ⟨o', e', s⟩ := k b o n q e
  rw [e', s.eq hd]

/-- what a function's cells hold -/
def Clo (X : List Addr) (h : Heap) (cl : List (Str × Addr)) (ρc : List (Str × PV)) : Prop := ∀ x pv, ρc.lookup x = some pv → ∃ c v, cl.lookup x = some c ∧ h.IsCell c (some v) ∧ Rep X h v pv
theorem Clo.nil {h : Heap} {cl : List (Str × Addr)} : Clo X h cl [] := fun _ _ e => by cases e
theorem Clo.cons {h : Heap} {cl : List (Str × Addr)} {r : List (Str × PV)} {x : Str} {pv : PV} (h1 : ∃ c v, cl.lookup x = some c ∧ h.IsCell c (some v) ∧ Rep X h v pv) (t : Clo X h cl r) : Clo X h cl ((x, pv) :: r) := fun y pw e => by
  rw [List.lookup_cons] at e
  cases hb : y == x with
  | true => rw [hb] at e; cases e; rw [eq_of_beq hb]; exact h1
  | false => rw [hb] at e; exact t y pw e
/-- a name of the frame that stands in a cell -/
theorem Cx.clo {h : Heap} {cl : List (Str × Addr)} (c : Cx env X ρ h) {x : Str} {pv : PV} (hx : ρ.lookup x = some pv) (hk : env.kindOf x = some .cell ∨ env.kindOf x = some .free) (hl : cl.lookup x = env.cells.lookup x) : ∃ c v, cl.lookup x = some c ∧ h.IsCell c (some v) ∧ Rep X h v pv := by
  obtain ⟨v, hv, r⟩ := c.var x pv hx
  rcases hv with ⟨a, _⟩ | ⟨_, cc, n, b⟩
  · rcases hk with q | q <;> rw [q] at a <;> cases a
  · exact ⟨cc, v, by rw [hl, n], b, r⟩

theorem Ev.callClo {f : Str} {a : Addr} {fd : FuncData} {es : List Expr} {ps : List PV} {r : PV} {np pos : Pos} (hx : ρ.lookup f = some (.fn a fd)) (h : Evs C A env X ρ es ps)
    (hc : ∀ (s : Shared) (Q : Value → Shared → Prop) (E : Value → Shared → Prop) (vs : List Value), Cx env X ρ s.heap → Ok C s.heap → Live C A X s.heap → Reps X s.heap vs ps →
      (∀ v h' tk, Kp C s.heap h' → Ok C h' → Rep X h' v r → Q v { s with heap := h', toks := tk }) → wpAny C.M A (call (.ref a) vs) Q E s)
    (hne : es ≠ [] := by exact List.cons_ne_nil _ _) (hd : (f == ("__debug__" : Str)) = false := by decide) (hn : (f == ("__classdict__" : Str)) = false := by decide) : Ev C A env X ρ (.Call (.Name f np) es [] pos) r := fun s Q E c o lv k => by
  refine wpAny_Call_NameR (Ev.name hx hd hn s _ E c o lv fun v h₁ tk₁ k₁ o₁ r₁ => ?_)
  obtain ⟨rfl, fo⟩ := r₁
  obtain ⟨d, sl, e⟩ := fo.1
  refine callWith_function (o := ⟨.type "function", d, .func fd, sl⟩) (fd := fd) (args_run h hne _ _ E (c.kp o k₁) o₁ (lv.kp k₁) fun vs h₂ tk₂ k₂ o₂ r₂ => ⟨⟨k₂.ex (o₁.notT e (by nofun)) e (by nofun), rfl⟩, ?_⟩)
  exact hc _ Q E vs ((c.kp o k₁).kp o₁ k₂) o₂ ((lv.kp k₁).kp k₂) r₂ fun v h₃ tk₃ k₃ o₃ r₃ => k v h₃ tk₃ ((k₁.trans k₂).trans k₃) o₃ r₃

theorem lookup_append {α : Type} {x : Str} : ∀ {a b : List (Str × α)}, (a ++ b).lookup x = match a.lookup x with | some v => some v | none => b.lookup x
  | [], b => rfl
  | (y, v) :: r, b => by
    rw [List.cons_append, List.lookup_cons, List.lookup_cons]
    cases hb : x == y with
    | true => rfl
    | false => exact lookup_append

theorem lk_nodup {α : Type} : ∀ {l : List (Str × α)} {n : Str} {c : α}, (l.map (·.1)).Nodup → (n, c) ∈ l → l.lookup n = some c
  | (k, v) :: r, n, c, hn, h => by
    simp only [List.map_cons, List.nodup_cons] at hn
    rw [List.lookup_cons]
    rcases List.mem_cons.mp h with e | h
    · cases e; simp
    · have : (n == k) = false := beq_eq_false_iff_ne.mpr fun q => hn.1 (q ▸ List.mem_map_of_mem (f := (·.1)) h)
      rw [this]
      exact lk_nodup hn.2 h

/-- the call of a function that was made in a frame -/
theorem clo_call {d : Nat} {a : Addr} {name qual : Str} {params : Arguments} {body : List Stmt} {scope : Scope} {cl : List (Str × Addr)} {doc pm cdv ctv : Value} {ps : List PV} {ρc : List (Str × PV)} {s : Shared} {Q : Value → Shared → Prop} {E : Value → Shared → Prop} {vs : List Value}
    (rm : Room A (d + 1)) (ns : List Str) (g0 : Heap) (Post : Value → Heap → Prop)
    (o : Ok C s.heap) (lv : Live C A X s.heap) (fo : FnObj s.heap a (fnX name qual params body scope cl .none .none doc pm none cdv ctv)) (rs : Reps X s.heap vs ps) (clo : Clo X s.heap cl ρc)
    (ok0 : Ok C g0) (kp0 : Kp C g0 s.heap) (stk0 : Stk C A g0) (own : OwnOk g0 (ns.zip ps ++ ρc)) (hap : cl.Pairwise fun x y => x.2 ≠ y.2) (hnames : (cl.all fun y => (ρc.lookup y.1).isSome) = true)
    (hbind : ∀ vs : List Value, vs.length = ns.length → bindArgs (fnX name qual params body scope cl .none .none doc pm none cdv ctv) ⟨vs, []⟩ = pure (ns.zip vs))
    (hkind : (ns.all fun y => scope.names.lookup y == some .local) = true) (hnd : ns.Nodup) (hlen : ns.length = ps.length) (hfree : (ρc.all fun y => scope.names.lookup y.1 == some .free) = true)
    (hcell : (scope.names.all fun y => y.2 != .cell) = true) (hco : scope.isCoroutine = false) (hgen : scope.isGenerator = false) (hk : scope.kind = .function)
    (k : ∀ v h' tk, Post v h' → Q v { s with heap := h', toks := tk })
    (h : ∀ (L : Addr) (s' : Shared) (Q' : Flow → Shared → Prop) (E' : Value → Shared → Prop), Room (A.deeper (envX qual scope L a cdv cl)) d → St C (A.deeper (envX qual scope L a cdv cl)) (envX qual scope L a cdv cl) X g0 (ns.zip ps ++ ρc) s'.heap →
      (∀ v h' tk, Post v h' → Q' (.ret v) { s' with heap := h', toks := tk }) → (∀ h' tk, Post .none h' → Q' .next { s' with heap := h', toks := tk }) →
      wpAny C.M (A.deeper (envX qual scope L a cdv cl)) (execs body (envX qual scope L a cdv cl)) Q' E' s') : wpAny C.M A (call (.ref a) vs) Q E s := by
  obtain ⟨⟨od, osl, ho⟩, _⟩ := id fo
  have hcc : ∀ n c, cl.lookup n = some c → ∃ v, s.heap.IsCell c v := fun n c e => by
    obtain ⟨pv, hp⟩ := Option.isSome_iff_exists.mp (List.all_eq_true.mp hnames _ (mem_of_lookup e))
    obtain ⟨c', v, e1, e2, _⟩ := clo n pv hp
    rw [e] at e1; cases e1
    exact ⟨_, e2⟩
  have hcell' : ∀ x ∈ scope.names, x.2 ≠ .cell := fun y hy => by simpa using List.all_eq_true.mp hcell y hy
  have hzip : ((ns.zip vs).map (·.1)) = ns := by rw [List.map_fst_zip]; rw [rs.len, hlen]; exact Nat.le_refl _
  refine wpAny_call (codeAny_call_def (fd := fnX name qual params body scope cl .none .none doc pm none cdv ctv) (body := body) (binds := ns.zip vs) rm.depth ho rfl (C.lim.keeps o.up) fo.rec rfl (.of_eq (hbind vs (by rw [rs.len, hlen]))) hcell' ?_ (fun h₁ hns hk₁ => ?_) hco hgen hk)
  · intro x hx
    simpa using List.all_eq_true.mp hkind x.1 (List.of_mem_zip hx).1
  · have f₁ : Full s.heap h₁ := hk₁
    refine wpAny_mono (h s.heap.objs.size _ (fun f s' => Q (match f with | .ret v => v | _ => .none) s') (fun _ _ => False) (rm.deeper _) ?_ (fun v h' tk p => k v h' tk p) fun h' tk p => k _ h' tk p) (fun f s' q => q) fun _ _ q => q.elim
    refine ⟨⟨hk, rfl, rfl, fun x pv e => ?_⟩, o.full f₁, lv.lo.kp f₁.kp, ok0, kp0.trans f₁.kp, ⟨_, hns⟩, fun n c e => let ⟨v, x⟩ := hcc n c e; ⟨v, o.cell f₁.kp x⟩, hap, kp_none kp0 o (fresh_size _), fun n c hm q => ?_, own, let ⟨l, hA, r⟩ := stk0; ⟨l, Around.frames_deeper hA, rfl, r⟩⟩
    · rw [lookup_append] at e
      cases hl : (ns.zip ps).lookup x with
      | some pw =>
        rw [hl] at e
        cases e
        obtain ⟨v, hm, rv⟩ := reps_zip rs ns x pv hlen hl
        have hx : x ∈ ns := (List.of_mem_zip hm).1
        have q' : scope.names.lookup x = some .local := by simpa using List.all_eq_true.mp hkind x hx
        refine ⟨v, .inl ⟨q', _, hns, ?_⟩, rv.kp o f₁.kp⟩
        have hnr : ((ns.zip vs).reverse.map (·.1)).Nodup := by rw [List.map_reverse, hzip]; exact List.pairwise_reverse.mpr (hnd.imp fun q => Ne.symm q)
        exact lk_nodup hnr (List.mem_reverse.mpr hm)
      | none =>
        rw [hl] at e
        obtain ⟨c, v, e1, e2, e3⟩ := clo x pv e
        have q' : scope.names.lookup x = some .free := by simpa using List.all_eq_true.mp hfree _ (mem_of_lookup e)
        exact ⟨v, .inr ⟨.inr q', c, e1, o.cell f₁.kp e2⟩, e3.kp o f₁.kp⟩
    · have q' : scope.names.lookup n = some .cell := q
      exact absurd rfl (hcell' _ (mem_of_lookup q'))

/-- an owned list has changed, in a call -/
theorem St.mutK {h h' : Heap} {x : Str} {a : Addr} {xs ys : List Int} {vs : List Value} (S : St C A env X g0 ρ h) (hx : ρ.lookup x = some (.own a xs)) (hk : KpB C a h h') (ok' : Ok C h') (hl : h'.PlainList a vs.toArray) (hi : IntsAre vs ys) :
    St C A env X g0 ((x, .own a ys) :: ρ) h' := by
  obtain ⟨v, hv, ws, rfl, hX, hpl, hi'⟩ := S.cx.var x _ hx
  have hpl' := hpl
  obtain ⟨n, ho⟩ := hpl'
  have hg := S.own.new x a xs hx
  have neL : env.locals ≠ a := fun q => by obtain ⟨m, o', es, ep, e', d', _⟩ := S.ns; rw [q, ho] at e'; cases e'; cases d'
  have neC : ∀ n c, env.cells.lookup n = some c → c ≠ a := fun n c hc q => by obtain ⟨v, o', e', d'⟩ := S.cells n c hc; rw [q, ho] at e'; cases e'; cases d'
  have nsk : ∀ {m}, h.Ns env.locals m → h'.Ns env.locals m := fun {m} n => by
    have n' := n
    obtain ⟨o', es, ep, e', d', r⟩ := n'
    exact ns_sim n fun o2 e2 => hk _ o2 (S.ok.notT' e' (by rw [d']; nofun)) neL e2
  have clk : ∀ {n c v}, env.cells.lookup n = some c → h.IsCell c v → h'.IsCell c v := fun {n c v} e x => by
    obtain ⟨o', e', d'⟩ := x
    exact ⟨o', hk.ex (S.ok.notT' e' (by rw [d']; nofun)) (neC n c e) e' (by rw [d']; nofun), d'⟩
  have var : ∀ {y u}, Var env h y u → Var env h' y u := fun {y u} r => by
    rcases r with ⟨a1, m1, n1, b1⟩ | ⟨a1, c1, n1, b1⟩
    · exact .inl ⟨a1, m1, nsk n1, b1⟩
    · exact .inr ⟨a1, c1, n1, clk n1 b1⟩
  refine ⟨⟨S.cx.fn, S.cx.glob, S.cx.blt, fun y pw e => ?_⟩, ok', fun b hb => ⟨(S.lo b hb).1, ?_⟩, S.ok0, fun b o n e => let ⟨o', e', s⟩ := S.kp b o n e; let ⟨o2, e2, s2⟩ := hk b o' n (fun q => by rw [q, hg] at e; cases e) e'; ⟨o2, e2, s.trans s2⟩,
    let ⟨m, n⟩ := S.ns; ⟨m, nsk n⟩, fun n c e => let ⟨v, x⟩ := S.cells n c e; ⟨v, clk e x⟩, S.apart, S.newL, S.newC, S.own.set hx, S.stk⟩
  · rw [List.lookup_cons] at e
    cases hb : y == x with
    | true =>
      rw [hb] at e; cases e
      rw [eq_of_beq hb]
      exact ⟨_, var hv, vs, rfl, hX, hl, hi⟩
    | false =>
      rw [hb] at e
      obtain ⟨u, hu, ru⟩ := S.cx.var y pw e
      refine ⟨u, var hu, ru.mut hpl.isList hX (fun zs q => ?_) fun b o q hv e => hk.ex (S.ok.notT e hv.cls) q e hv.nd⟩
      subst q
      have := S.own.one y x a zs xs e hx
      rw [this] at hb; simp at hb
  · obtain ⟨its, n, e⟩ := (S.lo b hb).2
    by_cases q : b = a
    · subst q; exact ⟨_, hl⟩
    · exact ⟨its, n, hk.ex (S.lo b hb).1 q e (by nofun)⟩

section stmts
variable {s : Shared} {Q : Flow → Shared → Prop} {E : Value → Shared → Prop} {rest : List Stmt}

theorem do_callMut {f x : Str} {a fa : Addr} {xs ys : List Int} {fd : FuncData} {es : List Expr} {ps : List PV} {np pos epos : Pos} (S : St C A env X g0 ρ s.heap) (hx : ρ.lookup x = some (.own a xs)) (hf : ρ.lookup f = some (.fn fa fd)) (hes : Evs C A env X ρ es ps)
    (hc : ∀ (s' : Shared) (Q' : Value → Shared → Prop) (E' : Value → Shared → Prop) (vs : List Value), St C A env X g0 ρ s'.heap → Reps X s'.heap vs ps →
      (∀ v h' tk, KpB C a s'.heap h' → Ok C h' → (∃ ws : List Value, h'.PlainList a ws.toArray ∧ IntsAre ws ys) → Q' v { s' with heap := h', toks := tk }) → wpAny C.M A (call (.ref fa) vs) Q' E' s')
    (k : ∀ h' tk, St C A env X g0 ((x, .own a ys) :: ρ) h' → wpAny C.M A (execs rest env) Q E { s with heap := h', toks := tk })
    (hne : es ≠ [] := by exact List.cons_ne_nil _ _) (hd : (f == ("__debug__" : Str)) = false := by decide) (hn : (f == ("__classdict__" : Str)) = false := by decide) (hi : interactive env = false := by rfl)
    (hs : swapsWith (.Call (.Name f np) es [] pos) none epos.line env = pure false := by rfl) : wpAny C.M A (execs (.Expr (.Call (.Name f np) es [] pos) epos :: rest) env) Q E s := by
  refine wpAny_execs_cons (wpAny_Expr_any ?_ hi hs)
  refine wpAny_Call_NameR (Ev.name hf hd hn s _ E S.cx S.ok S.live fun v h₁ tk₁ k₁ o₁ r₁ => ?_)
  obtain ⟨rfl, fo⟩ := r₁
  obtain ⟨d, sl, e⟩ := fo.1
  have S₁ := S.step k₁ o₁
  refine callWith_function (o := ⟨.type "function", d, .func fd, sl⟩) (fd := fd) (args_run hes hne _ _ E S₁.cx o₁ S₁.live fun vs h₂ tk₂ k₂ o₂ r₂ => ⟨⟨k₂.ex (o₁.notT e (by nofun)) e (by nofun), rfl⟩, ?_⟩)
  have S₂ := S₁.step k₂ o₂
  refine hc { s with heap := h₂, toks := tk₂ } _ E vs S₂ r₂ fun v h₃ tk₃ k₃ o₃ ⟨ws, hl, hi⟩ => ?_
  exact k h₃ tk₃ (S₂.mutK hx k₃ o₃ hl hi)
end stmts
end
end Mine
namespace Mine
open PySem PySem.Calls PySem.W PyProof.Rows
variable {C : Cfg}

section
variable {A : Around} {env : Env} {X : List Addr} {ρ : List (Str × PV)} {g0 : Heap}

theorem ItE.rev {d : Nat} (rm : Room A d) {e : Expr} {np pos : Pos} {xs : List Int} (g : GlobIs C "reversed" (.type "reversed")) (he : Ev C A env X ρ e (.il xs)) (hx : env.kindOf "reversed" = some .globalImplicit := by rfl) (hst : starEach [e] env = [(false, eval e env)] := by rfl) :
    ItE C A env X ρ (.Call (.Name "reversed" np) [e] [] pos) (xs.reverse.map .int) := fun s Q E c o lv k => by
  refine wpAny_Call_NameR (eval_glob g c o hx ?_ (by decide))
  have hes : Evs C A env X ρ [e] [.il xs] := .cons he .nil hst
  refine PySem.callWith_type (any_plain hes) (args_run hes (by exact List.cons_ne_nil _ _) s _ E c o lv fun vs h₁ tk₁ k₁ o₁ r₁ => ?_)
  obtain ⟨v, rfl, r₂⟩ := reps1 r₁
  obtain ⟨a, vs, rfl, hX, hl, hi⟩ := r₂
  have hl' := hl
  obtain ⟨n, ho⟩ := hl'
  have hlt : a < h₁.objs.size := Heap.lt_size ho
  refine call_reversed_list hl.isList ?_
  have hit : (h₁.push (revObj a ((vs.toArray.size : Int) - 1))).IsRevIter h₁.objs.size a ((vs.toArray.size : Int) - 1) := ⟨_, Heap.get?_push_size _ rfl, rfl, rfl⟩
  refine wpAny_pyIter_revIter (s := { s with heap := h₁.push (revObj a ((vs.toArray.size : Int) - 1)), toks := tk₁ }) hit ?_
  refine k _ h₁ _ tk₁ k₁ o₁ ?_
  have W := Walks.listRev (prog := C.prog) (w := C.w) (A := A) rm.hd h₁.objs.size a (Nat.ne_of_lt hlt) vs.toArray
  have e : vs.toArray.size = (xs.reverse.map PV.int).length := by simp [hi.length]
  rw [e] at W
  refine ⟨_, _, _, W, ⟨Nat.zero_le _, ?_, hl.isList.push _⟩, fresh_size _, Full.push _ _, fp_two ⟨hX, _, ho, isValL⟩, ?_, ?_⟩
  · rw [← e]; simpa using hit
  · rintro i h ⟨_, ⟨ob, e1, e2, e3⟩, _⟩
    exact ⟨ob, e1, by rw [e2]; nofun, by rw [e2]; decide, by rw [e2]; decide, by rw [e3]; nofun, by rw [e3]; nofun, by rw [e3]; nofun, by rw [e3]; rfl⟩
  · intro i v h hv _ hlt
    have hlt' : i < xs.length := by simpa using hlt
    obtain ⟨n, t, e, e'⟩ := hi.at _ v (by simpa using hv)
    refine ⟨.int n, ?_, t, e⟩
    rw [List.getElem?_map, List.getElem?_reverse hlt']
    have : xs[xs.length - 1 - i]? = some n := by simpa using e'
    rw [this]; rfl
end
end Mine
namespace Mine
open PySem PySem.Calls PySem.W PyProof.Rows
variable {C : Cfg}

/-! what is raised, and caught -/
def FrDict (C : Cfg) (h0 : Heap) (F : List Addr) : Prop := ∀ b ∈ F, C.g.get? b = none ∧ ∃ o es ep, h0.get? b = some o ∧ o.data = .dict es ep
theorem flown {h0 h' : Heap} {F : List Addr} (o : Ok C h0) (hF : FrDict C h0 F) (st : (hideAll h0 F).StaysIn h') (up : h0.UpToSlots h') : Kp C h0 h' ∧ Ok C h' := by
  refine ⟨fun b o' _ e => ?_, fun b o' e => ?_, ?_⟩
  · by_cases hb : b ∈ F
    · obtain ⟨_, o2, es, ep, e2, d2⟩ := hF b hb
      rw [e] at e2; cases e2
      obtain ⟨sl, e3⟩ := up b o' e (by rw [d2]; nofun)
      exact ⟨_, e3, .inr ⟨⟨es, ep, d2⟩, sl, rfl⟩⟩
    · exact ⟨o', st b o' (hideAll_get _ e hb), .refl _⟩
  · have hb : b ∉ F := fun hb => by rw [(hF b hb).1] at e; cases e
    exact st b o' (hideAll_get _ (o.up b o' e) hb)
  · refine C.tabKeep _ _ o.tab fun b o' vs e d _ => st b o' (hideAll_get _ e fun hb => ?_)
    obtain ⟨_, o2, es, ep, e2, d2⟩ := hF b hb
    rw [e] at e2; cases e2; rw [d] at d2; cases d2

def FlownTo (C : Cfg) (A : Around) (e : Addr) (cls : String) (h0 h' : Heap) : Prop :=
  ∃ l F a0, A.frames = some l ∧ FrDict C h0 F ∧ Heap.FlyingW (hideAll h0 F) l e (.type cls) a0 h' ∧ h0.UpToSlots h'

theorem funFrames_of {h0 h : Heap} {F : List Addr} : ∀ {l : List Env}, (∀ e ∈ l, FrAt C h e) → (∀ e ∈ l, ∀ b, e.frame = some b → b ∈ F) → h.FunFrames (hideAll h0 F) l
  | [], _, _ => trivial
  | e :: r, h1, h2 => by
    obtain ⟨hk, L, m, hf, _, _, hn⟩ := h1 e (.head _)
    exact Heap.FunFrames.cons (by rw [hk]; nofun) hf hn (hideAll_none _ (h2 e (.head _) L hf)) (funFrames_of (fun x hx => h1 x (.tail _ hx)) fun x hx => h2 x (.tail _ hx))
theorem frDict_of {h : Heap} {l : List Env} (hl : ∀ e ∈ l, FrAt C h e) : FrDict C h (l.filterMap (·.frame)) := fun b hb => by
  obtain ⟨e, he, hf⟩ := List.mem_filterMap.mp hb
  obtain ⟨_, L, m, hf', hg, _, o, es, ep, e1, d1, _⟩ := hl e he
  rw [hf] at hf'; cases hf'
  exact ⟨hg, o, es, ep, e1, d1⟩

section
variable {A : Around} {env : Env} {X : List Addr} {ρ : List (Str × PV)} {g0 : Heap}

/-- a frame is left with what was just raised in it -/
theorem leave_new {cls : String} {s' : Shared} {h : Heap} {e : Addr} {Q : Unit → Shared → Prop} {E : Value → Shared → Prop} (S : St C (A.deeper env) env X g0 ρ h) (hx : Heap.NewExc h s'.heap e cls)
    (k : ∀ h'', FlownTo C A e cls h h'' → Q () { s' with heap := h'' }) : wpAny C.M (A.deeper env) (leaving env (.ref e)) Q E s' := by
  obtain ⟨l, hA, hl⟩ := S.live.stk
  obtain ⟨outer, hA', hf, _⟩ := S.stk
  rw [hA] at hA'
  cases hA'
  obtain ⟨l0, hA0⟩ : ∃ l0, A.frames = some l0 := by
    cases q : A.frames with
    | none => have : (A.deeper env).frames = none := by show A.frames.map _ = _; rw [q]; rfl
              rw [hA] at this; cases this
    | some l0 => exact ⟨l0, rfl⟩
  have : l0 = outer := by
    have := Around.frames_deeper (env := env) hA0
    rw [hA] at this
    exact ((List.cons.inj (Option.some.inj this)).2).symm
  subst this
  have hF := frDict_of hl
  obtain ⟨ob, tp, he, hcls, hd⟩ := hx.there
  have hl' : ∀ x ∈ env :: l0, FrAt C s'.heap x := fun x hx' => (hl x hx').kp (Full.kp hx.keeps)
  have hin : ∀ x ∈ (env :: l0), ∀ b, x.frame = some b → b ∈ (env :: l0).filterMap (·.frame) := fun x he b hb => List.mem_filterMap.mpr ⟨x, he, hb⟩
  have hen : (hideAll h ((env :: l0).filterMap (·.frame))).get? e = none := by
    cases q : (hideAll h ((env :: l0).filterMap (·.frame))).get? e with
    | none => rfl
    | some o => have := of_hideAll _ q; rw [hx.new] at this; cases this
  refine wpAny_leaving_firstW (base := hideAll h ((env :: l0).filterMap (·.frame))) (a0 := tp) hA (funFrames_of hl' hin) hf he (fun b o hb => hx.keeps b o (of_hideAll _ hb)) hen hd rfl rfl fun h' hL => ?_
  obtain ⟨k1, ⟨_, _, k2⟩, k3, k4⟩ := hL
  exact k h' ⟨l0, _, tp, hA0, hF, ⟨k1, hen, k2, by rw [← hcls]; exact k3⟩, (Heap.UpToSlots.of_keeps hx.keeps).trans k4⟩

def CalR (C : Cfg) (A : Around) (f : Value) (args : List PV) (cls : String) : Prop :=
  ∀ (X : List Addr) (s : Shared) (Q : Value → Shared → Prop) (E : Value → Shared → Prop) (vs : List Value), Ok C s.heap → Live C A X s.heap → Reps X s.heap vs args →
    (∀ e h0 h' tk, Kp C s.heap h0 → Ok C h0 → FlownTo C A e cls h0 h' → E (.ref e) { s with heap := h', toks := tk }) → wpAny C.M A (call f vs) Q E s

section stmts
variable {s : Shared} {Q : Flow → Shared → Prop} {E : Value → Shared → Prop} {rest : List Stmt}

theorem do_raise {d : Nat} (rm : Room A d) {x : Str} {np pos : Pos} {cls N I : String} (S : St C A env X g0 ρ s.heap) (hc : ExcClass cls N I) (g : GlobIs C x (.type cls)) (hself : isSubtype (.type cls) (.type cls) = pure true)
    (k : ∀ e h' tk, Heap.NewExc s.heap h' e cls → E (.ref e) { s with heap := h', toks := tk }) (hx : env.kindOf x = some .globalImplicit := by rfl) (hdb : (x == ("__debug__" : Str)) = false := by decide) : wpAny C.M A (execs (.Raise (some (.Name x np)) none pos :: rest) env) Q E s :=
  wpAny_execs_cons (Raise_classB rm.hd hc hself (eval_glob g S.cx S.ok hx ⟨rfl, rfl⟩ hdb) fun h' e hn => k e h' s.toks hn)

theorem do_tryR {f x : Str} {a : Addr} {es : List Expr} {ps : List PV} {np pos epos hpos tpos xp : Pos} {ob : Obj} {fd : FuncData} {b₀ : Stmt} {suite : List Stmt} {cls : String} (S : St C A env X g0 ρ s.heap) (g : GlobIs C f (.ref a)) (ho : C.g.get? a = some ob) (hd : ob.data = .func fd)
    (hes : Evs C A env X ρ es ps) (hc : CalR C A (.ref a) ps cls) (gx : GlobIs C x (.type cls)) (hexc : isSubtype (.type cls) (.type "BaseException") = pure true) (hnt : isSubtype (.type ((Manifest.find? cls).elim "type" fun y => y.metatype)) (.type "tuple") = pure false)
    (hself : isSubtype (.type cls) (.type cls) = pure true)
    (k : ∀ (e : Addr) (h' : Heap) (tk : Nat) (E' : Value → Shared → Prop), St C (A.mark (some (.ref e))) env X g0 ρ h' → wpAny C.M (A.mark (some (.ref e))) (execs (b₀ :: suite) env) (Nxt C A env rest Q E) E' { s with heap := h', toks := tk })
    (hkf : env.kindOf f = some .globalImplicit := by rfl) (hkx : env.kindOf x = some .globalImplicit := by rfl) (hne : es ≠ [] := by exact List.cons_ne_nil _ _) (hdb : (f == ("__debug__" : Str)) = false := by decide) (hdx : (x == ("__debug__" : Str)) = false := by decide)
    (hi : interactive env = false := by rfl) (hs : swapsWith (.Call (.Name f np) es [] pos) none epos.line env = pure false := by rfl) :
    wpAny C.M A (execs (.Try [.Expr (.Call (.Name f np) es [] pos) epos] [.ExceptHandler (some (.Name x xp)) none (b₀ :: suite) hpos] [] [] tpos :: rest) env) Q E s := by
  refine wpAny_execs_cons (wpAny_Try_except (wpAny_execs_cons (wpAny_Expr_any ?_ hi hs)))
  refine wpAny_Call_NameR (eval_glob g S.cx S.ok hkf ?_ hdb)
  refine callWith_function (o := ob) (fd := fd) (args_run hes hne s _ _ S.cx S.ok S.live fun vs h₁ tk₁ k₁ o₁ r₁ => ⟨⟨o₁.up _ _ ho, hd⟩, ?_⟩)
  have S₁ := S.step k₁ o₁
  refine hc X _ _ _ vs o₁ S₁.live r₁ fun e h0 h' tk kp ok fl => ?_
  have S₂ := S₁.step kp ok
  obtain ⟨l, F, a0, hA, hF, hfl, hup⟩ := fl
  obtain ⟨outer, hA', hfr, _⟩ := S.stk
  rw [hA] at hA'
  cases hA'
  refine wpAny_looks_onW hA hfr hfl fun h₄ hheld₄ hsm₄ => ?_
  refine wpAny_landsW hheld₄ fun h₅ hheld hsm₅ => ?_
  have up₅ : h0.UpToSlots h₅ := (hup.trans hsm₄).trans hsm₅
  obtain ⟨kp₅, ok₅⟩ := flown ok hF hheld.1 up₅
  have S₅ := S₂.step kp₅ ok₅
  obtain ⟨oe, hoe, hoc⟩ := hheld.there
  refine wpAny_handleBy_builtin (X := cls) (T := cls) (b := true) hexc hnt hself (eval_glob (A := A.mark (some (.ref e))) gx S₅.cx S₅.ok hkx ⟨rfl, ⟨oe, hoe, hoc⟩, ?_⟩ hdx)
  simp only [if_true]
  refine lands_againW hheld fun h₆ hfl₆ hsm₆ => ?_
  obtain ⟨kp₆, ok₆⟩ := flown ok hF hfl₆.1 (up₅.trans hsm₆)
  have S₆ : St C A env X g0 ρ h₆ := S₂.step kp₆ ok₆
  exact k e h₆ tk _ { S₆ with stk := S₆.stk }
end stmts
end

theorem CalR.fn {A : Around} {d : Nat} {a : Addr} {name qual : Str} {params : Arguments} {body : List Stmt} {scope : Scope} {dV kV doc pm cdv ct oc : Value} {an od : Option Addr} {osl : Array (Option Value)} {ps : List PV} {cls : String} (rm : Room A (d + 1)) (ns : List Str)
    (ho : C.K.lookup a = some ⟨oc, od, .func (fnOf name qual params body scope dV kV doc pm an cdv ct), osl⟩) (hcd : codeIn C.K cdv qual = true)
    (hbind : ∀ vs : List Value, vs.length = ns.length → bindArgs (fnOf name qual params body scope dV kV doc pm an cdv ct) ⟨vs, []⟩ = pure (ns.zip vs))
    (hkind : (ns.all fun y => scope.names.lookup y == some .local || scope.names.lookup y == some .cell) = true) (hnd : ns.Nodup) (hlen : ns.length = ps.length) (hno : ps.all PV.plain = true)
    (hco : scope.isCoroutine = false) (hgen : scope.isGenerator = false) (hk : scope.kind = .function)
    (h : ∀ (X : List Addr) (L : Addr) (g0 : Heap) (s : Shared) (Q : Flow → Shared → Prop) (E : Value → Shared → Prop),
      Room (A.deeper (envX qual scope L a cdv (cellsFrom (L + 1) scope.names []))) d → St C (A.deeper (envX qual scope L a cdv (cellsFrom (L + 1) scope.names []))) (envX qual scope L a cdv (cellsFrom (L + 1) scope.names [])) X g0 (ns.zip ps) s.heap →
      (∀ e ρ' h h' tk, St C (A.deeper (envX qual scope L a cdv (cellsFrom (L + 1) scope.names []))) (envX qual scope L a cdv (cellsFrom (L + 1) scope.names [])) X g0 ρ' h → Heap.NewExc h h' e cls → E (.ref e) { s with heap := h', toks := tk }) →
      wpAny C.M (A.deeper (envX qual scope L a cdv (cellsFrom (L + 1) scope.names []))) (execs body (envX qual scope L a cdv (cellsFrom (L + 1) scope.names []))) Q E s) :
    CalR C A (.ref a) ps cls := by
  intro X s Q E vs o lv rs k
  have hg := o.up _ _ (C.kIn _ _ ho)
  refine wpAny_call (codeAny_call_cells (fd := fnOf name qual params body scope dV kV doc pm an cdv ct) (binds := ns.zip vs) rm.depth hg rfl (C.lim.keeps o.up) ((codeRec_at hcd).keeps o.up) rfl (hbind vs (by rw [rs.len, hlen])) rfl ?_ ?_ hco hgen hk)
  · intro x hx
    have hm : x.1 ∈ ns := (List.of_mem_zip hx).1
    have := List.all_eq_true.mp hkind x.1 hm
    rcases Bool.or_eq_true_iff.mp this with q | q
    · exact .inl (by simpa using q)
    · have q' : scope.names.lookup x.1 = some .cell := by simpa using q
      exact .inr ⟨q', cellsFrom_some _ _ _ (.inl q')⟩
  · intro s₁ I
    have hk₁ : Full s.heap s₁.heap := I.toInCall.keep
    obtain ⟨h₁, tk₁, rfl, _⟩ := I.done
    have hzip : ((ns.zip vs).map (·.1)) = ns := by
      rw [List.map_fst_zip]; rw [rs.len, hlen]; exact Nat.le_refl _
    have fresh : ∀ b, s.heap.objs.size ≤ b → s.heap.get? b = none := fun b hb => Heap.get?_none_of_le hb
    refine wpAny_mono (h X s.heap.objs.size s.heap _ (fun f s' => Q (match f with | .ret v => v | _ => .none) s') (fun e s' => wpAny C.M (A.deeper (envX qual scope s.heap.objs.size a cdv (cellsFrom (s.heap.objs.size + 1) scope.names []))) (leaving (envX qual scope s.heap.objs.size a cdv (cellsFrom (s.heap.objs.size + 1) scope.names [])) e) (fun _ s'' => E e s'') (fun e' s'' => E e' s'') s') (rm.deeper _) ?_ fun e ρ' h₂ h' tk S' hx => leave_new S' hx fun h'' fl => k e h₂ h'' tk S'.kp S'.ok fl) (fun f s' q => q) fun _ _ q => q
    refine ⟨⟨hk, rfl, rfl, fun x pv e => ?_⟩, o.full hk₁, lv.lo.kp hk₁.kp, o, hk₁.kp, ⟨_, I.toInCall.ns⟩, fun n c e => ⟨_, I.cell n c e⟩, I.apart, fresh _ (Nat.le_refl _), fun n c hm _ => fresh _ (Nat.le_of_lt (I.above n c hm)), .plain hno, let ⟨l, hA, r⟩ := lv.stk; ⟨l, Around.frames_deeper hA, rfl, r⟩⟩
    obtain ⟨v, hm, rv⟩ := reps_zip rs ns x pv hlen e
    refine ⟨v, ?_, rv.kp o hk₁.kp⟩
    have hx : x ∈ ns := (List.of_mem_zip hm).1
    have := List.all_eq_true.mp hkind x hx
    rcases Bool.or_eq_true_iff.mp this with q | q
    · have q' : scope.names.lookup x = some .local := by simpa using q
      exact .inl ⟨q', _, I.toInCall.ns, bindL_at _ _ (by rw [hzip]; exact hnd) hm q'⟩
    · have q' : scope.names.lookup x = some .cell := by simpa using q
      obtain ⟨c, hc⟩ := Option.isSome_iff_exists.mp (cellsFrom_some scope.names (s.heap.objs.size + 1) [] (.inl q'))
      refine .inr ⟨.inl q', c, hc, ?_⟩
      have hcell := I.cell x c hc
      have e2 : bindC (callEnvC (fnOf name qual params body scope dV kV doc pm an cdv ct) s.heap.objs.size a).kindOf (ns.zip vs) (fun _ => none) x = some v :=
        bindC_at _ _ (by rw [hzip]; exact hnd) hm (by show scope.names.lookup x ≠ _; rw [q']; nofun)
      rw [e2] at hcell
      exact hcell
end Mine
namespace Mine
open PySem PySem.Calls PySem.W PyProof.Rows

/-! numbers, plainly -/
theorem bits_le {x : Int} {k : Nat} (h : x.natAbs < 2 ^ k) : Builtin.Int.intBits x ≤ k := by
  unfold Builtin.Int.intBits
  split
  · exact Nat.zero_le _
  · rename_i q
    have h0 : x.natAbs ≠ 0 := by simpa using q
    have := (Nat.log2_lt h0).mpr h
    omega
theorem noPy {x y : Int} {k : Nat} (h : y.natAbs < 2 ^ k) (hk : k ≤ 1000) : Builtin.divisionGoesByPylong x y = false := by
  refine PyProof.noPylong_of_log2 ?_
  by_cases h0 : y.natAbs = 0
  · rw [h0]; decide +kernel
  · have := (Nat.log2_lt h0).mpr h
    omega
theorem mulOk {a b : Int} {k : Nat} (ha : a.natAbs < 2 ^ k) (hb : b.natAbs < 2 ^ k) (hk : k ≤ 1000) : IntMulOk a b :=
  IntMulOk.of_bits (Nat.le_trans (bits_le ha) (by omega)) (Nat.le_trans (bits_le hb) (by omega))

/-- a row of figures, the lowest first, to the base 2 ** n -/
def val (n : Nat) : List Int → Int
  | [] => 0
  | d :: r => d + 2 ^ n * val n r
theorem val_append (n : Nat) : ∀ xs ys : List Int, val n (xs ++ ys) = val n xs + 2 ^ (n * xs.length) * val n ys
  | [], ys => by simp [val]
  | d :: r, ys => by
    simp only [List.cons_append, val, List.length_cons]
    rw [val_append n r ys, Nat.mul_add, Int.mul_add, ← Int.mul_assoc, Nat.mul_one, Nat.add_comm (n * r.length) n, ← Int.pow_add, Int.add_assoc]
theorem val_le (n b : Nat) (hn : 1 ≤ n) : ∀ xs : List Int, (∀ x ∈ xs, x.natAbs < 2 ^ b) → (val n xs).natAbs + 2 ^ b ≤ 2 ^ (b + n * xs.length)
  | [], _ => by simp [val]
  | d :: r, h => by
    have h1 := h d (.head _)
    have h2 := val_le n b hn r fun x hx => h x (.tail _ hx)
    simp only [val, List.length_cons]
    have e : (d + 2 ^ n * val n r).natAbs ≤ d.natAbs + 2 ^ n * (val n r).natAbs := by
      refine Nat.le_trans (Int.natAbs_add_le _ _) ?_
      rw [Int.natAbs_mul, Int.natAbs_pow]; exact Nat.le_refl _
    have e2 : 2 ^ (b + n * (r.length + 1)) = 2 ^ n * 2 ^ (b + n * r.length) := by rw [← Nat.pow_add]; congr 1; rw [Nat.mul_add]; omega
    have e3 : 2 * 2 ^ b ≤ 2 ^ n * 2 ^ b := Nat.mul_le_mul_right _ (by simpa using Nat.pow_le_pow_right (n := 2) (by omega) hn)
    have e5 : 2 ^ n * ((val n r).natAbs + 2 ^ b) ≤ 2 ^ n * 2 ^ (b + n * r.length) := Nat.mul_le_mul_left _ h2
    rw [Nat.mul_add] at e5
    rw [e2]
    omega
theorem val_lt (n b : Nat) (hn : 1 ≤ n) (xs : List Int) (h : ∀ x ∈ xs, x.natAbs < 2 ^ b) : (val n xs).natAbs < 2 ^ (b + n * xs.length) := by
  have := val_le n b hn xs h
  have := Nat.two_pow_pos b
  omega

def li (xs : List Nat) : List Int := xs.map fun (i : Nat) => (i : Int)
/-- the figures of a number, the lowest first -/
def figs (n : Nat) : Nat → Nat → List Nat
  | 0, _ => []
  | k + 1, x => x % 2 ^ n :: figs n k (x / 2 ^ n)
theorem figs_length (n : Nat) : ∀ k x, (figs n k x).length = k
  | 0, _ => rfl
  | k + 1, x => by simp [figs, figs_length n k]
theorem figs_add (n : Nat) : ∀ j k x, figs n (j + k) x = figs n j (x % 2 ^ (n * j)) ++ figs n k (x / 2 ^ (n * j))
  | 0, k, x => by simp [figs]
  | j + 1, k, x => by
    have e : j + 1 + k = (j + k) + 1 := by omega
    rw [e]
    simp only [figs, List.cons_append]
    have e1 : x % 2 ^ (n * (j + 1)) % 2 ^ n = x % 2 ^ n := Nat.mod_mod_of_dvd _ (Nat.pow_dvd_pow 2 (by rw [Nat.mul_add]; omega))
    have e2 : x % 2 ^ (n * (j + 1)) / 2 ^ n = x / 2 ^ n % 2 ^ (n * j) := by
      rw [show n * (j + 1) = n + n * j by rw [Nat.mul_add]; omega, Nat.pow_add, Nat.mod_mul_right_div_self]
    have e3 : x / 2 ^ n / 2 ^ (n * j) = x / 2 ^ (n * (j + 1)) := by
      rw [Nat.div_div_eq_div_mul, ← Nat.pow_add, show n * (j + 1) = n + n * j by rw [Nat.mul_add]; omega]
    rw [figs_add n j k, e1, e2, e3]
theorem figs_one (n x : Nat) (h : x < 2 ^ n) : figs n 1 x = [x] := by simp [figs, Nat.mod_eq_of_lt h]
theorem val_figs (n : Nat) : ∀ k x, x < 2 ^ (n * k) → val n (li (figs n k x)) = x
  | 0, x, h => by simp [figs, val, li] at h ⊢; omega
  | k + 1, x, h => by
    have h' : x / 2 ^ n < 2 ^ (n * k) := by
      rw [Nat.div_lt_iff_lt_mul (Nat.two_pow_pos n), ← Nat.pow_add]
      rw [Nat.mul_add] at h; simpa using h
    simp only [figs, li, List.map_cons, val]
    show _ + _ * val n (li (figs n k (x / 2 ^ n))) = _
    rw [val_figs n k _ h']
    have := Nat.mod_add_div x (2 ^ n)
    rw [show ((2 : Int) ^ n) = ((2 ^ n : Nat) : Int) by simp]
    exact_mod_cast this
theorem take_one {ds : List Int} {a : Nat} {x : Int} (h : ds[a]? = some x) : (ds.drop a).take 1 = [x] := by
  obtain ⟨h1, h2⟩ := List.getElem?_eq_some_iff.mp h
  rw [List.drop_eq_getElem_cons h1]; simp [h2]
theorem take_split {α : Type} (ds : List α) {a m b : Nat} (h1 : a ≤ m) (h2 : m ≤ b) : (ds.drop a).take (b - a) = (ds.drop a).take (m - a) ++ (ds.drop m).take (b - m) := by
  have e : b - a = (m - a) + (b - m) := by omega
  rw [e, List.take_add, List.drop_drop]
  congr 3; omega
theorem val_split (n : Nat) (ds : List Int) {a m b : Nat} (h1 : a ≤ m) (h2 : m ≤ b) (h3 : b ≤ ds.length) :
    val n ((ds.drop m).take (b - m)) * 2 ^ (((m : Int) - (a : Int)) * (n : Int)).toNat + val n ((ds.drop a).take (m - a)) = val n ((ds.drop a).take (b - a)) := by
  rw [take_split ds h1 h2, val_append]
  have e : (((m : Int) - (a : Int)) * (n : Int)).toNat = n * ((ds.drop a).take (m - a)).length := by
    have : ((m : Int) - (a : Int)) = ((m - a : Nat) : Int) := by omega
    rw [this, ← Int.natCast_mul, Int.toNat_natCast, Nat.mul_comm]
    simp; rw [Nat.min_eq_left (by omega)]
  rw [e, Int.mul_comm, Int.add_comm]
theorem part_lt {n b : Nat} (hn : 1 ≤ n) {ds : List Int} (hb : ∀ x ∈ ds, x.natAbs < 2 ^ b) (i j : Nat) : (val n ((ds.drop i).take j)).natAbs < 2 ^ (b + n * ds.length) := by
  refine Nat.lt_of_lt_of_le (val_lt n b hn _ fun x hx => hb x (List.mem_of_mem_drop (List.mem_of_mem_take hx))) (Nat.pow_le_pow_right (by omega) ?_)
  have : ((ds.drop i).take j).length ≤ ds.length := by simp; omega
  have := Nat.mul_le_mul_left n this
  omega
theorem and_top (x s : Nat) : x &&& (x / 2 ^ s * 2 ^ s) = x / 2 ^ s * 2 ^ s := by
  apply Nat.eq_of_testBit_eq
  intro i
  rw [Nat.testBit_and, Nat.testBit_mul_two_pow, Nat.testBit_div_two_pow]
  by_cases h : s ≤ i
  · simp [h, Nat.sub_add_cancel h]
  · simp [h]
theorem or_top (x s : Nat) : x ||| (x / 2 ^ s * 2 ^ s) = x := by
  apply Nat.eq_of_testBit_eq
  intro i
  rw [Nat.testBit_or, Nat.testBit_mul_two_pow, Nat.testBit_div_two_pow]
  by_cases h : s ≤ i
  · simp [h, Nat.sub_add_cancel h]
  · simp [h]
theorem bitAnd_nat (a b : Nat) : Spec.bitAnd (a : Int) (b : Int) = ((a &&& b : Nat) : Int) := by
  unfold Spec.bitAnd
  rw [decide_eq_true (by omega : (0 : Int) ≤ a), decide_eq_true (by omega : (0 : Int) ≤ b)]
  rfl
theorem bitOr_nat (a b : Nat) : Spec.bitOr (a : Int) (b : Int) = ((a ||| b : Nat) : Int) := by
  unfold Spec.bitOr Spec.bitAnd Spec.bitNot
  rw [decide_eq_false (by omega : ¬ (0 : Int) ≤ -(a : Int) - 1), decide_eq_false (by omega : ¬ (0 : Int) ≤ -(b : Int) - 1)]
  have e1 : (-(-(a : Int) - 1) - 1).toNat = a := by omega
  have e2 : (-(-(b : Int) - 1) - 1).toNat = b := by omega
  simp only [e1, e2]
  omega
theorem bitXor_top (x s : Nat) : Builtin.bitXor (x : Int) (((x / 2 ^ s : Nat) : Int) * 2 ^ s) = ((x % 2 ^ s : Nat) : Int) := by
  have e : (((x / 2 ^ s : Nat) : Int) * 2 ^ s) = ((x / 2 ^ s * 2 ^ s : Nat) : Int) := by simp
  rw [e, ← bitXor_eq]
  unfold Spec.bitXor
  rw [bitOr_nat, bitAnd_nat, and_top, or_top]
  have := Nat.mod_add_div x (2 ^ s)
  rw [Nat.mul_comm] at this
  omega

/-- figures put into a row at a place -/
def put (xs : List Int) (i : Nat) (ds : List Nat) : List Int := xs.take i ++ li ds ++ xs.drop (i + ds.length)
theorem put_length {xs : List Int} {i : Nat} {ds : List Nat} (h : i + ds.length ≤ xs.length) : (put xs i ds).length = xs.length := by
  simp [put, li]; omega
theorem put_one {xs : List Int} {i x : Nat} (h : i < xs.length) : xs.set i (x : Int) = put xs i [x] := by
  rw [List.set_eq_take_append_cons_drop]; simp [put, li, h]
theorem put_put {xs : List Int} {i : Nat} {ds es : List Nat} (h : i + ds.length + es.length ≤ xs.length) : put (put xs i ds) (i + ds.length) es = put xs i (ds ++ es) := by
  have e1 : (xs.take i).length = i := by simp; omega
  have e2 : (xs.take i ++ li ds).length = i + ds.length := by simp [li]; omega
  have e3 : (put xs i ds).take (i + ds.length) = xs.take i ++ li ds := by
    unfold put; rw [← e2, List.take_left']; rfl
  have e4 : (put xs i ds).drop (i + ds.length + es.length) = xs.drop (i + (ds ++ es).length) := by
    unfold put
    rw [List.drop_append, List.drop_eq_nil_of_le (by rw [e2]; omega), List.nil_append, e2, List.drop_drop]
    congr 1; simp; omega
  rw [put, e3, e4, put]
  simp [li]
theorem put_all {xs : List Int} {ds : List Nat} (h : ds.length = xs.length) : put xs 0 ds = li ds := by
  simp [put, h]
end Mine
namespace Mine
open PySem PySem.Calls PySem.W PyProof.Rows
variable {C : Cfg}

theorem globB {x : Str} {v : Value} (h1 : nsIn C.K mainGlobals x = some none) (h2 : bootBuiltins x = some v) (hne : x ≠ "__name__") : GlobIs C x v :=
  .inr ⟨mg_none_of C.kIn C.gNs h1, (C.bin x hne).trans h2⟩
theorem globK {x : Str} {v : Value} (h1 : nsIn C.K mainGlobals x = some (some v)) : GlobIs C x v := .inl (mg_of C.kIn C.gNs h1)

theorem OwnOk.plain' {g0 : Heap} {ρ : List (Str × PV)} (h : (ρ.all fun y => y.2.plain) = true) : OwnOk g0 ρ := by
  have no : ∀ x a xs, ρ.lookup x ≠ some (PV.own a xs) := fun x a xs e => PV.plain_ne (List.all_eq_true.mp h _ (mem_of_lookup e)) a xs rfl
  exact ⟨fun x a xs e => absurd e (no x a xs), fun x _ a xs _ e _ => absurd e (no x a xs)⟩
theorem half_int (L R : Nat) : ((L : Int) + (R : Int)).fdiv (2 ^ (1 : Int).toNat) = (((L + R) / 2 : Nat) : Int) := by
  rw [Int.fdiv_eq_ediv_of_nonneg _ (by decide)]
  simp

section
variable {A : Around} {env : Env} {X : List Addr} {ρ : List (Str × PV)} {g0 : Heap} {s : Shared} {Q : Flow → Shared → Prop} {E : Value → Shared → Prop} {rest : List Stmt}
theorem do_returnNone {pos : Pos} (S : St C A env X g0 ρ s.heap) (k : Q (.ret .none) s) : wpAny C.M A (execs (.Return none pos :: rest) env) Q E s := wpAny_execs_cons (wpAny_Return_none k)

theorem hide_ok {h : Heap} {a : Addr} {its : Array Value} (o : Ok C h) (hl : h.PlainList a its) (hg : C.g.get? a = none) : Ok C (hideAll h [a]) := by
  obtain ⟨n, e⟩ := hl
  refine ⟨fun b ob e' => hideAll_get _ (o.up b ob e') fun hb => ?_, C.tabKeep _ _ o.tab fun b ob vs e' d _ => hideAll_get _ e' fun hb => ?_⟩
  · rw [List.mem_singleton.mp hb, hg] at e'; cases e'
  · rw [List.mem_singleton.mp hb, e] at e'; cases e'; cases d
theorem hide_kp {h : Heap} {a : Addr} : Kp C (hideAll h [a]) h := fun b o _ e => ⟨o, of_hideAll _ e, .refl o⟩
theorem hide_stk {h : Heap} {a : Addr} {its : Array Value} (st : Stk C A h) (hl : h.PlainList a its) : Stk C A (hideAll h [a]) := by
  obtain ⟨l, hA, r⟩ := st
  refine ⟨l, hA, fun e he => ?_⟩
  obtain ⟨hk, L, m, h1, h2, h3, h4⟩ := r e he
  refine ⟨hk, L, m, h1, h2, h3, ns_sim h4 fun o e => ⟨o, hideAll_get _ e fun hb => ?_, .refl o⟩⟩
  obtain ⟨n, e'⟩ := hl
  obtain ⟨o', es, ep, e1, d1, _⟩ := h4
  rw [List.mem_singleton.mp hb, e'] at e1; cases e1; cases d1
theorem hide_back {h h' : Heap} {a : Addr} (k : Kp C (hideAll h [a]) h') : KpB C a h h' := fun b o n q e => k b o n (hideAll_get _ e fun hb => q (List.mem_singleton.mp hb))
theorem St.list {h : Heap} {x : Str} {a : Addr} {xs : List Int} (S : St C A env X g0 ρ h) (hx : ρ.lookup x = some (.own a xs)) : ∃ ws : List Value, h.PlainList a ws.toArray ∧ IntsAre ws xs := by
  obtain ⟨v, _, ws, _, _, hl, hi⟩ := S.cx.var x _ hx; exact ⟨ws, hl, hi⟩
end

theorem zeros : ∀ k : Nat, (List.replicate k [(0 : Int)]).flatten = List.replicate k 0
  | 0 => rfl
  | k + 1 => by rw [List.replicate_succ, List.flatten_cons, zeros k]; rfl
theorem shr_nat (x s : Nat) : ((x : Int)).fdiv (2 ^ s) = ((x / 2 ^ s : Nat) : Int) := by
  rw [Int.fdiv_eq_ediv_of_nonneg _ (Int.le_of_lt (Int.pow_pos (by decide)))]
  simp


theorem Ev.globInt {A : Around} {env : Env} {X : List Addr} {ρ : List (Str × PV)} {x : Str} {i : Int} {t : Tok} {pos : Pos} (g : GlobIs C x (.int i t)) (hx : env.kindOf x = some .globalImplicit := by rfl) (hdb : (x == ("__debug__" : Str)) = false := by decide) : Ev C A env X ρ (.Name x pos) (.int i) :=
  fun s Q E c o lv k => eval_glob g c o hx (k _ s.heap s.toks (Kp.refl _) o ⟨t, rfl⟩) hdb

theorem figs_get (n : Nat) : ∀ k x i, i < k → (figs n k x)[i]? = some (x / 2 ^ (n * i) % 2 ^ n)
  | k + 1, x, 0, _ => by simp [figs]
  | k + 1, x, i + 1, h => by
    simp only [figs, List.getElem?_cons_succ]
    rw [figs_get n k _ i (by omega), Nat.div_div_eq_div_mul, ← Nat.pow_add, show n + n * i = n * (i + 1) by rw [Nat.mul_add]; omega]
theorem li_get (xs : List Nat) (i : Nat) : (li xs)[i]? = xs[i]?.map fun (x : Nat) => (x : Int) := by simp [li]
theorem li_length (xs : List Nat) : (li xs).length = xs.length := by simp [li]
theorem li_append (xs ys : List Nat) : li (xs ++ ys) = li xs ++ li ys := by simp [li]
theorem li_reverse (xs : List Nat) : li xs.reverse = (li xs).reverse := by simp [li]
/-- one step of a long division -/
theorem long_step {a b n j r v : Nat} (hb : 0 < b) (hr : r = a / 2 ^ (n * (j + 1)) % b) (hv : v = a / 2 ^ (n * (j + 1)) / b) :
    (r * 2 ^ n + a / 2 ^ (n * j) % 2 ^ n) / b + 2 ^ n * v = a / 2 ^ (n * j) / b ∧ (r * 2 ^ n + a / 2 ^ (n * j) % 2 ^ n) % b = a / 2 ^ (n * j) % b ∧ r * 2 ^ n + a / 2 ^ (n * j) % 2 ^ n < b * 2 ^ n := by
  have e1 : a / 2 ^ (n * (j + 1)) = a / 2 ^ (n * j) / 2 ^ n := by rw [Nat.div_div_eq_div_mul, ← Nat.pow_add]; congr 2
  generalize hM : a / 2 ^ (n * j) = M at *
  rw [e1] at hr hv
  generalize hB : 2 ^ n = B at *
  have hB0 : 0 < B := by rw [← hB]; exact Nat.two_pow_pos n
  have e2 : M = M / B * B + M % B := by rw [Nat.mul_comm]; exact (Nat.div_add_mod M B).symm
  have e3 : M / B = b * v + r := by rw [hv, hr]; exact (Nat.div_add_mod _ _).symm
  have e4 : M = b * (B * v) + (r * B + M % B) := by
    rw [e3, Nat.add_mul] at e2
    have : b * v * B = b * (B * v) := by rw [Nat.mul_assoc, Nat.mul_comm v B]
    omega
  have hrb : r < b := by rw [hr]; exact Nat.mod_lt _ hb
  refine ⟨?_, ?_, ?_⟩
  · conv => rhs; rw [e4]
    rw [Nat.mul_add_div hb, Nat.add_comm]
  · conv => rhs; rw [e4]
    rw [Nat.mul_add_mod]
  · have : M % B < B := Nat.mod_lt _ hB0
    have h1 : (r + 1) * B ≤ b * B := Nat.mul_le_mul_right _ hrb
    rw [Nat.add_mul] at h1
    omega

/-! letters -/
def hexs (n : Nat) : List Nat := if h : n = 0 then [] else hexs (n / 16) ++ [n % 16]
termination_by n
decreasing_by omega
theorem hexs_zero : hexs 0 = [] := by rw [hexs]; simp
theorem hexs_pos {n : Nat} (h : n ≠ 0) : hexs n = hexs (n / 16) ++ [n % 16] := by rw [hexs]; simp [h]
theorem hexs_length : ∀ (k n : Nat), n < 16 ^ k → (hexs n).length ≤ k
  | 0, n, h => by have : n = 0 := by simpa using h
                  subst this; rw [hexs_zero]; exact Nat.le_refl _
  | k + 1, n, h => by
    by_cases h0 : n = 0
    · subst h0; rw [hexs_zero]; exact Nat.zero_le _
    · rw [hexs_pos h0, List.length_append]
      have : n / 16 < 16 ^ k := by rw [Nat.pow_succ] at h; omega
      have := hexs_length k _ this
      simp; omega
def apw (ds : List Nat) : List UInt8 := ds.map fun d => (65 + d).toUInt8
def ap (n : Nat) : List UInt8 := apw (hexs n)
def APb : List UInt8 := [65, 66, 67, 68, 69, 70, 71, 72, 73, 74, 75, 76, 77, 78, 79, 80]
theorem ap_pick : ∀ m : Nat, m < 16 → (KBy.picked APb.toArray (some (m : Int)) (some ((m : Int) + 1))).toList = [(65 + m).toUInt8] := by decide
theorem fdiv_nat (a b : Nat) : ((a : Int)).fdiv (b : Int) = ((a / b : Nat) : Int) := by rw [Int.fdiv_eq_ediv_of_nonneg _ (by omega)]; simp
theorem fmod_nat (a b : Nat) : ((a : Int)).fmod (b : Int) = ((a % b : Nat) : Int) := by rw [Int.fmod_eq_emod_of_nonneg _ (by omega)]; simp
end Mine
namespace Mine
open PySem PySem.Calls PySem.W PyProof.Rows

/-! the law's own frame -/
section
variable {prog : Program} {w : World} {H : Heap} {tabs : List (Addr × Addr)} {K : Frag} {mg mb : Str → Option Value} {p : Program} {loose : List Str} {mean : ExcName → Option Value}

def mkCfg (prog : Program) (w : World) (ns : List Nest) (hns : (ns.map fun q => (q.c, q.P)) = tabs) (X : K.In (ghostOf H tabs)) (T : Top p loose mean mg mb (ghostOf H tabs)) : Cfg where
  prog := prog
  w := w
  g := ghostOf H tabs
  K := K
  mg := mg
  mb := mb
  T := ns.map (·.P)
  Tab := NestTab ns
  kIn := X
  gNs := T.g
  bNs := T.b
  lim := T.nolimit
  bin := T.builtins
  tNone := fun t ht => hideAll_none _ (by subst hns; simpa using ht)
  tabAt := fun h t => t.at
  tabKeep := fun h h' t k => t.keep k

theorem codeAll_get {h : Heap} : ∀ {tabs : List (Addr × Addr)}, CodeAll tabs h → ∀ q ∈ tabs, CodeHd h q.1 q.2
  | _ :: _, k, _, .head _ => k.1
  | _ :: _, k, q, .tail _ hq => codeAll_get k.2 q hq

theorem mk_nest {ns : List Nest} {hns : (ns.map fun q => (q.c, q.P)) = tabs} {X : K.In (ghostOf H tabs)} {T : Top p loose mean mg mb (ghostOf H tabs)} (hT : TabsAt tabs H) (hnd : (ns.map (·.P)).Nodup) : NestOk (mkCfg prog w ns hns X T) ns where
  tab := rfl
  T := rfl
  nd := hnd
  hd := fun q hq => codeAll_get (ghost_code hT) (q.c, q.P) (hns ▸ List.mem_map_of_mem (f := fun q : Nest => (q.c, q.P)) hq)
  bm := T.bmain

theorem cellsAre_get {cm : Str → Option Value} {h : Heap} : ∀ {cs : List (Str × Addr)} {cells : List (Addr × Obj)}, CellsAre cm cs cells → (∀ q ∈ cells, h.get? q.1 = some q.2) → ∀ n c, (n, c) ∈ cs → h.IsCell c (cm n) := by
  intro cs cells x
  induction x with
  | nil => intro _ n c hm; cases hm
  | cons hd _ ih =>
    intro k n c hm
    rcases List.mem_cons.mp hm with e | hm
    · cases e
      exact ⟨_, k _ (.head _), hd⟩
    · exact ih (fun q hq => k q (.tail _ hq)) n c hm

theorem top_st {ns : List Nest} {hns : (ns.map fun q => (q.c, q.P)) = tabs} {X : K.In (ghostOf H tabs)} {T : Top p loose mean mg mb (ghostOf H tabs)} {h : Heap} {m cm : Str → Option Value} {name : Str} {scope : Scope} {fa a : Addr} {cd : Value} {cells : List (Addr × Obj)} {vs : List Value} {xs : List Int}
    {wd : WData} {P : Params} (hT : TabsAt tabs H) (F : Fr (ghostOf H tabs) H.objs.size h m) (hcells : CellsAre cm (cellsFrom (H.objs.size + 1) scope.names []) cells) (N : News (ghostOf H tabs) H.objs.size h (cells ++ tabNews tabs))
    (hok : ∀ n c, (n, c) ∈ cellsFrom (H.objs.size + 1) scope.names [] → H.objs.size < c) (hap : (cellsFrom (H.objs.size + 1) scope.names []).Pairwise fun x y => x.2 ≠ y.2)
    (hs : scope.names.lookup ("script" : Str) = some .cell) (hv : cm "script" = some (.ref a)) (hW : Well P H (.ref a) wd) (hL : H.IsList a vs.toArray) (hi : IntsAre vs xs) (hk : scope.kind = .function) :
    St (mkCfg prog w ns hns X T) (callerA.deeper (envX name scope H.objs.size fa cd (cellsFrom (H.objs.size + 1) scope.names []))) (envX name scope H.objs.size fa cd (cellsFrom (H.objs.size + 1) scope.names [])) [] H [("script", .il xs)] h := by
  have fresh : ∀ b, H.objs.size ≤ b → H.get? b = none := fun b hb => Heap.get?_none_of_le hb
  have hN : ∀ q ∈ cells, h.get? q.1 = some q.2 := fun q hq => (N q (List.mem_append_left _ hq)).1
  have hTab : ∀ q ∈ tabs, h.get? q.2 = some (tabObj #[]) := fun q hq => (N (q.2, tabObj #[]) (List.mem_append_right _ (List.mem_map_of_mem (f := fun q : Addr × Addr => (q.2, tabObj #[])) hq))).1
  have hgc := cellsAre_get hcells hN
  have tabOk : ∀ h', (∀ q ∈ tabs, h'.get? q.2 = some (tabObj #[])) → NestTab ns h' := fun h' k q hq => ⟨#[], k (q.c, q.P) (hns ▸ List.mem_map_of_mem (f := fun q : Nest => (q.c, q.P)) hq), .inl rfl⟩
  have kp : Kp (mkCfg prog w ns hns X T) H h := fun b o n e => ⟨o, F.keep b o (ghost_ne e (by subst hns; simpa [mkCfg] using n)), .refl o⟩
  have okH : Ok (mkCfg prog w ns hns X T) H := ⟨fun b o e => of_hideAll _ e, tabOk H fun q hq => (hT q hq).2⟩
  have okh : Ok (mkCfg prog w ns hns X T) h := ⟨F.keep, tabOk h hTab⟩
  have hpl : H.PlainList a vs.toArray := by
    obtain ⟨o, e, hc, n, hd⟩ := hL
    cases hW with
    | list e' _ => rw [e] at e'; cases e'; cases hd; exact ⟨0, e⟩
    | tuple e' _ => rw [e] at e'; cases e'; exact absurd hc (by show Value.type "tuple" ≠ _; decide)
    | bytearray e' => rw [e] at e'; cases e'; cases hd
    | dict e' _ => rw [e] at e'; cases e'; cases hd
    | set e' _ _ _ => rw [e] at e'; cases e'; cases hd
    | frozenset e' _ _ _ => rw [e] at e'; cases e'; cases hd
    | obj e' _ _ _ => rw [e] at e'; cases e'; cases hd
  refine ⟨⟨hk, rfl, rfl, fun x pv e => ?_⟩, okh, (fun _ hm => nomatch hm), okH, kp, ⟨_, F.ns⟩, fun n c e => ⟨_, hgc n c (mem_of_lookup e)⟩, hap, fresh _ (Nat.le_refl _), fun n c hm _ => fresh _ (Nat.le_of_lt (hok n c hm)), .plain' rfl, ⟨[], rfl, rfl, (fun _ hm => nomatch hm)⟩⟩
  have hm := mem_of_lookup e
  rw [List.mem_singleton] at hm
  cases hm
  obtain ⟨c, hc⟩ := Option.isSome_iff_exists.mp (cellsFrom_some scope.names (H.objs.size + 1) [] (.inl hs))
  have hcell := hgc _ c (mem_of_lookup hc)
  rw [hv] at hcell
  refine ⟨.ref a, .inr ⟨.inl hs, c, hc, hcell⟩, Rep.kp (C := mkCfg prog w ns hns X T) (h := H) (pv := .il xs) ⟨a, vs, rfl, (fun q => nomatch q), hpl, hi⟩ okH kp⟩

theorem top_grown {ns : List Nest} {hns : (ns.map fun q => (q.c, q.P)) = tabs} {X : K.In (ghostOf H tabs)} {T : Top p loose mean mg mb (ghostOf H tabs)} {h' : Heap} (ok : Ok (mkCfg prog w ns hns X T) h') : GrownAll tabs h' := by
  have go : ∀ (l : List (Addr × Addr)), (∀ q ∈ l, GrownAt q.2 h') → GrownAll l h' := fun l => by
    induction l with
    | nil => intro _; trivial
    | cons q r ih => intro k; exact ⟨k q (.head _), ih fun x hx => k x (.tail _ hx)⟩
  refine go tabs fun q hq => ?_
  subst hns
  obtain ⟨r, hr, rfl⟩ := List.mem_map.mp hq
  obtain ⟨ps, e, _⟩ := ok.tab r hr
  exact ⟨ps, e⟩

theorem top_go {ns : List Nest} {X : K.In (ghostOf H tabs)} {T : Top p loose mean mg mb (ghostOf H tabs)} {s : Shared} {m cm : Str → Option Value} {name : Str} {scope : Scope} {fa a : Addr} {cd : Value} {cells : List (Addr × Obj)} {vs : List Value} {xs : List Int}
    {wd : WData} {P : Params} {body : List Stmt} {Q : Flow → Shared → Prop} {E : Value → Shared → Prop} (hns : (ns.map fun q => (q.c, q.P)) = tabs) (hT : TabsAt tabs H) (hnd : (ns.map (·.P)).Nodup) (F : Fr (ghostOf H tabs) H.objs.size s.heap m) (hcells : CellsAre cm (cellsFrom (H.objs.size + 1) scope.names []) cells)
    (N : News (ghostOf H tabs) H.objs.size s.heap (cells ++ tabNews tabs))
    (hok : ∀ n c, (n, c) ∈ cellsFrom (H.objs.size + 1) scope.names [] → H.objs.size < c) (hap : (cellsFrom (H.objs.size + 1) scope.names []).Pairwise fun x y => x.2 ≠ y.2)
    (hs : scope.names.lookup ("script" : Str) = some .cell) (hv : cm "script" = some (.ref a)) (hW : Well P H (.ref a) wd) (hL : H.IsList a vs.toArray) (hi : IntsAre vs xs) (hk : scope.kind = .function)
    (k : ∀ (C : Cfg) (A' : Around), C.w = w → C.K = K → NestOk C ns → (∀ h', Ok C h' → Full (ghostOf H tabs) h' ∧ GrownAll tabs h') → Room A' 300 →
      St C A' (envX name scope H.objs.size fa cd (cellsFrom (H.objs.size + 1) scope.names [])) [] H [("script", .il xs)] s.heap →
      wpAny C.M A' (execs body (envX name scope H.objs.size fa cd (cellsFrom (H.objs.size + 1) scope.names []))) Q E s) :
    wpAny (model prog w) (callerA.deeper (envX name scope H.objs.size fa cd (cellsFrom (H.objs.size + 1) scope.names []))) (execs body (envX name scope H.objs.size fa cd (cellsFrom (H.objs.size + 1) scope.names []))) Q E s :=
  k (mkCfg prog w ns hns X T) _ rfl rfl (mk_nest hT hnd) (fun h' ok => ⟨ok.up, top_grown ok⟩) ⟨rfl, (by decide : callerA.depth + 1 + 300 ≤ 800), (by decide : callerA.units + 3 + 10 * 300 ≤ 8000)⟩ (top_st hT F hcells N hok hap hs hv hW hL hi hk)

/-- the law gives True -/
theorem top_good {c : ClaimW} {cl : Str → Option Addr} {args : List WData} {s₁ s' : Shared} (f : Full (ghostOf H tabs) s'.heap ∧ GrownAll tabs s'.heap) (e1 : s₁.heap = ghostOf H tabs)
    (hg : s'.gens = #[]) (hn : ∀ cls, c.raises args cls = false) (hp : c.post args (.bool true) args = true) (hos : s'.os = s₁.os) :
    GoodW c cl mean args s₁ (.ok (.ret (.bool true))) s' ∧ GrownAll tabs s'.heap :=
  ⟨⟨.inl ⟨.bool true, _, _, rfl, hn, .bool true, hp, unshared_nil⟩, fun b o e => f.1 b o (by rw [← e1]; exact e), hos, hg⟩, f.2⟩
end
end Mine
namespace Mine
open PySem PySem.Calls PySem.W PyProof.Rows

/-! parts of a list -/
theorem pick_up {α : Type} (xs : List α) : ∀ c a : Nat, (List.range' a c).filterMap (xs[·]?) = (xs.drop a).take c
  | 0, a => by simp
  | c + 1, a => by
    rw [List.range'_succ, List.filterMap_cons]
    by_cases h : a < xs.length
    · rw [List.getElem?_eq_getElem h]
      simp only
      rw [pick_up xs c (a + 1), List.drop_eq_getElem_cons h, List.take_succ_cons]
    · rw [List.getElem?_eq_none (by omega)]
      simp only
      rw [pick_up xs c (a + 1), List.drop_eq_nil_of_le (by omega), List.drop_eq_nil_of_le (by omega)]
      simp
theorem pick_down {α : Type} (xs : List α) : ∀ c a : Nat, a < xs.length → c ≤ a + 1 → ((List.range c).map fun k => a - k).filterMap (xs[·]?) = ((xs.take (a + 1)).reverse).take c
  | 0, a, _, _ => by simp
  | c + 1, a, h, hc => by
    rw [List.range_succ_eq_map, List.map_cons, List.filterMap_cons, Nat.sub_zero, List.getElem?_eq_getElem h]
    simp only
    rw [List.take_succ_eq_append_getElem h, List.reverse_append, List.reverse_singleton, List.singleton_append, List.take_succ_cons]
    congr 1
    cases c with
    | zero => simp
    | succ c =>
      obtain ⟨b, rfl⟩ : ∃ b, a = b + 1 := ⟨a - 1, by omega⟩
      rw [← pick_down xs (c + 1) b (by omega) (by omega), List.map_map]
      congr 1
      apply List.map_congr_left
      intro k _
      simp only [Function.comp_apply]
      omega

theorem range_up (a b : Nat) : sliceRange (a : Int) (b : Int) 1 = List.range' a (b - a) := by
  unfold sliceRange
  simp only [show (1 : Int) > 0 by decide, if_true]
  have e : (if (a : Int) < (b : Int) then ((b : Int) - (a : Int) + 1 - 1) / 1 else 0).toNat = b - a := by
    by_cases h : (a : Int) < (b : Int)
    · rw [if_pos h, Int.ediv_one]; omega
    · rw [if_neg h]; omega
  rw [e, List.range'_eq_map_range]
  apply List.map_congr_left
  intro k _
  omega
theorem range_down (a : Nat) (b : Int) (hb : -1 ≤ b) : sliceRange (a : Int) b (-1) = (List.range (a - (b + 1).toNat + 1 - (if (a : Int) > b then 0 else a - (b + 1).toNat + 1))).map fun k => a - k := by
  unfold sliceRange
  simp only [show ¬ ((-1 : Int) > 0) by decide, if_false]
  by_cases h : (a : Int) > b
  · rw [if_pos h, if_pos h]
    have e : (((a : Int) - b - -1 - 1) / (- -1)).toNat = a - (b + 1).toNat + 1 - 0 := by
      rw [show (- -1 : Int) = 1 by decide, Int.ediv_one]; omega
    rw [e]
    apply List.map_congr_left
    intro k _
    omega
  · rw [if_neg h, if_neg h]
    simp

theorem pick_from (xs : List Int) (k : Nat) : pickNums xs (some (k : Int)) none none = xs.drop k := by
  unfold pickNums sliceBounds
  simp only [Option.getD_none, show (1 : Int) > 0 by decide, if_true]
  rw [if_neg (by omega)]
  have e : max 0 (min (k : Int) (xs.length : Int)) = ((min k xs.length : Nat) : Int) := by omega
  rw [e, range_up, pick_up]
  by_cases h : k ≤ xs.length
  · rw [Nat.min_eq_left h, List.take_of_length_le (by simp)]
  · rw [Nat.min_eq_right (by omega), List.drop_eq_nil_of_le (by omega), List.drop_eq_nil_of_le (by omega)]; simp
theorem pick_upto (xs : List Int) (k : Nat) : pickNums xs none (some (k : Int)) none = xs.take k := by
  unfold pickNums sliceBounds
  simp only [Option.getD_none, show (1 : Int) > 0 by decide, if_true]
  rw [if_neg (by omega)]
  have e : max 0 (min (k : Int) (xs.length : Int)) = ((min k xs.length : Nat) : Int) := by omega
  rw [e, show (0 : Int) = ((0 : Nat) : Int) by rfl, range_up, pick_up]
  by_cases h : k ≤ xs.length
  · rw [Nat.min_eq_left h]; simp
  · rw [Nat.min_eq_right (by omega), List.take_of_length_le (by simp), List.take_of_length_le (by omega)]; simp
theorem pick_run (xs : List Int) (a b : Nat) : pickNums xs (some (a : Int)) (some (b : Int)) none = (xs.drop a).take (b - a) := by
  unfold pickNums sliceBounds
  simp only [Option.getD_none, show (1 : Int) > 0 by decide, if_true]
  rw [if_neg (by omega), if_neg (by omega)]
  have e : ∀ k : Nat, max 0 (min (k : Int) (xs.length : Int)) = ((min k xs.length : Nat) : Int) := fun k => by omega
  rw [e, e, range_up, pick_up]
  by_cases h : a ≤ xs.length
  · rw [Nat.min_eq_left h]
    by_cases h' : b ≤ xs.length
    · rw [Nat.min_eq_left h']
    · rw [Nat.min_eq_right (by omega), List.take_of_length_le (by simp), List.take_of_length_le (by simp; omega)]
  · rw [show min a xs.length = xs.length by omega, List.drop_eq_nil_of_le (show xs.length ≤ xs.length by omega), List.drop_eq_nil_of_le (show xs.length ≤ a by omega)]; simp
theorem pick_rev (xs : List Int) : pickNums xs none none (some (-1)) = xs.reverse := by
  unfold pickNums sliceBounds
  simp only [Option.getD_some, show ¬ ((-1 : Int) > 0) by decide, if_false]
  cases xs with
  | nil => rfl
  | cons x r =>
    have e : (((x :: r).length : Nat) : Int) - 1 = ((r.length : Nat) : Int) := by simp
    rw [e, range_down _ _ (by decide), if_pos (by omega)]
    rw [pick_down _ _ _ (by simp) (by simp)]
    rw [List.take_of_length_le (by simp), List.take_of_length_le (by simp)]
/-- xs[n:0:-1] -/
theorem pick_back (xs : List Int) (n : Nat) (h : n < xs.length) : pickNums xs (some (n : Int)) (some 0) (some (-1)) = ((xs.take (n + 1)).drop 1).reverse := by
  unfold pickNums sliceBounds
  simp only [Option.getD_some, show ¬ ((-1 : Int) > 0) by decide, if_false]
  rw [if_neg (by omega), if_neg (by omega)]
  have e1 : max (-1) (min (n : Int) ((xs.length : Int) - 1)) = (n : Int) := by omega
  have e2 : max (-1) (min (0 : Int) ((xs.length : Int) - 1)) = 0 := by omega
  rw [e1, e2, range_down _ _ (by decide)]
  by_cases h0 : n = 0
  · subst h0; simp
  · rw [if_pos (by omega), pick_down _ _ _ h (by omega)]
    have e3 : n - ((0 : Int) + 1).toNat + 1 - 0 = n := by simp; omega
    have e4 : (xs.take (n + 1)).length = n + 1 := by rw [List.length_take]; omega
    rw [e3, List.take_reverse, e4, show n + 1 - n = 1 by omega]

/-! what a comprehension does with ints -/
def gI (f : Int → Int) : PV → PV
  | .int i => .int (f i)
  | _ => .int 0
def kI (f : Int → Bool) : PV → Bool
  | .int i => f i
  | _ => false
def kT : PV → Bool := fun _ => true
theorem gI_elem (f : Int → Int) (p : PV) : Elem (gI f p) := by cases p <;> exact .inl ⟨_, rfl⟩
theorem comp_map (xs : List Int) (f : Int → Int) : ((xs.map PV.int).filter kT).map (gI f) = (xs.map f).map PV.int := by
  rw [show (xs.map PV.int).filter kT = xs.map PV.int from List.filter_eq_self.mpr fun _ _ => rfl, List.map_map, List.map_map]; rfl
theorem comp_keep (xs : List Int) (c : Int → Bool) (f : Int → Int) : ((xs.map PV.int).filter (kI c)).map (gI f) = ((xs.filter c).map f).map PV.int := by
  rw [List.filter_map, List.map_map, List.map_map]; rfl
theorem range_items (n : Nat) : ((List.range n).map fun (i : Nat) => PV.int (0 + (i : Int) * 1)) = (li (List.range n)).map PV.int := by
  simp [li]
theorem mem_ints {xs : List Int} {p : PV} (h : p ∈ xs.map PV.int) : ∃ x, x ∈ xs ∧ p = .int x := by
  obtain ⟨x, hx, rfl⟩ := List.mem_map.mp h; exact ⟨x, hx, rfl⟩

theorem Src.up {C : Cfg} {A : Around} {X : List Addr} {d : Nat} (rm : Room A d) (a b : Nat) (h : a ≤ b) (hb : b ≤ 2 ^ 24) : Src C A X (.rg a b 1) ((li (List.range' a (b - a))).map .int) := by
  refine (Src.range rm (small_one (by omega) (by omega) (by omega) (by omega)) (b - a) ?_).eq ?_
  · unfold Builtin.Range.rangeSize
    simp only [show (1 : Int) > 0 by decide, if_true]
    by_cases q : (a : Int) < (b : Int)
    · rw [if_pos q, Int.ediv_one]; omega
    · rw [if_neg q]; omega
  · rw [List.range'_eq_map_range]
    simp only [li, List.map_map]
    apply List.map_congr_left
    intro i _
    simp only [Function.comp_apply]
    congr 1
    omega
theorem Src.upto {C : Cfg} {A : Around} {X : List Addr} {d : Nat} (rm : Room A d) (n : Nat) (hn : n ≤ 2 ^ 24) : Src C A X (.rg 0 n 1) ((li (List.range n)).map .int) := by
  have := Src.up (C := C) (X := X) rm 0 n (Nat.zero_le _) hn
  rwa [Nat.sub_zero, ← List.range_eq_range'] at this

theorem EvAnd.two {C : Cfg} {A : Around} {env : Env} {X : List Addr} {ρ : List (Str × PV)} {e f : Expr} {a b : Bool} (he : Ev C A env X ρ e (.bool a)) (hf : a = true → Ev C A env X ρ f (.bool b)) : EvAnd C A env X ρ [e, f] (a && b) := by
  cases a with
  | false => exact .stop he
  | true => exact .cons he (.one (hf rfl))
end Mine
namespace Mine
open PySem PySem.Calls PySem.W PyProof.Rows
variable {C : Cfg}

def dropZ (ds : List Nat) : List Nat := ds.dropWhile (· == 0)
theorem li_drop (ds : List Nat) (n : Nat) : (li ds).drop n = li (ds.drop n) := by simp [li]
theorem li_take (ds : List Nat) (n : Nat) : (li ds).take n = li (ds.take n) := by simp [li]
theorem sl : sizeLine = 16777216 := rfl
theorem li_int (ds : List Nat) : (li ds).map PV.int = ds.map fun (d : Nat) => PV.int (d : Int) := by simp [li]

theorem apw_int (ds : List Nat) (h : ∀ x ∈ ds, x < 16) : ((apw ds).map fun c => PV.int (c.toNat : Int)) = (li (ds.map (65 + ·))).map PV.int := by
  simp only [apw, li, List.map_map]
  apply List.map_congr_left
  intro x hx
  have := h x hx
  simp only [Function.comp_apply]
  congr 2
  simp [Nat.toUInt8]
  omega
theorem apw_length (ds : List Nat) : (apw ds).length = ds.length := by simp [apw]
theorem back65 (ds : List Nat) : (li (ds.map (65 + ·))).map (· - 65) = li ds := by
  simp only [li, List.map_map]
  apply List.map_congr_left
  intro x _
  simp only [Function.comp_apply]
  omega

theorem hexs_lt (n : Nat) : ∀ x ∈ hexs n, x < 16 := by
  induction n using Nat.strongRecOn with
  | _ n ih =>
    by_cases h : n = 0
    · subst h; rw [hexs_zero]; intro x hx; cases hx
    · rw [hexs_pos h]
      intro x hx
      rcases List.mem_append.mp hx with hx | hx
      · exact ih _ (by omega) x hx
      · rw [List.mem_singleton.mp hx]; omega
/-- figures to the base 16, the lowest first -/
def vl : List Nat → Nat
  | [] => 0
  | d :: r => d + 16 * vl r
theorem val_vl : ∀ ds : List Nat, val 4 (li ds) = (vl ds : Int)
  | [] => rfl
  | d :: r => by
    show (d : Int) + 2 ^ 4 * val 4 (li r) = ((d + 16 * vl r : Nat) : Int)
    rw [val_vl r]; simp
theorem vl_lt : ∀ ds : List Nat, (∀ x ∈ ds, x < 16) → vl ds < 16 ^ ds.length
  | [], _ => by simp [vl]
  | d :: r, h => by
    have h1 := h d (.head _)
    have h2 := vl_lt r fun x hx => h x (.tail _ hx)
    simp only [vl, List.length_cons, Nat.pow_succ]
    omega
theorem li_inj {a b : List Nat} (h : li a = li b) : a = b := by
  induction a generalizing b with
  | nil => cases b with
    | nil => rfl
    | cons => simp [li] at h
  | cons x r ih => cases b with
    | nil => simp [li] at h
    | cons y t =>
      simp only [li, List.map_cons, List.cons.injEq] at h
      rw [ih h.2]; congr 1; omega

theorem vl_append : ∀ a b : List Nat, vl (a ++ b) = vl a + 16 ^ a.length * vl b
  | [], b => by simp [vl]
  | x :: r, b => by
    simp only [List.cons_append, vl, List.length_cons]
    rw [vl_append r b, Nat.mul_add, ← Nat.mul_assoc, Nat.pow_succ, Nat.mul_comm (16 ^ r.length) 16, Nat.add_assoc]
theorem vl_rev_cons (x : Nat) (r : List Nat) : vl (x :: r).reverse = vl r.reverse + 16 ^ r.length * x := by
  rw [List.reverse_cons, vl_append]; simp [vl]
theorem vl_snoc (r : List Nat) (x : Nat) : vl (r ++ [x]).reverse = x + 16 * vl r.reverse := by
  rw [List.reverse_append]; simp [vl]
/-- a number's letters, of its figures -/
theorem hexs_vl : ∀ (k : Nat) (ds : List Nat), ds.length = k → (∀ x ∈ ds, x < 16) → hexs (vl ds.reverse) = dropZ ds := by
  intro k
  induction k with
  | zero => intro ds h _; have : ds = [] := List.length_eq_zero_iff.mp h
            subst this; show hexs 0 = []; exact hexs_zero
  | succ k ih =>
    intro ds h hd
    rcases List.eq_nil_or_concat ds with rfl | ⟨r, x, rfl⟩
    · cases h
    rw [List.concat_eq_append] at *
    have hr : r.length = k := by simpa using h
    have hx : x < 16 := hd x (by simp)
    have ihr := ih r hr fun y hy => hd y (by simp [hy])
    rw [vl_snoc]
    by_cases h0 : x + 16 * vl r.reverse = 0
    · rw [h0, hexs_zero]
      have hx0 : x = 0 := by omega
      have hv0 : vl r.reverse = 0 := by omega
      rw [hv0, hexs_zero] at ihr
      unfold dropZ at ihr ⊢
      rw [List.dropWhile_append, ← ihr, hx0]
      simp
    · rw [hexs_pos h0, show (x + 16 * vl r.reverse) / 16 = vl r.reverse by omega, show (x + 16 * vl r.reverse) % 16 = x by omega, ihr]
      unfold dropZ
      rw [List.dropWhile_append]
      by_cases he : (r.dropWhile (· == 0)).isEmpty = true
      · rw [if_pos he]
        have hz : dropZ r = [] := List.isEmpty_iff.mp he
        have hv0 : vl r.reverse = 0 := by
          have := ihr; rw [hz] at this
          by_cases q : vl r.reverse = 0
          · exact q
          · rw [hexs_pos q] at this; simp at this
        have hx0 : x ≠ 0 := by omega
        have : r.dropWhile (· == 0) = [] := hz
        rw [this, List.dropWhile_cons_of_neg (by simpa using hx0)]; rfl
      · rw [if_neg he]
theorem pad_dropZ (ds : List Nat) : List.replicate (ds.length - (dropZ ds).length) 0 ++ dropZ ds = ds := by
  induction ds with
  | nil => rfl
  | cons x r ih =>
    unfold dropZ at ih ⊢
    by_cases h : x = 0
    · subst h
      rw [List.dropWhile_cons_of_pos (by rfl)]
      have hl : (r.dropWhile (· == 0)).length ≤ r.length := (List.dropWhile_sublist _).length_le
      rw [List.length_cons, show r.length + 1 - (r.dropWhile (· == 0)).length = (r.length - (r.dropWhile (· == 0)).length) + 1 by omega, List.replicate_succ, List.cons_append, ih]
    · rw [List.dropWhile_cons_of_neg (by simpa using h)]; simp

def hexF : Nat → Nat → List Nat
  | 0, _ => []
  | k + 1, n => if n = 0 then [] else hexF k (n / 16) ++ [n % 16]
theorem hexF_eq : ∀ k n, n < 16 ^ k → hexF k n = hexs n
  | 0, n, h => by have : n = 0 := by simpa using h
                  subst this; rw [hexs_zero]; rfl
  | k + 1, n, h => by
    unfold hexF
    by_cases h0 : n = 0
    · rw [if_pos h0, h0, hexs_zero]
    · rw [if_neg h0, hexs_pos h0, hexF_eq k (n / 16) (by rw [Nat.pow_succ] at h; omega)]
/-! a figure's like beside it -/
def nbr (xs : List Int) (i : Nat) : List Int := (xs.drop (i - 1)).take (i - (i - 1)) ++ (xs.drop (i + 1)).take 1
def loneB (xs : List Int) (i : Int) : Bool := !((nbr xs i.toNat).any (· == xs.getD i.toNat 0))
def pairedB (xs : List Int) : Bool := decide (xs = xs.reverse) && decide ((li (List.range xs.length)).filter (loneB xs) = [])

end Mine
namespace Mine
open PySem PySem.Calls PySem.W PyProof.Rows PyProof.V PySem.Spec
variable {C : Cfg}

/-! octets, the last one first -/
theorem sliced_rev (b : Array UInt8) : Builtin.Bytes.sliced b ((b.size : Int) - 1) (-1) (-1) = b.reverse := by
  unfold Builtin.Bytes.sliced
  obtain ⟨l⟩ := b
  cases l with
  | nil => rfl
  | cons x r =>
    have e : (((⟨x :: r⟩ : Array UInt8).size : Nat) : Int) - 1 = ((r.length : Nat) : Int) := by simp
    rw [e, range_down _ _ (by decide), if_pos (by omega)]
    have h := pick_down (x :: r) (r.length - ((-1 : Int) + 1).toNat + 1 - 0) r.length (by simp) (by simp)
    have e2 : ∀ l : List Nat, l.filterMap (fun i => (⟨x :: r⟩ : Array UInt8)[i]?) = l.filterMap ((x :: r)[·]?) := fun l => by
      congr 1
      funext i
      simp
    rw [e2, h, List.take_of_length_le (by simp), List.take_of_length_le (by simp)]
    simp
namespace Rv
open Builtin
theorem meets_rev (b : Array UInt8) (t u : Tok) (a : Addr) :
    Meets («bytes.__getitem__» ⟨[.bytes b t, .ref a], []⟩) (fun _ R s => s.heap.IsSliceOf a .none .none (.int (-1) u) ∧ b.size ≤ sizeLine ∧ R (.ok (.ret (.bytes b.reverse s.toks))) { s with toks := s.toks + 1 }) := by
  refine .of_wp fun prog w A R s hS => ?_
  obtain ⟨⟨o, ho, hc, hd⟩, hsz, h⟩ := hS
  have hT : s.TypeIs (.ref a) "slice" := ⟨o, ho, hc⟩
  show wpAny _ _ (Bytes.payload (.bytes b t) >>= fun r => _) _ _ s
  refine wpAny_bind (wpAny_of_eq (a := b) rfl ?_)
  show wpAny _ _ (Bytes.subscript? (.ref a) >>= fun r => _) _ _ s
  refine wpAny_bind ?_
  unfold Bytes.subscript?
  refine wpAny_bind (wpAny_specialOf hT slice_no_index (wpAny_pure ?_))
  refine wpAny_bind (wpAny_typeOf hT ?_)
  show wpAny _ _ (Bytes.sliceParts (.ref a) >>= fun r => _) _ _ s
  refine wpAny_bind ?_
  unfold Bytes.sliceParts
  refine wpAny_bind (wpAny_field (x := .int (-1) u) ho hd rfl ?_)
  kby_int
  refine wpAny_ite (KBy.ite_no (show ¬ ((rawInt (-1) == rawInt 0) = true) by decide) ?_)
  refine wpAny_bind (wpAny_field (x := .none) ho hd rfl ?_)
  kby_none
  refine wpAny_bind (wpAny_field (x := .none) ho hd rfl ?_)
  kby_none
  refine wpAny_pure ?_
  have go : wpAny (model prog w) A.in1 (sliceIndices (rawPart none) (rawPart none) (rawPart (some (-1))) b.size) (fun r s' => r = sliceBounds none none (some (-1)) b.size ∧ s' = s) (fun _ _ => False) s :=
    wpAny_of_eq (sliceIndices_raw none none (some (-1)) b.size (fun e => nomatch e)) ⟨rfl, rfl⟩
  refine wpAny_bind (wpAny_mono go (fun r s' hr => ?_) fun _ _ e => e.elim)
  obtain ⟨hr1, hr2⟩ := hr
  subst hr1 hr2
  refine wpAny_ite (KBy.ite_no ?_ ?_)
  · simp [sliceBounds]
  · refine wpAny_bind (wpAny_mkBytes (wpAny_pure ⟨_, rfl, ?_⟩) ?_)
    · show R (.ok (.ret (.bytes (Bytes.sliced b ((b.size : Int) - 1) (-1) (-1)) s'.toks))) _
      rw [sliced_rev]; exact h
    · show (Bytes.sliced b ((b.size : Int) - 1) (-1) (-1)).size ≤ _
      rw [sliced_rev]; simpa using hsz
end Rv

section
variable {A : Around} {env : Env} {X : List Addr} {ρ : List (Str × PV)} {g0 : Heap}

theorem Ev.revBytes {value : Expr} {st : Expr} {b : List UInt8} {p pos : Pos} (hv : Ev C A env X ρ value (.bytes b)) (hs : Ev C A env X ρ st (.int (-1))) (hz : b.length ≤ sizeLine) :
    Ev C A env X ρ (.Subscript value (.Slice none none (some st) p) pos) (.bytes b.reverse) :=
  slice_run hv .none .none (.some hs) FB.slot_bytes_getitem.lookup (fun s v r => by obtain ⟨t, rfl⟩ := r; exact PySem.W.typeIs_bytes _ _ _) fun s Q E v vl vu vs sl o lv r p1 p2 p3 hs k => by
    obtain ⟨t, rfl⟩ := r
    cases p1
    cases p2
    cases p3 with
    | int _ u =>
      refine getItem_meets (PySem.W.typeIs_bytes _ _ _) (by decide) FB.slot_bytes_getitem FB.entry_bytes_getitem (FB.args_bytes_getitem_2 _ _) (Rv.meets_rev b.toArray t u sl) ⟨hs, by simpa using hz, ?_⟩
      exact k _ s.heap _ (Kp.refl _) o ⟨s.toks, by simp⟩
theorem Tr.bytes {b : List UInt8} (hz : b.length ≤ sizeLine) : Tr C A X (.bytes b) (!b.isEmpty) := by
  rintro s Q E x o ⟨t, rfl⟩ k
  have hz' : b.length ≤ 16777216 := hz
  refine KBw.truthy_K rfl (by rw [KBw.ints_length]; simp; omega) ?_
  have e : decide (0 < (KBw.bInts b.toArray).length) = !b.isEmpty := by
    rw [KBw.ints_length]; cases b <;> simp
  rw [e]; exact k _
theorem Op2.itemBytes {b : List UInt8} {k : Int} {x : UInt8} (h0 : 0 ≤ k) (hx : b[k.toNat]? = some x) (hz : b.length ≤ sizeLine) : Op2 C A X getItem (.bytes b) (.int k) (.int (x.toNat : Int)) := by
  rintro s Q E v y o lv ⟨t, rfl⟩ ⟨u, rfl⟩ kk
  have hz' : b.length ≤ 16777216 := hz
  have hlt : k.toNat < b.length := by
    rcases Nat.lt_or_ge k.toNat b.length with h | h
    · exact h
    · rw [List.getElem?_eq_none h] at hx; cases hx
  refine getItem_bytes (by omega) h0 (by omega) ?_
  rw [List.getD_eq_getElem?_getD, hx]
  exact kk _ s.heap _ (Kp.refl _) o ⟨s.toks, rfl⟩
theorem Ev.itemBytes {value slice : Expr} {b : List UInt8} {k : Int} {x : UInt8} {pos : Pos} (hv : Ev C A env X ρ value (.bytes b)) (hs : Ev C A env X ρ slice (.int k)) (h0 : 0 ≤ k) (hx : b[k.toNat]? = some x) (hz : b.length ≤ sizeLine) : Ev C A env X ρ (.Subscript value slice pos) (.int (x.toNat : Int)) :=
  Ev.sub hv hs FB.slot_bytes_getitem.lookup (fun s v r => by obtain ⟨t, rfl⟩ := r; exact PySem.W.typeIs_bytes _ _ _) (Op2.itemBytes h0 hx hz)

/-! tuples in a list -/
theorem Op2.itemTL {xss : List (List Int)} {xs : List Int} {k : Int} (h0 : 0 ≤ k) (hx : xss[k.toNat]? = some xs) (hz : xss.length ≤ sizeLine) : Op2 C A X getItem (.tl xss) (.int k) (.it xs) := by
  rintro s Q E v y o lv ⟨a, vs, rfl, _, hl, hi⟩ ⟨u, rfl⟩ kk
  have hz' : xss.length ≤ 16777216 := hz
  have hlt : k.toNat < xss.length := by
    rcases Nat.lt_or_ge k.toNat xss.length with h | h
    · exact h
    · rw [List.getElem?_eq_none h] at hx; cases hx
  have hlv : k.toNat < vs.length := by rw [hi.length]; exact hlt
  have hv : vs[k.toNat]? = some vs[k.toNat] := List.getElem?_eq_getElem hlv
  obtain ⟨ys, e, rt⟩ := hi.get _ _ hv
  rw [hx] at e; cases e
  exact wpAny_getItem_list hl.isList h0 (by omega) (by simpa using hv) (kk _ s.heap s.toks (Kp.refl _) o rt)
theorem tl_type {xss : List (List Int)} (s : Shared) (v : Value) (r : Rep X s.heap v (.tl xss)) : s.TypeIs v "list" := by
  obtain ⟨a, vs, rfl, _, hl, _⟩ := r; exact hl.isList.typeIs
theorem it_type {xs : List Int} (s : Shared) (v : Value) (r : Rep X s.heap v (.it xs)) : s.TypeIs v "tuple" := by
  obtain ⟨a, vs, rfl, ⟨n, ho⟩, _⟩ := r; exact ⟨_, ho, rfl⟩
theorem Ev.itemTL {value slice : Expr} {xss : List (List Int)} {xs : List Int} {k : Int} {pos : Pos} (hv : Ev C A env X ρ value (.tl xss)) (hs : Ev C A env X ρ slice (.int k)) (h0 : 0 ≤ k) (hx : xss[k.toNat]? = some xs) (hz : xss.length ≤ sizeLine) : Ev C A env X ρ (.Subscript value slice pos) (.it xs) :=
  Ev.sub hv hs list_getitem_lookup tl_type (Op2.itemTL h0 hx hz)
theorem Ev.itemT {value slice : Expr} {xs : List Int} {k x : Int} {pos : Pos} (hv : Ev C A env X ρ value (.it xs)) (hs : Ev C A env X ρ slice (.int k)) (h0 : 0 ≤ k) (hx : xs[k.toNat]? = some x) (hz : xs.length ≤ sizeLine) : Ev C A env X ρ (.Subscript value slice pos) (.int x) :=
  Ev.sub hv hs F.slot_tuple_getitem.lookup it_type (Op2.itemT h0 hx hz)

theorem reads_all {h : Heap} : ∀ {vs : List Value} {xss : List (List Int)}, AllTup h vs xss → ReadsAll h vs (xss.map fun xs => PyData.tuple (xs.map PyData.int)) []
  | _, _, .nil => .nil
  | _, _, .cons r t => by
    have := ReadsAll.cons (reads_tup r) (reads_all t)
    simpa using this
theorem canLay_tups : ∀ xss : List (List Int), PyData.canLayAll0 (xss.map fun xs => PyData.tuple (xs.map PyData.int)) = true
  | [] => by simp [PyData.canLayAll0]
  | n :: r => by simp [PyData.canLayAll0, PyData.canLay0, canLayAll0_ints, canLay_tups r]
theorem depth_tups : ∀ xss : List (List Int), PyData.depthAll (xss.map fun xs => PyData.tuple (xs.map PyData.int)) ≤ 3
  | [] => by simp [PyData.depthAll]
  | n :: r => by
    have := depth_tups r
    have := W.depthAll_ints n
    simp only [List.map_cons, PyData.depthAll, PyData.depth]
    omega
theorem shaped_tups (xss : List (List Int)) : SeqAt.shaped (.list (xss.map fun xs => PyData.tuple (xs.map PyData.int))) = true := by
  have h1 := depth_tups xss
  have h2 : PyData.depth (.list (xss.map fun xs => PyData.tuple (xs.map PyData.int))) ≤ 64 := by simp only [PyData.depth]; omega
  show (PyData.canLay0 (.list (xss.map fun xs => PyData.tuple (xs.map PyData.int))) && decide (PyData.depth (.list (xss.map fun xs => PyData.tuple (xs.map PyData.int))) ≤ 64)) = true
  rw [Bool.and_eq_true]
  exact ⟨by simp only [PyData.canLay0]; exact canLay_tups xss, decide_eq_true h2⟩
/-- a list of tuples beside the empty list -/
theorem Op2.eqNil {xss : List (List Int)} {d : Nat} (r : Room A d) : Op2 C A X (compareOp .Eq) (.tl xss) (.il []) (.bool (decide (xss = []))) := by
  rintro s Q E x y o lv ⟨a, vs, rfl, _, ⟨n, hl⟩, hi⟩ ⟨b, us, rfl, _, ⟨m, hl'⟩, hi'⟩ k
  have hi2 := hi'.nil_inv
  subst hi2
  have ra := Reads.list hl rfl rfl (by simpa using reads_all hi)
  have rb : Reads s.heap (.ref b) (.list []) [b] := Reads.list hl' rfl rfl (by simpa using ReadsAll.nil)
  refine eq_dataH_same ra rb (shaped_tups xss) (shaped_tups []) r.units64 ?_ ?_
  · cases xss <;> simp [SeqAt.noMix, SeqAt.noMixAll]
  · have e : PySem.Spec.same (.list (xss.map fun xs => PyData.tuple (xs.map PyData.int))) (.list []) = decide (xss = []) := by
      cases xss <;> simp [PySem.Spec.same, PySem.Spec.sameAll]
    rw [e]
    exact k (.bool (decide (xss = []))) s.heap s.toks (Kp.refl _) o rfl
theorem Tst.eqNil {x : Str} {xp lp pos : Pos} {xss : List (List Int)} {d : Nat} (r : Room A d) (h : Ev C A env X ρ (.Name x xp) (.tl xss)) : Ev C A env X ρ (.Compare (.Name x xp) [.Eq] [.List [] lp] pos) (.bool (decide (xss = []))) :=
  Ev.cmp h (Ev.list (xs := []) .nil rfl (by decide)) (Op2.eqNil r)

/-! what a comprehension does with tuples -/
def gT (f : Int → List Int) : PV → PV
  | .int i => .it (f i)
  | _ => .int 0
theorem gT_elem (f : Int → List Int) (p : PV) : Elem (gT f p) := by cases p <;> first | exact .inr ⟨_, rfl⟩ | exact .inl ⟨_, rfl⟩
theorem comp_tups (xs : List Int) (f : Int → List Int) : ((xs.map PV.int).filter kT).map (gT f) = (xs.map f).map PV.it := by
  rw [show (xs.map PV.int).filter kT = xs.map PV.int from List.filter_eq_self.mpr fun _ _ => rfl, List.map_map, List.map_map]; rfl
def kP (f : List Int → Bool) : PV → Bool
  | .it xs => f xs
  | _ => false
def gP (f : List Int → Int) : PV → PV
  | .it xs => .int (f xs)
  | _ => .int 0
def gPP : PV → PV
  | .it xs => .it xs
  | _ => .int 0
theorem gP_elem (f : List Int → Int) (p : PV) : Elem (gP f p) := by cases p <;> exact .inl ⟨_, rfl⟩
theorem gPP_elem (p : PV) : Elem (gPP p) := by cases p <;> first | exact .inr ⟨_, rfl⟩ | exact .inl ⟨_, rfl⟩
theorem comp_pair (xss : List (List Int)) (f : List Int → Int) : ((xss.map PV.it).filter kT).map (gP f) = (xss.map f).map PV.int := by
  rw [show (xss.map PV.it).filter kT = xss.map PV.it from List.filter_eq_self.mpr fun _ _ => rfl, List.map_map, List.map_map]; rfl
theorem comp_odd (xss : List (List Int)) (c : List Int → Bool) : ((xss.map PV.it).filter (kP c)).map gPP = (xss.filter c).map PV.it := by
  rw [List.filter_map, List.map_map]; rfl
theorem mem_its {xss : List (List Int)} {p : PV} (h : p ∈ xss.map PV.it) : ∃ x, x ∈ xss ∧ p = .it x := by
  obtain ⟨x, hx, rfl⟩ := List.mem_map.mp h; exact ⟨x, hx, rfl⟩
end
end Mine
open PySem PySem.W PyProof.Rows
set_option maxHeartbeats 8000000
namespace Mine
open_top hd for PySem.Challenge.rw_pe0116_03
end Mine
namespace Mine
open PySem PySem.Calls PySem.W PyProof.Rows
variable {C : Cfg}

def nests : List Nest := [⟨34, 30, 32, 4, "_int2digits.<locals>.inner"⟩, ⟨41, 37, 47, 4, "_digits2int.<locals>.inner"⟩]

set_option maxHeartbeats 1000000 in
theorem d2i (hK : C.K = hd.heap_39 C.w.params) (N : NestOk C nests) {A : Around} {d : Nat} (rm : Room A (d + 1)) (ds : List Int) (n : Nat) (hdp : ds.length + 2 ≤ d) (hn : 1 ≤ n) (hn' : n ≤ 1000) (hb : ∀ x ∈ ds, x.natAbs < 2 ^ 500) (hlen : ds.length ≤ 500) :
    Cal C A (.ref 42) [.il ds, .int n] (.int (val n ds)) := by
  refine Cal.fn rm ["digits", "n"] ((congrArg _ hK).trans rfl) (by rw [hK]; rfl) ?_ rfl (by decide) rfl rfl rfl rfl rfl ?_
  · intro vs h; rcases vs with _ | ⟨a, _ | ⟨b, _ | ⟨c, r⟩⟩⟩ <;> first | rfl | (simp at h)
  intro X L g0 s Q E rm' S k
  generalize A.deeper _ = A' at rm' S ⊢
  have gLen : GlobIs C "len" (.builtin "len") := globB (by rw [hK]; rfl) (by boot_fast) (by decide)
  refine do_def (q := ⟨41, 37, 47, 4, "_digits2int.<locals>.inner"⟩) [("n", L + 2), ("inner", L + 3), ("digits", L + 1)] N (.tail _ (.head _)) S (.inr ⟨rfl, rfl⟩) (fun f fd h1 t1 hfd S => ?_) rfl (List.cons_ne_nil _ _) rfl rfl rfl rfl
  have key : ∀ (k : Nat) (A : Around) (a b : Nat), b - a ≤ k → a < b → b ≤ ds.length → Room A (k + 1) → ∀ (s : Shared) (Q : Value → Shared → Prop) (E : Value → Shared → Prop) (vs : List Value), Ok C s.heap → Live C A X s.heap →
      Clo X s.heap [("n", L + 2), ("inner", L + 3), ("digits", L + 1)] [("digits", .il ds), ("inner", .fn f fd), ("n", .int n)] → Reps X s.heap vs [.int a, .int b] →
      (∀ v h' tk, Kp C s.heap h' → Ok C h' → Rep X h' v (.int (val n ((ds.drop a).take (b - a)))) → Q v { s with heap := h', toks := tk }) → wpAny C.M A (call (.ref f) vs) Q E s := by
    intro k
    induction k with
    | zero => intro A a b h1 h2; omega
    | succ k ih =>
      intro A a b h1 h2 h3 rm s Q E vs o lv clo rs kk
      obtain ⟨doc, pm, ctv, c', rfl⟩ := id hfd
      obtain ⟨_, _, _, _, _, fo⟩ := clo "inner" _ rfl
      refine clo_call (ρc := [("digits", .il ds), ("inner", .fn f _), ("n", .int n)]) (ps := [.int a, .int b]) rm ["L", "R"] s.heap (fun v h' => Kp C s.heap h' ∧ Ok C h' ∧ Rep X h' v (.int (val n ((ds.drop a).take (b - a))))) o lv fo rs clo o (Kp.refl _) lv.stk
        ?_ (by simp) rfl ?_ rfl (by decide) rfl rfl rfl rfl rfl rfl (fun v h' tk ⟨p1, p2, p3⟩ => kk v h' tk p1 p2 p3) ?_
      · exact .plain' rfl
      · intro vs h; rcases vs with _ | ⟨a, _ | ⟨b, _ | ⟨c, r⟩⟩⟩ <;> first | rfl | (simp at h)
      intro L' s' Q' E' rm' S kr kn
      generalize A.deeper _ = A' at rm' S ⊢
      by_cases hq : a + 1 = b
      · refine do_ifT S ((Tst.cmp (Ev.binop (Ev.name rfl) Ev.int Op2.add) (Ev.name rfl) Op2.eq).eq ?_) fun h2 t2 S => ?_
        · simp; omega
        obtain ⟨x, hx⟩ : ∃ x, ds[a]? = some x := ⟨ds[a], by simp [show a < ds.length by omega]⟩
        refine do_return S (Ev.item (Ev.name rfl) LI.il (Ev.name rfl) (by omega) (x := x) (by simpa using hx) (by have : sizeLine = 16777216 := rfl; omega)) fun v h' tk kp ok r => kr v h' tk ⟨kp, ok, rep_eq r ?_⟩
        rw [show b - a = 1 by omega, take_one hx]; simp [val]
      · refine do_ifF0 S ((Tst.cmp (Ev.binop (Ev.name rfl) Ev.int Op2.add) (Ev.name rfl) Op2.eq).eq ?_) fun h2 t2 S => ?_
        · simp; omega
        refine do_assign S ((Ev.binop (Ev.binop (Ev.name rfl) (Ev.name rfl) Op2.add) Ev.int (Op2.shr (by decide))).eq (congrArg PV.int (half_int a b))) (.inl rfl) fun h3 t3 S => ?_
        refine do_assign S (Ev.binop (Ev.binop (Ev.name rfl) (Ev.name rfl) Op2.sub) (Ev.name rfl) (Op2.mul ?_)) (.inl rfl) fun h4 t4 S => ?_
        · exact mulOk (k := 10) (by omega) (by omega) (by omega)
        refine do_return S (Ev.binop (Ev.binop (Ev.callClo rfl (.cons (Ev.name rfl) (.cons (Ev.name rfl) .nil)) (fun s Q E vs c o lv rs kk => ih A' ((a + b) / 2) b ?_ ?_ ?_ rm' s Q E vs o lv (.cons (c.clo rfl (.inr rfl) rfl) (.cons (c.clo rfl (.inr rfl) rfl) (.cons (c.clo rfl (.inr rfl) rfl) .nil))) rs kk)) (Ev.name rfl) (Op2.shl ?_ ?_))
          (Ev.callClo rfl (.cons (Ev.name rfl) (.cons (Ev.name rfl) .nil)) (fun s Q E vs c o lv rs kk => ih A' a ((a + b) / 2) ?_ ?_ ?_ rm' s Q E vs o lv (.cons (c.clo rfl (.inr rfl) rfl) (.cons (c.clo rfl (.inr rfl) rfl) (.cons (c.clo rfl (.inr rfl) rfl) .nil))) rs kk)) Op2.add) fun v h' tk kp ok r => kr v h' tk ⟨kp, ok, rep_eq r ?_⟩
        · omega
        · omega
        · omega
        · exact Int.mul_nonneg (by omega) (by omega)
        · have e1 := bits_le (part_lt hn hb ((a + b) / 2) (b - (a + b) / 2))
          have e2 : n * ds.length ≤ 1000 * 500 := Nat.mul_le_mul hn' hlen
          have e3 : ((((a + b) / 2 : Nat) : Int) - (a : Int)) * (n : Int) ≤ 500 * 1000 := Int.mul_le_mul (by omega) (by omega) (by omega) (by omega)
          omega
        · omega
        · omega
        · omega
        · rw [val_split n ds (by omega) (by omega) (by omega)]
  refine do_return S (Ev.ifte (Tst.value (Ev.name rfl) (Tr.list LI.il ?_)) (fun q => Ev.callClo (r := .int (val n ((ds.drop 0).take (ds.length - 0)))) rfl (.cons Ev.int (.cons (Ev.callBi gLen (.cons (Ev.name rfl) .nil) (Cal.len .il ?_)) .nil)) ?_) fun q => Ev.int) fun v h' tk kp ok r => k v h' tk kp ok (rep_eq r ?_)
  · have : sizeLine = 16777216 := rfl; omega
  · have : sizeLine = 16777216 := rfl; omega
  · intro s Q E vs c o lv rs kk
    have hne : ds ≠ [] := by simpa using q
    have : 0 < ds.length := List.length_pos_iff.mpr hne
    exact key ds.length A' 0 ds.length (by omega) this (Nat.le_refl _) (rm'.le (by omega)) s Q E vs o lv (.cons (c.clo rfl (.inl rfl) rfl) (.cons (c.clo rfl (.inl rfl) rfl) (.cons (c.clo rfl (.inl rfl) rfl) .nil))) rs kk
  · cases ds with
    | nil => rfl
    | cons x r => simp
end Mine
namespace Mine
open PySem PySem.Calls PySem.W PyProof.Rows
variable {C : Cfg}

set_option maxHeartbeats 1000000 in
theorem i2d (hK : C.K = hd.heap_39 C.w.params) (N : NestOk C nests) {A : Around} {d : Nat} (rm : Room A (d + 1)) (x n : Nat) (hx : x < 2 ^ 200) (hn : 1 ≤ n) (hn' : n ≤ 1000) (hdp : 210 ≤ d) :
    Cal C A (.ref 35) [.int x, .int n] (.il (li (figs n ((Builtin.Int.intBits x + n - 1) / n) x))) := by
  have hbits := bits_le (x := (x : Int)) (k := 200) (by simpa using hx)
  have hkl : (Builtin.Int.intBits x + n - 1) / n ≤ 200 := by
    rw [Nat.div_le_iff_le_mul_add_pred (by omega)]
    have : n * 200 ≥ 200 := by omega
    have := Nat.mul_le_mul hn (Nat.le_refl 200)
    omega
  refine Cal.fn rm ["a", "n"] ((congrArg _ hK).trans rfl) (by rw [hK]; rfl) ?_ rfl (by decide) rfl rfl rfl rfl rfl ?_
  · intro vs h; rcases vs with _ | ⟨a, _ | ⟨b, _ | ⟨c, r⟩⟩⟩ <;> first | rfl | (simp at h)
  intro X L g0 s Q E rm' S k
  generalize A.deeper _ = A' at rm' S ⊢
  have gLen : GlobIs C "len" (.builtin "len") := globB (by rw [hK]; rfl) (by boot_fast) (by decide)
  generalize hkk : (Builtin.Int.intBits x + n - 1) / n = kl at *
  have hfd : ((Builtin.Int.intBits (x : Int) : Int) + (n : Int) - 1).fdiv (n : Int) = (kl : Int) := by
    rw [Int.fdiv_eq_ediv_of_nonneg _ (by omega), ← hkk]
    have : (Builtin.Int.intBits (x : Int) : Int) + (n : Int) - 1 = ((Builtin.Int.intBits (x : Int) + n - 1 : Nat) : Int) := by omega
    rw [this]; simp
  refine do_own S (EvN.mul (x := kl) (Ev.list (xs := [0]) (.cons Ev.int .nil) rfl (by decide)) ((Ev.binop (Ev.binop (Ev.binop (Ev.bitlen (Ev.name rfl)) (Ev.name rfl) Op2.add) Ev.int Op2.sub) (Ev.name rfl) (Op2.fdiv ?_ ?_)).eq (congrArg PV.int hfd)) LI.il ?_ ?_ ?_) rfl (.inr ⟨rfl, rfl⟩) fun D h1 t1 hD S => ?_
  · omega
  · exact noPy (k := 10) (by omega) (by omega)
  · omega
  · omega
  · simp; omega
  have e0 : (List.replicate ((kl : Int)).toNat [(0 : Int)]).flatten = List.replicate kl 0 := by
    rw [Int.toNat_natCast]; exact zeros kl
  rw [e0] at S
  refine do_def (q := ⟨34, 30, 32, 4, "_int2digits.<locals>.inner"⟩) [("n", L + 1), ("inner", L + 3), ("a_digits", L + 2)] N (.head _) S (.inr ⟨rfl, rfl⟩) (fun f fd h1 t1 hfd S => ?_) rfl (List.cons_ne_nil _ _) rfl rfl rfl rfl
  have hg : C.g.get? D = none := S.nog (S.own.new "a_digits" D _ rfl)
  have key : ∀ (k : Nat) (A : Around) (y a b : Nat) (xs : List Int), b - a ≤ k → a < b → b ≤ xs.length → xs.length ≤ 200 → y < 2 ^ (n * (b - a)) → y < 2 ^ 200 → Room A (k + 1) →
      ∀ (s : Shared) (Q : Value → Shared → Prop) (E : Value → Shared → Prop) (vs : List Value), Ok C s.heap → Live C A (D :: X) s.heap →
      Clo (D :: X) s.heap [("n", L + 1), ("inner", L + 3), ("a_digits", L + 2)] [("a_digits", .own D xs), ("inner", .fn f fd), ("n", .int n)] → Reps (D :: X) s.heap vs [.int y, .int a, .int b] →
      (∀ v h' tk, KpB C D s.heap h' → Ok C h' → (∃ ws : List Value, h'.PlainList D ws.toArray ∧ IntsAre ws (put xs a (figs n (b - a) y))) → Q v { s with heap := h', toks := tk }) → wpAny C.M A (call (.ref f) vs) Q E s := by
    intro k
    induction k with
    | zero => intro A y a b xs h1 h2; omega
    | succ k ih =>
      intro A y a b xs q1 q2 q3 q4 q5 q6 rm s Q E vs o lv clo rs kk
      obtain ⟨doc, pm, ctv, c', rfl⟩ := id hfd
      obtain ⟨_, _, _, _, _, fo⟩ := clo "inner" _ rfl
      obtain ⟨_, _, _, _, ws, rfl, _, hpl, _⟩ := clo "a_digits" _ rfl
      refine clo_call (ρc := [("a_digits", .own D xs), ("inner", .fn f _), ("n", .int n)]) (ps := [.int y, .int a, .int b]) rm ["x", "L", "R"] (hideAll s.heap [D])
        (fun v h' => KpB C D s.heap h' ∧ Ok C h' ∧ (∃ ws : List Value, h'.PlainList D ws.toArray ∧ IntsAre ws (put xs a (figs n (b - a) y)))) o lv fo rs clo (hide_ok o hpl hg) hide_kp (hide_stk lv.stk hpl)
        ?_ (by simp) rfl ?_ rfl (by decide) rfl rfl rfl rfl rfl rfl (fun v h' tk ⟨p1, p2, p3⟩ => kk v h' tk p1 p2 p3) ?_
      · refine OwnOk.sub (ρ := [("a_digits", .own D xs), ("inner", .fn f _), ("n", .int n), ("x", .int y), ("L", .int a), ("R", .int b)]) ((OwnOk.plain' rfl).add (hideAll_none _ (.head _)) ?_) (lk_cons rfl (lk_cons rfl (lk_cons rfl (lk_cons rfl (lk_cons rfl (lk_cons rfl lk_nil))))))
        intro z zs e
        exact PV.plain_ne (List.all_eq_true.mp (show (([("inner", .fn f _), ("n", .int n), ("x", .int y), ("L", .int a), ("R", .int b)] : List (Str × PV)).all fun y => y.2.plain) = true from rfl) _ (mem_of_lookup e)) D zs rfl
      · intro vs h; rcases vs with _ | ⟨a, _ | ⟨b, _ | ⟨c, _ | ⟨c, r⟩⟩⟩⟩ <;> first | rfl | (simp at h)
      intro L' s' Q' E' rm' S kr kn
      generalize A.deeper _ = A' at rm' S ⊢
      by_cases hq : a + 1 = b
      · refine do_ifT S ((Tst.cmp (Ev.binop (Ev.name rfl) Ev.int Op2.add) (Ev.name rfl) Op2.eq).eq ?_) fun h2 t2 S => ?_
        · simp; omega
        refine do_setitem S rfl (Ev.name rfl) (Ev.name rfl) (by omega) (by omega) (by have : sizeLine = 16777216 := rfl; omega) fun h3 t3 S => ?_
        rw [if_neg (by omega), Int.toNat_natCast, put_one (by omega)] at S
        refine do_returnNone S (kr .none h3 t3 ⟨hide_back S.kp, S.ok, ?_⟩)
        have e1 : b - a = 1 := by omega
        rw [e1, Nat.mul_one] at q5
        rw [e1, figs_one _ _ q5]
        exact S.list (x := "a_digits") rfl
      · generalize hm : (a + b) / 2 = m
        have m1 : a < m := by omega
        have m2 : m < b := by omega
        have e1 : ((m : Int) - (a : Int)) * (n : Int) = ((n * (m - a) : Nat) : Int) := by
          have : ((m : Int) - (a : Int)) = ((m - a : Nat) : Int) := by omega
          rw [this, ← Int.natCast_mul, Nat.mul_comm]
        have hsh : n * (m - a) ≤ 1000 * 200 := Nat.mul_le_mul hn' (by omega)
        refine do_ifF0 S ((Tst.cmp (Ev.binop (Ev.name rfl) Ev.int Op2.add) (Ev.name rfl) Op2.eq).eq ?_) fun h2 t2 S => ?_
        · simp; omega
        refine do_assign S ((Ev.binop (Ev.binop (Ev.name rfl) (Ev.name rfl) Op2.add) Ev.int (Op2.shr (by decide))).eq (congrArg PV.int ((half_int a b).trans (congrArg _ hm)))) (.inl rfl) fun h3 t3 S => ?_
        refine do_assign S ((Ev.binop (Ev.binop (Ev.name rfl) (Ev.name rfl) Op2.sub) (Ev.name rfl) (Op2.mul (mulOk (k := 10) (by omega) (by omega) (by omega)))).eq (congrArg PV.int e1)) (.inl rfl) fun h4 t4 S => ?_
        have e2 : ((y : Int)).fdiv (2 ^ (((n * (m - a) : Nat) : Int)).toNat) = ((y / 2 ^ (n * (m - a)) : Nat) : Int) := by rw [Int.toNat_natCast]; exact shr_nat _ _
        refine do_assign S ((Ev.binop (Ev.name rfl) (Ev.name rfl) (Op2.shr (by omega))).eq (congrArg PV.int e2)) (.inl rfl) fun h5 t5 S => ?_
        have q7 : y / 2 ^ (n * (m - a)) < 2 ^ 200 := Nat.lt_of_le_of_lt (Nat.div_le_self _ _) q6
        have e3 : Builtin.bitXor (y : Int) (((y / 2 ^ (n * (m - a)) : Nat) : Int) * 2 ^ (((n * (m - a) : Nat) : Int)).toNat) = ((y % 2 ^ (n * (m - a)) : Nat) : Int) := by rw [Int.toNat_natCast]; exact bitXor_top _ _
        refine do_assign S ((Ev.binop (Ev.name rfl) (Ev.binop (Ev.name rfl) (Ev.name rfl) (Op2.shl (by omega) ?_)) Op2.xor).eq (congrArg PV.int e3)) (.inl rfl) fun h6 t6 S => ?_
        · have := bits_le (x := ((y / 2 ^ (n * (m - a)) : Nat) : Int)) (k := 200) (by rw [Int.natAbs_natCast]; exact q7)
          omega
        have e4 : n * (b - a) = n * (m - a) + n * (b - m) := by rw [← Nat.mul_add]; congr 1; omega
        have r1 : y % 2 ^ (n * (m - a)) < 2 ^ (n * (m - a)) := Nat.mod_lt _ (Nat.two_pow_pos _)
        have r2 : y / 2 ^ (n * (m - a)) < 2 ^ (n * (b - m)) := by
          rw [e4, Nat.pow_add] at q5
          exact Nat.div_lt_of_lt_mul q5
        refine do_callMut (x := "a_digits") S rfl rfl (.cons (Ev.name rfl) (.cons (Ev.name rfl) (.cons (Ev.name rfl) .nil))) (ys := put xs a (figs n (m - a) (y % 2 ^ (n * (m - a))))) (fun s' Q' E' vs S rs kk => ih A' _ a m xs (by omega) m1 (by omega) q4 r1 (Nat.lt_of_le_of_lt (Nat.mod_le _ _) q6) rm' s' Q' E' vs S.ok S.live
          (.cons (S.cx.clo rfl (.inr rfl) rfl) (.cons (S.cx.clo rfl (.inr rfl) rfl) (.cons (S.cx.clo rfl (.inr rfl) rfl) .nil))) rs kk) fun h7 t7 S => ?_
        have e5 : (put xs a (figs n (m - a) (y % 2 ^ (n * (m - a))))).length = xs.length := put_length (by rw [figs_length]; omega)
        refine do_callMut (x := "a_digits") S rfl rfl (.cons (Ev.name rfl) (.cons (Ev.name rfl) (.cons (Ev.name rfl) .nil))) (ys := put (put xs a (figs n (m - a) (y % 2 ^ (n * (m - a))))) m (figs n (b - m) (y / 2 ^ (n * (m - a))))) (fun s' Q' E' vs S rs kk => ih A' _ m b _ (by omega) m2 (by omega) (by omega) r2 q7 rm' s' Q' E' vs S.ok S.live
          (.cons (S.cx.clo rfl (.inr rfl) rfl) (.cons (S.cx.clo rfl (.inr rfl) rfl) (.cons (S.cx.clo rfl (.inr rfl) rfl) .nil))) rs kk) fun h8 t8 S => ?_
        refine do_nil S (kn h8 t8 ⟨hide_back S.kp, S.ok, ?_⟩)
        have e6 : put (put xs a (figs n (m - a) (y % 2 ^ (n * (m - a))))) m (figs n (b - m) (y / 2 ^ (n * (m - a)))) = put xs a (figs n (b - a) y) := by
          have e7 : m = a + (figs n (m - a) (y % 2 ^ (n * (m - a)))).length := by rw [figs_length]; omega
          have e8 : b - a = (m - a) + (b - m) := by omega
          rw [e8, figs_add]
          conv => lhs; arg 2; rw [e7]
          exact put_put (by rw [figs_length, figs_length]; omega)
        rw [← e6]
        exact S.list (x := "a_digits") rfl
  by_cases hx0 : x = 0
  · refine do_ifF0 S ((Tst.value (Ev.name rfl) Tr.int).eq ?_) fun h2 t2 S => do_return_own S hD rfl fun v h' tk kp ok r => k v h' tk kp ok (rep_eq r ?_)
    · subst hx0; rfl
    · subst hx0
      have : kl = 0 := by rw [← hkk]; show (0 + n - 1) / n = 0; exact Nat.div_eq_of_lt (by omega)
      subst this; rfl
  · refine do_ifT S ((Tst.value (Ev.name rfl) Tr.int).eq ?_) fun h2 t2 S => ?_
    · simpa using hx0
    have hkl0 : 0 < kl ∧ x < 2 ^ (n * kl) := by
      have hb : Builtin.Int.intBits (x : Int) = x.log2 + 1 := by
        unfold Builtin.Int.intBits
        rw [if_neg (by simpa using hx0), Int.natAbs_natCast]
      have h1 : Builtin.Int.intBits (x : Int) + n - 1 < n * (kl + 1) := by
        rw [← hkk]; exact Nat.lt_mul_div_succ _ (by omega)
      rw [Nat.mul_add] at h1
      refine ⟨Nat.pos_of_ne_zero fun q => by subst q; omega, ?_⟩
      have h2 : x.log2 < n * kl := by omega
      exact (Nat.log2_lt hx0).mp h2
    refine do_callMut (x := "a_digits") S rfl rfl (.cons (Ev.name rfl) (.cons Ev.int (.cons (Ev.callBi gLen (.cons (Ev.name rfl) .nil) (Cal.len .own (by simp; have : sizeLine = 16777216 := rfl; omega))) .nil))) (ys := li (figs n kl x)) (fun s' Q' E' vs S rs kk => ?_) fun h3 t3 S => ?_
    · have rs' : Reps (D :: X) s'.heap vs [.int x, .int ((0 : Nat) : Int), .int (kl : Int)] := by simpa using rs
      refine key kl A' x 0 kl (List.replicate kl 0) (by omega) hkl0.1 (by simp) (by simp; omega) hkl0.2 hx (rm'.le (by omega)) s' Q' E' vs S.ok S.live (.cons (S.cx.clo rfl (.inl rfl) rfl) (.cons (S.cx.clo rfl (.inl rfl) rfl) (.cons (S.cx.clo rfl (.inl rfl) rfl) .nil))) rs' fun v h' tk p1 p2 p3 => kk v h' tk p1 p2 ?_
      rwa [put_all (by rw [figs_length]; simp), Nat.sub_zero] at p3
    refine do_nil S ?_
    exact do_return_own S hD rfl fun v h' tk kp ok r => k v h' tk kp ok r
end Mine
namespace Mine
open PySem PySem.Calls PySem.W PyProof.Rows
variable {C : Cfg}

set_option maxHeartbeats 1000000 in
theorem int2ap (hK : C.K = hd.heap_39 C.w.params) {A : Around} {d : Nat} (rm : Room A (d + 1)) (n : Int) (hz : n.natAbs < 16 ^ 50) : Cal C A (.ref 63) [.int n] (.bytes (ap n.natAbs)) := by
  have hlen := hexs_length 50 _ hz
  refine Cal.fn rm ["num"] ((congrArg _ hK).trans rfl) (by rw [hK]; rfl) ?_ rfl (by decide) rfl rfl rfl rfl rfl ?_
  · intro vs h; rcases vs with _ | ⟨a, _ | ⟨b, r⟩⟩ <;> first | rfl | (simp at h)
  intro X L g0 s Q E rm' S k
  generalize A.deeper _ = A' at rm' S ⊢
  have gInt : GlobIs C "int" (.type "int") := globB (by rw [hK]; rfl) (by boot_fast) (by decide)
  have gAbs : GlobIs C "abs" (.builtin "abs") := globB (by rw [hK]; rfl) (by boot_fast) (by decide)
  have gDiv : GlobIs C "divmod" (.builtin "divmod") := globB (by rw [hK]; rfl) (by boot_fast) (by decide)
  refine do_assign S Ev.bytes (.inl rfl) fun h1 t1 S => ?_
  refine do_assign S (Ev.bytes (b := APb)) (.inl rfl) fun h2 t2 S => ?_
  refine do_assign S (Ev.callTy gInt (.cons (Ev.callBi gAbs (.cons (Ev.name rfl) .nil) Cal.abs) .nil) Cal.int) (.inl rfl) fun h3 t3 S => ?_
  refine do_while (σ := Nat × List Nat) (fun a => [("num", .int a.1), ("val", .bytes (apw a.2)), ("AP", .bytes APb)]) (fun a => a.1) (fun a => hexs a.1 ++ a.2 = hexs n.natAbs) (fun a => decide (a.1 ≠ 0)) (n.natAbs, []) (by simp) (S.sub (lk_cons rfl (lk_cons rfl (lk_cons rfl lk_nil)))) ?_ ?_ ?_
  · rintro ⟨m, ds⟩ hP
    refine (Tst.value (Ev.name rfl) Tr.int).eq ?_
    by_cases q : m = 0
    · subst q; rfl
    · rw [decide_eq_true q]; simpa using q
  · rintro ⟨m, ds⟩ s' Q' E' hP hm S' k'
    have hm' : m ≠ 0 := by simpa using hm
    have hl' : ds.length ≤ 50 := by
      have := congrArg List.length hP
      simp only [List.length_append] at this
      omega
    have e1 : PV.it [((m : Int)).fdiv 16, ((m : Int)).fmod 16] = .it [((m / 16 : Nat) : Int), ((m % 16 : Nat) : Int)] := by rw [← fdiv_nat m 16, ← fmod_nat m 16]; rfl
    refine do_unpack2 rm' S' ((Ev.callBi gDiv (.cons (Ev.name rfl) (.cons Ev.int .nil)) (Cal.divmod (by decide) (PyProof.noPylong_small (by decide)))).eq e1) (.inl rfl) (.inl rfl) fun h4 t4 S => ?_
    have e2 : PV.bytes ((KBy.picked APb.toArray (some ((m % 16 : Nat) : Int)) (some (((m % 16 : Nat) : Int) + 1))).toList ++ apw ds) = .bytes (apw ((m % 16) :: ds)) := by
      rw [ap_pick _ (Nat.mod_lt _ (by decide))]; rfl
    refine do_assign S ((Ev.binop (Ev.sliceBytes (Ev.name rfl) (.some (Ev.name rfl)) (.some (Ev.binop (Ev.name rfl) Ev.int Op2.add)) (by decide)) (Ev.name rfl) (Op2.addBytes ?_)).eq e2) (.inl rfl) fun h5 t5 S => ?_
    · rw [ap_pick _ (Nat.mod_lt _ (by decide))]; simp [apw]; omega
    · refine do_nil S (k' (m / 16, (m % 16) :: ds) h5 t5 ?_ (by show m / 16 < m; omega) (S.sub (lk_cons rfl (lk_cons rfl (lk_cons rfl lk_nil)))))
      rw [← hP]; show hexs (m / 16) ++ (m % 16 :: ds) = hexs m ++ ds
      rw [hexs_pos hm']; simp
  · rintro ⟨m, ds⟩ h4 t4 hP hm S
    have hm' : m = 0 := by simpa using hm
    subst hm'
    refine do_return S (Ev.name rfl) fun v h' tk kp ok r => k v h' tk kp ok (rep_eq r ?_)
    have hP' : ds = hexs n.natAbs := by rw [← hP]; show ds = hexs 0 ++ ds; rw [hexs_zero]; rfl
    rw [hP']; rfl

set_option maxHeartbeats 1000000 in
theorem div2n1n (hK : C.K = hd.heap_39 C.w.params) {A : Around} {d : Nat} (rm : Room A (d + 1)) (a b n : Int) (ha : a.natAbs < 2 ^ 1000) (hb : b.natAbs < 2 ^ 1000) (hb0 : b ≠ 0) (hn : 0 ≤ n) : Cal C A (.ref 21) [.int a, .int b, .int n] (.it [a.fdiv b, a.fmod b]) := by
  refine Cal.fn rm ["a", "b", "n"] ((congrArg _ hK).trans rfl) (by rw [hK]; rfl) ?_ rfl (by decide) rfl rfl rfl rfl rfl ?_
  · intro vs h; rcases vs with _ | ⟨a, _ | ⟨b, _ | ⟨c, _ | ⟨d, r⟩⟩⟩⟩ <;> first | rfl | (simp at h)
  intro X L g0 s Q E rm' S k
  generalize A.deeper _ = A' at rm' S ⊢
  have gDiv : GlobIs C "divmod" (.builtin "divmod") := globB (by rw [hK]; rfl) (by boot_fast) (by decide)
  obtain ⟨t, gLim⟩ : ∃ t, GlobIs C "_DIV_LIMIT" (.int 4000 t) := ⟨_, globK (by rw [hK]; rfl)⟩
  have hbits := bits_le ha
  refine do_ifT S ((Tst.cmp (Ev.binop (Ev.bitlen (Ev.name rfl)) (Ev.name rfl) Op2.sub) (Ev.globInt gLim) Op2.le).eq ?_) fun h1 t1 S => ?_
  · exact decide_eq_true (by omega)
  exact do_return S (Ev.callBi gDiv (.cons (Ev.name rfl) (.cons (Ev.name rfl) .nil)) (Cal.divmod hb0 (noPy hb (by omega)))) fun v h' tk kp ok r => k v h' tk kp ok r

theorem obAt {f : Str} {a : Addr} {ob : Obj} (hK : C.K.lookup a = some ob) : C.g.get? a = some ob := C.kIn _ _ hK

set_option maxHeartbeats 1000000 in
theorem divmod_pos (hK : C.K = hd.heap_39 C.w.params) (N : NestOk C nests) {A : Around} {d : Nat} (rm : Room A (d + 1)) (hdp : 220 ≤ d) (a b : Nat) (ha : a < 2 ^ 200) (hb : b < 2 ^ 200) (hb0 : 0 < b) : Cal C A (.ref 49) [.int a, .int b] (.it [((a / b : Nat) : Int), ((a % b : Nat) : Int)]) := by
  refine Cal.fn rm ["a", "b"] ((congrArg _ hK).trans rfl) (by rw [hK]; rfl) ?_ rfl (by decide) rfl rfl rfl rfl rfl ?_
  · intro vs h; rcases vs with _ | ⟨a, _ | ⟨b, _ | ⟨c, r⟩⟩⟩ <;> first | rfl | (simp at h)
  intro X L g0 s Q E rm' S k
  generalize A.deeper _ = A' at rm' S ⊢
  have gRev : GlobIs C "reversed" (.type "reversed") := globB (by rw [hK]; rfl) (by boot_fast) (by decide)
  have gI : GlobIs C "_int2digits" (.ref 35) := globK (by rw [hK]; rfl)
  have gD : GlobIs C "_digits2int" (.ref 42) := globK (by rw [hK]; rfl)
  have g1 : GlobIs C "_div2n1n" (.ref 21) := globK (by rw [hK]; rfl)
  have hbits : Builtin.Int.intBits (b : Int) = b.log2 + 1 := by
    unfold Builtin.Int.intBits
    rw [if_neg (by simp; omega), Int.natAbs_natCast]
  generalize hn : b.log2 + 1 = n at hbits
  have hn1 : 1 ≤ n := by omega
  have hn2 : n ≤ 200 := by have := (Nat.log2_lt (by omega)).mpr hb; omega
  have hbn : b < 2 ^ n := by rw [← hn]; exact Nat.lt_log2_self
  refine do_assign S ((Ev.bitlen (Ev.name rfl)).eq (congrArg (fun k : Nat => PV.int k) hbits)) (.inl rfl) fun h1 t1 S => ?_
  refine do_assign S (Ev.callFn gI (C.kIn _ _ ((congrArg _ hK).trans rfl)) rfl (.cons (Ev.name rfl) (.cons (Ev.name rfl) .nil)) (i2d hK N (rm'.le (show 211 ≤ d by omega)) a n ha hn1 (by omega) (by omega))) (.inl rfl) fun h2 t2 S => ?_
  generalize hkl : (Builtin.Int.intBits (a : Int) + n - 1) / n = kl at S
  have hkl2 : kl ≤ 200 ∧ a < 2 ^ (n * kl) := by
    have hbb := bits_le (x := (a : Int)) (k := 200) (by rw [Int.natAbs_natCast]; exact ha)
    refine ⟨?_, ?_⟩
    · rw [← hkl, Nat.div_le_iff_le_mul_add_pred (by omega)]
      have := Nat.mul_le_mul hn1 (Nat.le_refl 200)
      omega
    · by_cases h0 : a = 0
      · subst h0; exact Nat.two_pow_pos _
      · have hb2 : Builtin.Int.intBits (a : Int) = a.log2 + 1 := by
          unfold Builtin.Int.intBits
          rw [if_neg (by simpa using h0), Int.natAbs_natCast]
        have h1 : Builtin.Int.intBits (a : Int) + n - 1 < n * (kl + 1) := by
          rw [← hkl]; exact Nat.lt_mul_div_succ _ (by omega)
        rw [Nat.mul_add] at h1
        exact (Nat.log2_lt h0).mp (by omega)
  obtain ⟨hkl2, hakl⟩ := hkl2
  refine do_assign S Ev.int (.inl rfl) fun h3 t3 S => ?_
  refine do_own S (EvN.list .nil (fun p hp => nomatch hp) (by decide)) (xs := []) rfl (.inl rfl) fun D h4 t4 hD S => ?_
  have hsl : sizeLine = 16777216 := rfl
  have hbig : (2 : Nat) ^ 200 ≤ 2 ^ 500 := Nat.pow_le_pow_right (by omega) (by omega)
  refine do_for (σ := Nat × List Nat) (items := (li (figs n kl a)).reverse.map .int) (fun z => [("r", .int z.1), ("q_digits", .own D (li z.2)), ("n", .int n), ("b", .int b), ("a_digits", .il (li (figs n kl a)))])
    (fun i z => i ≤ kl ∧ z.1 = a / 2 ^ (n * (kl - i)) % b ∧ val n (li z.2.reverse) = ((a / 2 ^ (n * (kl - i)) / b : Nat) : Int) ∧ z.2.length = i ∧ ∀ q ∈ z.2, q < 2 ^ 200) (fun _ => False) (0, []) ?_
    (S.sub (lk_cons rfl (lk_cons rfl (lk_cons rfl (lk_cons rfl (lk_cons rfl lk_nil)))))) (ItE.rev rm' gRev (Ev.name rfl)) (.inl rfl) ?_ ?_ ?_ (fun _ _ _ _ q => q.elim) List.Pairwise.nil
  · refine ⟨Nat.zero_le _, ?_, ?_, rfl, fun q hq => nomatch hq⟩
    · rw [Nat.sub_zero, Nat.div_eq_of_lt hakl]; simp
    · rw [Nat.sub_zero, Nat.div_eq_of_lt hakl]; simp [li, val]
  · intro q hq
    obtain ⟨x, _, rfl⟩ := List.mem_map.mp hq
    rfl
  · rintro i item ⟨r, qs⟩ g s' Q' E' hitem ⟨hP1, hP2, hP3, hP4, hP5⟩ S k' kr'
    have hilt : i < kl := by
      have : i < ((li (figs n kl a)).reverse.map PV.int).length := by
        rcases Nat.lt_or_ge i ((li (figs n kl a)).reverse.map PV.int).length with h | h
        · exact h
        · rw [List.getElem?_eq_none h] at hitem; cases hitem
      simpa [li_length, figs_length] using this
    obtain ⟨j, rfl⟩ : ∃ j, kl = i + (j + 1) := ⟨kl - i - 1, by omega⟩
    have hsub : i + (j + 1) - i = j + 1 := by omega
    have hsub' : i + (j + 1) - (i + 1) = j := by omega
    rw [hsub] at hP2 hP3
    dsimp only at hP2 hP3 hP4 hP5
    have hit : item = .int ((a / 2 ^ (n * j) % 2 ^ n : Nat) : Int) := by
      rw [List.getElem?_map, List.getElem?_reverse (by rw [li_length, figs_length]; omega), li_get, li_length, figs_length, show i + (j + 1) - 1 - i = j by omega, figs_get _ _ _ _ (by omega)] at hitem
      exact (Option.some.inj hitem).symm
    subst hit
    obtain ⟨st1, st2, st3⟩ := long_step hb0 hP2 (v := a / 2 ^ (n * (j + 1)) / b) rfl
    generalize hdg : a / 2 ^ (n * j) % 2 ^ n = dg at *
    have hrb : r < 2 ^ 200 := Nat.lt_of_lt_of_le (by rw [hP2]; exact Nat.mod_lt _ hb0) (Nat.le_of_lt hb)
    have htot : r * 2 ^ n + dg < 2 ^ 400 := by
      refine Nat.lt_of_lt_of_le st3 ?_
      rw [show (2 : Nat) ^ 400 = 2 ^ 200 * 2 ^ 200 by rw [← Nat.pow_add]]
      exact Nat.mul_le_mul (Nat.le_of_lt hb) (Nat.pow_le_pow_right (by decide) hn2)
    have et : ((r : Int) * 2 ^ ((n : Int)).toNat + (dg : Int)) = ((r * 2 ^ n + dg : Nat) : Int) := by rw [Int.toNat_natCast]; simp
    have er : PV.it [((r * 2 ^ n + dg : Nat) : Int).fdiv (b : Int), ((r * 2 ^ n + dg : Nat) : Int).fmod (b : Int)] = .it [(((r * 2 ^ n + dg) / b : Nat) : Int), (((r * 2 ^ n + dg) % b : Nat) : Int)] := by rw [fdiv_nat, fmod_nat]
    refine do_unpack2 rm' S ((Ev.callFn g1 (C.kIn _ _ ((congrArg _ hK).trans rfl)) rfl (.cons ((Ev.binop (Ev.binop (Ev.name rfl) (Ev.name rfl) (Op2.shl (by omega) ?_)) (Ev.name rfl) Op2.add).eq (congrArg PV.int et)) (.cons (Ev.name rfl) (.cons (Ev.name rfl) .nil))) (div2n1n hK (rm'.le (show 1 ≤ d by omega)) _ _ _ ?_ ?_ ?_ ?_)).eq er) (.inl rfl) (.inl rfl) fun h5 t5 S => ?_
    · have := bits_le (x := (r : Int)) (k := 200) (by rw [Int.natAbs_natCast]; exact hrb)
      omega
    · rw [Int.natAbs_natCast]; exact Nat.lt_of_lt_of_le htot (Nat.pow_le_pow_right (by decide) (by decide))
    · rw [Int.natAbs_natCast]; exact Nat.lt_of_lt_of_le hb (Nat.pow_le_pow_right (by decide) (by decide))
    · omega
    · omega
    refine do_append S rfl (Ev.name rfl) (by show (li qs).length ≤ _; rw [li_length]; omega) fun h6 t6 S => ?_
    refine do_nil S (k' ((r * 2 ^ n + dg) % b, qs ++ [(r * 2 ^ n + dg) / b]) h6 t6 ⟨by omega, ?_, ?_, by simp [hP4], ?_⟩ (S.sub (lk_cons rfl (lk_cons ?_ (lk_cons rfl (lk_cons rfl (lk_cons rfl lk_nil)))))))
    · rw [hsub']; exact st2
    · rw [hsub', ← st1]
      simp only [List.reverse_append, List.reverse_cons, List.reverse_nil, List.nil_append, List.singleton_append]
      show (((r * 2 ^ n + dg) / b : Nat) : Int) + 2 ^ n * val n (li qs.reverse) = _
      rw [hP3]
      simp
    · intro q hq
      rcases List.mem_append.mp hq with hq | hq
      · exact hP5 q hq
      · rw [List.mem_singleton.mp hq]
        refine Nat.lt_of_lt_of_le (Nat.div_lt_of_lt_mul st3) (Nat.pow_le_pow_right (by decide) hn2)
    · rw [li_append]; rfl
  · rintro ⟨r, qs⟩ h5 t5 ⟨hP1, hP2, hP3, hP4, hP5⟩ S
    have hlen : ((li (figs n kl a)).reverse.map PV.int).length = kl := by simp [li_length, figs_length]
    rw [hlen] at hP2 hP3 hP4
    rw [Nat.sub_self, Nat.mul_zero, Nat.pow_zero, Nat.div_one] at hP2 hP3
    dsimp only at hP2 hP3 hP4 hP5
    refine do_reverse S rfl (by show (li qs).length ≤ _; rw [li_length]; omega) fun h6 t6 S => ?_
    rw [← li_reverse] at S
    have S := S.free hD (x := "q_digits") rfl (ρ' := [("r", .int r), ("n", .int n)]) (fun y pv e => ⟨lk_cons rfl (lk_cons rfl lk_nil) y pv e, ?_⟩)
    · refine do_assign S (Ev.callFn gD (C.kIn _ _ ((congrArg _ hK).trans rfl)) rfl (.cons (Ev.name rfl) (.cons (Ev.name rfl) .nil)) (d2i hK N (rm'.le (show 210 ≤ d by omega)) _ n ?_ hn1 (by omega) ?_ ?_)) (.inl rfl) fun h7 t7 S => ?_
      · show (li qs.reverse).length + 2 ≤ _; rw [li_length, List.length_reverse]; omega
      · intro x hx
        obtain ⟨y, hy, rfl⟩ := List.mem_map.mp hx
        rw [Int.natAbs_natCast]
        exact Nat.lt_of_lt_of_le (hP5 y (List.mem_reverse.mp hy)) hbig
      · show (li qs.reverse).length ≤ _; rw [li_length, List.length_reverse]; omega
      refine do_return S (Ev.tuple (.cons (Ev.name rfl) (.cons (Ev.name rfl) .nil)) (xs := [val n (li qs.reverse), (r : Int)]) rfl (show 2 ≤ sizeLine by decide)) fun v h' tk kp ok rr => k v h' tk kp ok (rep_eq rr ?_)
      rw [hP3, hP2]
    · have := mem_of_lookup e
      simp only [List.mem_cons, List.not_mem_nil, or_false] at this
      rcases this with q | q <;> cases q <;> rfl
end Mine
namespace Mine
open PySem PySem.Calls PySem.W PyProof.Rows
variable {C : Cfg}

theorem div_not {a b : Int} (hb : 0 < b) : -((-a - 1).fdiv b) - 1 = a.fdiv b ∧ b + (-((-a - 1).fmod b) - 1) = a.fmod b := by
  rw [Int.fdiv_eq_ediv_of_nonneg _ (by omega), Int.fdiv_eq_ediv_of_nonneg _ (by omega), Int.fmod_eq_emod_of_nonneg _ (by omega), Int.fmod_eq_emod_of_nonneg _ (by omega)]
  have h1 := Int.mul_ediv_add_emod (-a - 1) b
  have h2 := Int.emod_nonneg (-a - 1) (by omega : b ≠ 0)
  have h3 := Int.emod_lt_of_pos (-a - 1) hb
  generalize (-a - 1) / b = q at *
  generalize (-a - 1) % b = r at *
  have key : a / b = -q - 1 ∧ a % b = b - 1 - r := by
    refine (Int.ediv_emod_unique hb).mpr ⟨?_, by omega, by omega⟩
    rw [Int.mul_sub, Int.mul_neg, Int.mul_one]
    omega
  exact ⟨key.1.symm, by omega⟩
theorem div_neg2 (a b : Int) : (-a).fdiv (-b) = a.fdiv b ∧ -((-a).fmod (-b)) = a.fmod b := by
  refine ⟨Int.neg_fdiv_neg a b, ?_⟩
  have h1 := Int.mul_fdiv_add_fmod a b
  have h2 := Int.mul_fdiv_add_fmod (-a) (-b)
  rw [Int.neg_fdiv_neg a b, Int.neg_mul] at h2
  omega

set_option maxHeartbeats 1000000 in
theorem idivP (hK : C.K = hd.heap_39 C.w.params) (N : NestOk C nests) {A : Around} {d : Nat} (rm : Room A (d + 1)) (hdp : 221 ≤ d) (a b : Nat) (ha : a < 2 ^ 200) (hb : b < 2 ^ 200) (hb0 : 0 < b) : Cal C A (.ref 56) [.int a, .int b] (.it [((a / b : Nat) : Int), ((a % b : Nat) : Int)]) := by
  refine Cal.fn rm ["a", "b"] ((congrArg _ hK).trans rfl) (by rw [hK]; rfl) ?_ rfl (by decide) rfl rfl rfl rfl rfl ?_
  · intro vs h; rcases vs with _ | ⟨a, _ | ⟨b, _ | ⟨c, r⟩⟩⟩ <;> first | rfl | (simp at h)
  intro X L g0 s Q E rm' S k
  generalize A.deeper _ = A' at rm' S ⊢
  have gP : GlobIs C "_divmod_pos" (.ref 49) := globK (by rw [hK]; rfl)
  refine do_ifF S ((Tst.cmp (Ev.name rfl) Ev.int Op2.eq).eq ?_) fun h1 t1 S => ?_
  · simp; omega
  refine do_ifF S ((Tst.cmp (Ev.name rfl) Ev.int Op2.lt).eq ?_) fun h2 t2 S => ?_
  · exact decide_eq_false (by omega)
  refine do_ifF S ((Tst.cmp (Ev.name rfl) Ev.int Op2.lt).eq ?_) fun h3 t3 S => ?_
  · exact decide_eq_false (by omega)
  exact do_return S (Ev.callFn gP (C.kIn _ _ ((congrArg _ hK).trans rfl)) rfl (.cons (Ev.name rfl) (.cons (Ev.name rfl) .nil)) (divmod_pos hK N (rm'.le (show 221 ≤ d by omega)) (by omega) a b ha hb hb0)) fun v h' tk kp ok r => k v h' tk kp ok r

set_option maxHeartbeats 1000000 in
theorem idivB (hK : C.K = hd.heap_39 C.w.params) (N : NestOk C nests) {A : Around} {d : Nat} (rm : Room A (d + 1)) (hdp : 222 ≤ d) (a : Int) (b : Nat) (ha : a.natAbs < 2 ^ 200) (hb : b < 2 ^ 200) (hb0 : 0 < b) : Cal C A (.ref 56) [.int a, .int b] (.it [a.fdiv b, a.fmod b]) := by
  by_cases ha0 : 0 ≤ a
  · obtain ⟨n, rfl⟩ := Int.eq_ofNat_of_zero_le ha0
    rw [fdiv_nat, fmod_nat]
    exact idivP hK N rm (by omega) n b (by simpa using ha) hb hb0
  refine Cal.fn rm ["a", "b"] ((congrArg _ hK).trans rfl) (by rw [hK]; rfl) ?_ rfl (by decide) rfl rfl rfl rfl rfl ?_
  · intro vs h; rcases vs with _ | ⟨a, _ | ⟨b, _ | ⟨c, r⟩⟩⟩ <;> first | rfl | (simp at h)
  intro X L g0 s Q E rm' S k
  generalize A.deeper _ = A' at rm' S ⊢
  have gI : GlobIs C "int_divmod" (.ref 56) := globK (by rw [hK]; rfl)
  refine do_ifF S ((Tst.cmp (Ev.name rfl) Ev.int Op2.eq).eq ?_) fun h1 t1 S => ?_
  · simp; omega
  refine do_ifF S ((Tst.cmp (Ev.name rfl) Ev.int Op2.lt).eq ?_) fun h2 t2 S => ?_
  · exact decide_eq_false (by omega)
  refine do_ifT S ((Tst.cmp (Ev.name rfl) Ev.int Op2.lt).eq ?_) fun h3 t3 S => ?_
  · exact decide_eq_true (by omega)
  obtain ⟨n, hn⟩ : ∃ n : Nat, -a - 1 = n := Int.eq_ofNat_of_zero_le (by omega)
  have hn' : n < 2 ^ 200 := by omega
  have e1 : Builtin.bitNot a = (n : Int) := hn
  refine do_unpack2 rm' S (Ev.callFn gI (C.kIn _ _ ((congrArg _ hK).trans rfl)) rfl (.cons ((Ev.unop (Ev.name rfl) Op1.inv).eq (congrArg PV.int e1)) (.cons (Ev.name rfl) .nil)) (idivP hK N (rm'.le (show 222 ≤ d by omega)) (by omega) n b hn' hb hb0)) (.inl rfl) (.inl rfl) fun h4 t4 S => ?_
  refine do_return S (Ev.tuple (.cons (Ev.unop (Ev.name rfl) Op1.inv) (.cons (Ev.binop (Ev.name rfl) (Ev.unop (Ev.name rfl) Op1.inv) Op2.add) .nil)) (xs := [-((n / b : Nat) : Int) - 1, (b : Int) + (-((n % b : Nat) : Int) - 1)]) rfl (show 2 ≤ sizeLine by decide)) fun v h' tk kp ok r => k v h' tk kp ok (rep_eq r ?_)
  have := div_not (a := a) (b := b) (by omega)
  rw [hn, fdiv_nat, fmod_nat] at this
  rw [this.1, this.2]

set_option maxHeartbeats 1000000 in
theorem idiv (hK : C.K = hd.heap_39 C.w.params) (N : NestOk C nests) {A : Around} {d : Nat} (rm : Room A (d + 1)) (hdp : 223 ≤ d) (a b : Int) (ha : a.natAbs < 2 ^ 200) (hb : b.natAbs < 2 ^ 200) (hb0 : b ≠ 0) : Cal C A (.ref 56) [.int a, .int b] (.it [a.fdiv b, a.fmod b]) := by
  by_cases hb1 : 0 ≤ b
  · obtain ⟨n, rfl⟩ := Int.eq_ofNat_of_zero_le hb1
    exact idivB hK N rm (by omega) a n ha (by simpa using hb) (by omega)
  refine Cal.fn rm ["a", "b"] ((congrArg _ hK).trans rfl) (by rw [hK]; rfl) ?_ rfl (by decide) rfl rfl rfl rfl rfl ?_
  · intro vs h; rcases vs with _ | ⟨a, _ | ⟨b, _ | ⟨c, r⟩⟩⟩ <;> first | rfl | (simp at h)
  intro X L g0 s Q E rm' S k
  generalize A.deeper _ = A' at rm' S ⊢
  have gI : GlobIs C "int_divmod" (.ref 56) := globK (by rw [hK]; rfl)
  refine do_ifF S ((Tst.cmp (Ev.name rfl) Ev.int Op2.eq).eq ?_) fun h1 t1 S => ?_
  · simp; omega
  refine do_ifT S ((Tst.cmp (Ev.name rfl) Ev.int Op2.lt).eq ?_) fun h2 t2 S => ?_
  · exact decide_eq_true (by omega)
  obtain ⟨n, hn⟩ : ∃ n : Nat, -b = n := Int.eq_ofNat_of_zero_le (by omega)
  refine do_unpack2 rm' S (Ev.callFn gI (C.kIn _ _ ((congrArg _ hK).trans rfl)) rfl (.cons (Ev.unop (Ev.name rfl) Op1.neg) (.cons ((Ev.unop (Ev.name rfl) Op1.neg).eq (congrArg PV.int hn)) .nil)) (idivB hK N (rm'.le (show 223 ≤ d by omega)) (by omega) (-a) n (by omega) (by omega) (by omega))) (.inl rfl) (.inl rfl) fun h4 t4 S => ?_
  refine do_return S (Ev.tuple (.cons (Ev.name rfl) (.cons (Ev.unop (Ev.name rfl) Op1.neg) .nil)) (xs := [(-a).fdiv n, -((-a).fmod n)]) rfl (show 2 ≤ sizeLine by decide)) fun v h' tk kp ok r => k v h' tk kp ok (rep_eq r ?_)
  have := div_neg2 a b
  rw [← hn, this.1, this.2]

set_option maxHeartbeats 1000000 in
theorem idivZ (hK : C.K = hd.heap_39 C.w.params) {A : Around} {d : Nat} (rm : Room A (d + 1)) (a : Int) : CalR C A (.ref 56) [.int a, .int 0] "ZeroDivisionError" := by
  refine CalR.fn rm ["a", "b"] ((congrArg _ hK).trans rfl) (by rw [hK]; rfl) ?_ rfl (by decide) rfl rfl rfl rfl rfl ?_
  · intro vs h; rcases vs with _ | ⟨a, _ | ⟨b, _ | ⟨c, r⟩⟩⟩ <;> first | rfl | (simp at h)
  intro X L g0 s Q E rm' S k
  generalize A.deeper _ = A' at rm' S k ⊢
  have gZ : GlobIs C "ZeroDivisionError" (.type "ZeroDivisionError") := globB (by rw [hK]; rfl) (by boot_fast) (by decide)
  refine do_ifT S ((Tst.cmp (Ev.name rfl) Ev.int Op2.eq).eq ?_) fun h1 t1 S => ?_
  · rfl
  exact do_raise rm' S excClass_ZeroDivisionError gZ (by rw [isSubtype_type]; kernel_rfl) fun e h' tk hx => k e _ _ h' tk S hx
end Mine
namespace Mine
open PySem PySem.Calls PySem.W PyProof.Rows
variable {C : Cfg}

def octs (bs : List UInt8) : List Int := bs.map fun c => (c.toNat : Int)
theorem octs_length (bs : List UInt8) : (octs bs).length = bs.length := by simp [octs]

set_option maxHeartbeats 1000000 in
theorem d2iB (hK : C.K = hd.heap_39 C.w.params) (N : NestOk C nests) {A : Around} {d : Nat} (rm : Room A (d + 1)) (bs : List UInt8) (n : Nat) (hdp : bs.length + 2 ≤ d) (hn : 1 ≤ n) (hn' : n ≤ 1000) (hlen : bs.length ≤ 500) :
    Cal C A (.ref 42) [.bytes bs, .int n] (.int (val n (octs bs))) := by
  have hds : ∃ ds, ds = octs bs := ⟨_, rfl⟩
  obtain ⟨ds, hds⟩ := hds
  have hdl : ds.length = bs.length := by rw [hds, octs_length]
  have hb : ∀ x ∈ ds, x.natAbs < 2 ^ 500 := fun x hx => by
    rw [hds] at hx
    obtain ⟨c, _, rfl⟩ := List.mem_map.mp hx
    have := c.toNat_lt
    rw [Int.natAbs_natCast]
    exact Nat.lt_of_lt_of_le this (Nat.le_trans (show 256 ≤ 2 ^ 8 by decide) (Nat.pow_le_pow_right (show 0 < 2 by omega) (show 8 ≤ 500 by omega)))
  rw [← hds]
  refine Cal.fn rm ["digits", "n"] ((congrArg _ hK).trans rfl) (by rw [hK]; rfl) ?_ rfl (by decide) rfl rfl rfl rfl rfl ?_
  · intro vs h; rcases vs with _ | ⟨a, _ | ⟨b, _ | ⟨c, r⟩⟩⟩ <;> first | rfl | (simp at h)
  intro X L g0 s Q E rm' S k
  generalize A.deeper _ = A' at rm' S ⊢
  have gLen : GlobIs C "len" (.builtin "len") := globB (by rw [hK]; rfl) (by boot_fast) (by decide)
  refine do_def (q := ⟨41, 37, 47, 4, "_digits2int.<locals>.inner"⟩) [("n", L + 2), ("inner", L + 3), ("digits", L + 1)] N (.tail _ (.head _)) S (.inr ⟨rfl, rfl⟩) (fun f fd h1 t1 hfd S => ?_) rfl (List.cons_ne_nil _ _) rfl rfl rfl rfl
  have key : ∀ (k : Nat) (A : Around) (a b : Nat), b - a ≤ k → a < b → b ≤ ds.length → Room A (k + 1) → ∀ (s : Shared) (Q : Value → Shared → Prop) (E : Value → Shared → Prop) (vs : List Value), Ok C s.heap → Live C A X s.heap →
      Clo X s.heap [("n", L + 2), ("inner", L + 3), ("digits", L + 1)] [("digits", .bytes bs), ("inner", .fn f fd), ("n", .int n)] → Reps X s.heap vs [.int a, .int b] →
      (∀ v h' tk, Kp C s.heap h' → Ok C h' → Rep X h' v (.int (val n ((ds.drop a).take (b - a)))) → Q v { s with heap := h', toks := tk }) → wpAny C.M A (call (.ref f) vs) Q E s := by
    intro k
    induction k with
    | zero => intro A a b h1 h2; omega
    | succ k ih =>
      intro A a b h1 h2 h3 rm s Q E vs o lv clo rs kk
      obtain ⟨doc, pm, ctv, c', rfl⟩ := id hfd
      obtain ⟨_, _, _, _, _, fo⟩ := clo "inner" _ rfl
      refine clo_call (ρc := [("digits", .bytes bs), ("inner", .fn f _), ("n", .int n)]) (ps := [.int a, .int b]) rm ["L", "R"] s.heap (fun v h' => Kp C s.heap h' ∧ Ok C h' ∧ Rep X h' v (.int (val n ((ds.drop a).take (b - a))))) o lv fo rs clo o (Kp.refl _) lv.stk
        ?_ (by simp) rfl ?_ rfl (by decide) rfl rfl rfl rfl rfl rfl (fun v h' tk ⟨p1, p2, p3⟩ => kk v h' tk p1 p2 p3) ?_
      · exact .plain' rfl
      · intro vs h; rcases vs with _ | ⟨a, _ | ⟨b, _ | ⟨c, r⟩⟩⟩ <;> first | rfl | (simp at h)
      intro L' s' Q' E' rm' S kr kn
      generalize A.deeper _ = A' at rm' S ⊢
      by_cases hq : a + 1 = b
      · refine do_ifT S ((Tst.cmp (Ev.binop (Ev.name rfl) Ev.int Op2.add) (Ev.name rfl) Op2.eq).eq ?_) fun h2 t2 S => ?_
        · simp; omega
        obtain ⟨x, hx'⟩ : ∃ x, bs[a]? = some x := ⟨bs[a], by simp [show a < bs.length by omega]⟩
        have hx : ds[a]? = some (x.toNat : Int) := by rw [hds]; simp [octs, hx']
        refine do_return S (Ev.itemBytes (Ev.name rfl) (Ev.name rfl) (by omega) (x := x) (by simpa using hx') (by have : sizeLine = 16777216 := rfl; omega)) fun v h' tk kp ok r => kr v h' tk ⟨kp, ok, rep_eq r ?_⟩
        rw [show b - a = 1 by omega, take_one hx]; simp [val]
      · refine do_ifF0 S ((Tst.cmp (Ev.binop (Ev.name rfl) Ev.int Op2.add) (Ev.name rfl) Op2.eq).eq ?_) fun h2 t2 S => ?_
        · simp; omega
        refine do_assign S ((Ev.binop (Ev.binop (Ev.name rfl) (Ev.name rfl) Op2.add) Ev.int (Op2.shr (by decide))).eq (congrArg PV.int (half_int a b))) (.inl rfl) fun h3 t3 S => ?_
        refine do_assign S (Ev.binop (Ev.binop (Ev.name rfl) (Ev.name rfl) Op2.sub) (Ev.name rfl) (Op2.mul ?_)) (.inl rfl) fun h4 t4 S => ?_
        · exact mulOk (k := 10) (by omega) (by omega) (by omega)
        refine do_return S (Ev.binop (Ev.binop (Ev.callClo rfl (.cons (Ev.name rfl) (.cons (Ev.name rfl) .nil)) (fun s Q E vs c o lv rs kk => ih A' ((a + b) / 2) b ?_ ?_ ?_ rm' s Q E vs o lv (.cons (c.clo rfl (.inr rfl) rfl) (.cons (c.clo rfl (.inr rfl) rfl) (.cons (c.clo rfl (.inr rfl) rfl) .nil))) rs kk)) (Ev.name rfl) (Op2.shl ?_ ?_))
          (Ev.callClo rfl (.cons (Ev.name rfl) (.cons (Ev.name rfl) .nil)) (fun s Q E vs c o lv rs kk => ih A' a ((a + b) / 2) ?_ ?_ ?_ rm' s Q E vs o lv (.cons (c.clo rfl (.inr rfl) rfl) (.cons (c.clo rfl (.inr rfl) rfl) (.cons (c.clo rfl (.inr rfl) rfl) .nil))) rs kk)) Op2.add) fun v h' tk kp ok r => kr v h' tk ⟨kp, ok, rep_eq r ?_⟩
        · omega
        · omega
        · omega
        · exact Int.mul_nonneg (by omega) (by omega)
        · have e1 := bits_le (part_lt hn hb ((a + b) / 2) (b - (a + b) / 2))
          have e2 : n * ds.length ≤ 1000 * 500 := Nat.mul_le_mul hn' (hdl ▸ hlen : ds.length ≤ 500)
          have e3 : ((((a + b) / 2 : Nat) : Int) - (a : Int)) * (n : Int) ≤ 500 * 1000 := Int.mul_le_mul (by omega) (by omega) (by omega) (by omega)
          omega
        · omega
        · omega
        · omega
        · rw [val_split n ds (by omega) (by omega) (by omega)]
  refine do_return S (Ev.ifte (Tst.value (Ev.name rfl) (Tr.bytes ?_)) (fun q => Ev.callClo (r := .int (val n ((ds.drop 0).take (ds.length - 0)))) rfl (.cons Ev.int (.cons (Ev.callBi gLen (.cons (Ev.name rfl) .nil) ((Cal.lenBytes ?_).eq (congrArg (fun k : Nat => PV.int k) hdl.symm))) .nil)) ?_) fun q => Ev.int) fun v h' tk kp ok r => k v h' tk kp ok (rep_eq r ?_)
  · have : sizeLine = 16777216 := rfl; omega
  · have : sizeLine = 16777216 := rfl; omega
  · intro s Q E vs c o lv rs kk
    have hne : bs ≠ [] := by simpa using q
    have : 0 < ds.length := by rw [hdl]; exact List.length_pos_iff.mpr hne
    exact key ds.length A' 0 ds.length (by omega) this (Nat.le_refl _) (rm'.le (by omega)) s Q E vs o lv (.cons (c.clo rfl (.inl rfl) rfl) (.cons (c.clo rfl (.inl rfl) rfl) (.cons (c.clo rfl (.inl rfl) rfl) .nil))) rs kk
  · rw [hds]
    cases bs with
    | nil => rfl
    | cons x r => simp
end Mine
namespace Mine
open PySem PySem.Calls PySem.W PyProof.Rows

/-! law 03: the mathematics -/
def marksN : Nat → List Nat
  | 0 => []
  | t + 1 => marksN t ++ [4 + t] ++ marksN t
def leftB (k d : Nat) : List Nat :=
  if 16 ≤ d + k then ((List.replicate (2 ^ k) 0).set (2 ^ k - 1) ((d + k) % 16)).set (2 ^ k - 1 - 2 ^ (d + k - 16)) 1 else (List.replicate (2 ^ k) 0).set (2 ^ k - 1) ((d + k) % 16)
def leftN (k : Nat) (ds : List Nat) : List Nat := ds.flatMap (leftB k)
def rowM (k n : Nat) : List Nat := (List.replicate n (marksN k ++ [0])).flatten
def lettersN (k : Nat) (ds : List Nat) : List Nat := List.zipWith (· + ·) (rowM k ds.length) (leftN k ds)
def stepN (ds : List Nat) : List Nat := ds.flatMap fun d => [(65 + d) / 16, (65 + d) % 16]
def growN : Nat → List Nat → List Nat
  | 0, ds => ds
  | k + 1, ds => stepN (growN k ds)

theorem marks_length : ∀ k, (marksN k).length = 2 ^ k - 1
  | 0 => rfl
  | k + 1 => by
    have := Nat.two_pow_pos k
    simp only [marksN, List.length_append, List.length_singleton, marks_length k, Nat.pow_succ]; omega
theorem leftB_length (k d : Nat) : (leftB k d).length = 2 ^ k := by unfold leftB; split <;> simp
theorem leftN_length (k : Nat) : ∀ ds : List Nat, (leftN k ds).length = ds.length * 2 ^ k
  | [] => by simp [leftN]
  | d :: r => by
    have := leftN_length k r
    unfold leftN at this ⊢
    rw [List.flatMap_cons, List.length_append, leftB_length, this, List.length_cons, Nat.add_mul]; omega
theorem rowM_succ (k n : Nat) : rowM k (n + 1) = (marksN k ++ [0]) ++ rowM k n := by unfold rowM; rw [List.replicate_succ, List.flatten_cons]
theorem rowM_length (k : Nat) : ∀ n : Nat, (rowM k n).length = n * 2 ^ k
  | 0 => by simp [rowM]
  | n + 1 => by
    have := Nat.two_pow_pos k
    rw [rowM_succ, List.length_append, rowM_length k n, List.length_append, marks_length, Nat.add_mul, List.length_singleton]; omega
theorem step_append (a b : List Nat) : stepN (a ++ b) = stepN a ++ stepN b := by simp [stepN]
theorem grow_append : ∀ (k : Nat) (a b : List Nat), growN k (a ++ b) = growN k a ++ growN k b
  | 0, _, _ => rfl
  | k + 1, a, b => by simp only [growN]; rw [grow_append k, step_append]
theorem one_block : ∀ k, 1 ≤ k → k ≤ 3 → ∀ d, d < 16 → growN k [d] = List.zipWith (· + ·) (marksN k ++ [0]) (leftB k d)
  | 1, _, _ => by decide
  | 2, _, _ => by decide
  | 3, _, _ => by decide
  | k + 4, _, h => by omega
theorem grow_letters {k : Nat} (h1 : 1 ≤ k) (h3 : k ≤ 3) : ∀ ds : List Nat, (∀ x ∈ ds, x < 16) → growN k ds = lettersN k ds
  | [], _ => by
    have : ∀ k, growN k [] = [] := fun k => by
      induction k with
      | zero => rfl
      | succ k ih => simp only [growN]; rw [ih]; rfl
    rw [this]; rfl
  | d :: r, h => by
    have e : d :: r = [d] ++ r := rfl
    rw [e, grow_append, one_block k h1 h3 d (h d (.head _)), grow_letters h1 h3 r fun x hx => h x (.tail _ hx)]
    show _ ++ _ = List.zipWith (· + ·) (rowM k (r.length + 1)) (leftN k (d :: r))
    rw [rowM_succ, show leftN k (d :: r) = leftB k d ++ leftN k r from List.flatMap_cons]
    rw [List.zipWith_append]
    · rfl
    · have := Nat.two_pow_pos k
      rw [List.length_append, marks_length, leftB_length, List.length_singleton]; omega
theorem step_lt (ds : List Nat) (h : ∀ x ∈ ds, x < 16) : ∀ x ∈ stepN ds, x < 16 := by
  intro x hx
  obtain ⟨d, hd, hx⟩ := List.mem_flatMap.mp hx
  have := h d hd
  simp only [List.mem_cons, List.not_mem_nil, or_false] at hx
  omega
theorem grow_lt {ds : List Nat} (h : ∀ x ∈ ds, x < 16) : ∀ k, ∀ x ∈ growN k ds, x < 16
  | 0 => h
  | k + 1 => step_lt _ (grow_lt h k)
theorem step_length (ds : List Nat) : (stepN ds).length = 2 * ds.length := by
  induction ds with
  | nil => rfl
  | cons d r ih =>
    have e : stepN (d :: r) = [(65 + d) / 16, (65 + d) % 16] ++ stepN r := List.flatMap_cons
    rw [e, List.length_append, ih]; simp; omega
theorem grow_length (ds : List Nat) : ∀ k, (growN k ds).length = ds.length * 2 ^ k
  | 0 => by simp [growN]
  | k + 1 => by simp only [growN]; rw [step_length, grow_length ds k, Nat.pow_succ, Nat.mul_comm 2, Nat.mul_assoc]
theorem dropZ_id {ds : List Nat} (h : ∀ x r, ds = x :: r → x ≠ 0) : dropZ ds = ds := by
  cases ds with
  | nil => rfl
  | cons x r => unfold dropZ; rw [List.dropWhile_cons_of_neg (by simpa using h x r rfl)]
theorem step_drop (ds : List Nat) : dropZ (stepN ds) = stepN ds := dropZ_id fun x r e => by
  cases ds with
  | nil => cases e
  | cons d t =>
    have e' : stepN (d :: t) = (65 + d) / 16 :: ([(65 + d) % 16] ++ stepN t) := by unfold stepN; rw [List.flatMap_cons]; rfl
    rw [e'] at e
    have := (List.cons.inj e).1
    omega
/-- a word's octets, the last one the lowest, are the next row's figures two by two -/
theorem val_octets : ∀ e : List Nat, val 8 (li (e.map (65 + ·))) = (vl (e.flatMap fun d => [(65 + d) % 16, (65 + d) / 16]) : Int)
  | [] => rfl
  | d :: r => by
    show ((65 + d : Nat) : Int) + 2 ^ 8 * val 8 (li (r.map (65 + ·))) = _
    rw [val_octets r, List.flatMap_cons, List.cons_append, List.cons_append, List.nil_append]
    simp only [vl]
    omega
theorem step_value (ds : List Nat) : val 8 (li (ds.reverse.map (65 + ·))) = (vl (stepN ds).reverse : Int) := by
  rw [val_octets]
  congr 2
  unfold stepN
  rw [List.reverse_flatMap]
  rfl

theorem vl_zip : ∀ a b : List Nat, a.length = b.length → vl (List.zipWith (· + ·) a b) = vl a + vl b
  | [], [], _ => rfl
  | [], _ :: _, h => by cases h
  | _ :: _, [], h => by cases h
  | x :: a, y :: b, h => by
    simp only [List.zipWith_cons_cons, vl]
    rw [vl_zip a b (by simpa using h)]; omega
theorem letters_value (k : Nat) (ds : List Nat) : vl (lettersN k ds).reverse = vl (rowM k ds.length).reverse + vl (leftN k ds).reverse := by
  unfold lettersN
  have hl : (rowM k ds.length).length = (leftN k ds).length := by rw [rowM_length, leftN_length]
  rw [List.reverse_zipWith hl, vl_zip]
  simpa using hl
def wholeN (n k : Nat) : Nat := 16 ^ (n * 2 ^ k) - 1
def rulerN (n k : Nat) : Nat := ((List.range k).map fun t => (4 + t) * 16 ^ 2 ^ t * (wholeN n k / (16 ^ 2 ^ (t + 1) - 1))).sum
theorem ruler_ok : ∀ n, n ≤ 3 → ∀ k, k ≤ 3 → rulerN n k = vl (rowM k n).reverse ∧ ∀ t, t < k → wholeN n k % (16 ^ 2 ^ (t + 1) - 1) = 0 := by decide +kernel
theorem left_lt {k : Nat} (ds : List Nat) : ∀ x ∈ leftN k ds, x < 16 := by
  intro x hx
  obtain ⟨d, _, hx⟩ := List.mem_flatMap.mp hx
  have m : ∀ {l : List Nat} {i y : Nat}, (∀ z ∈ l, z < 16) → y < 16 → ∀ z ∈ l.set i y, z < 16 := fun h hy z hz => by
    rcases List.mem_or_eq_of_mem_set hz with h' | rfl
    · exact h z h'
    · exact hy
  have r : ∀ z ∈ List.replicate (2 ^ k) 0, z < 16 := fun z hz => by rw [(List.mem_replicate.mp hz).2]; decide
  unfold leftB at hx
  split at hx
  · exact m (m r (Nat.mod_lt _ (by decide))) (by decide) x hx
  · exact m r (Nat.mod_lt _ (by decide)) x hx

/-! back -/
def pr : List Nat → List (Nat × Nat)
  | x :: y :: r => (x, y) :: pr r
  | _ => []
def oc1 (p : Nat × Nat) : Nat := 16 * p.1 + p.2
def oc (ds : List Nat) : List Nat := if ds.length % 2 = 0 then (pr ds).map oc1 else match ds with
  | [] => []
  | x :: r => x :: (pr r).map oc1
def vo : List Nat → Nat
  | [] => 0
  | d :: r => d + 256 * vo r
theorem vo_append : ∀ a b : List Nat, vo (a ++ b) = vo a + 256 ^ a.length * vo b
  | [], b => by simp [vo]
  | x :: r, b => by
    simp only [List.cons_append, vo, List.length_cons]
    rw [vo_append r b, Nat.mul_add, ← Nat.mul_assoc, Nat.pow_succ, Nat.mul_comm (256 ^ r.length) 256, Nat.add_assoc]
theorem vo_rev_cons (x : Nat) (r : List Nat) : vo (x :: r).reverse = vo r.reverse + 256 ^ r.length * x := by
  rw [List.reverse_cons, vo_append]; simp [vo]
theorem vo_lt : ∀ ds : List Nat, (∀ x ∈ ds, x < 256) → vo ds < 256 ^ ds.length
  | [], _ => by simp [vo]
  | d :: r, h => by
    have h1 := h d (.head _)
    have h2 := vo_lt r fun x hx => h x (.tail _ hx)
    simp only [vo, List.length_cons, Nat.pow_succ]
    omega
theorem pr_length : ∀ ds : List Nat, (pr ds).length = ds.length / 2
  | [] => rfl
  | [_] => by simp [pr]
  | x :: y :: r => by simp only [pr, List.length_cons]; rw [pr_length r]; omega
theorem pr_get : ∀ (ds : List Nat) (j : Nat), j < ds.length / 2 → (pr ds)[j]? = some (ds.getD (2 * j) 0, ds.getD (2 * j + 1) 0)
  | [], j, h => by simp at h
  | [_], j, h => by simp at h
  | x :: y :: r, 0, h => rfl
  | x :: y :: r, j + 1, h => by
    simp only [pr, List.getElem?_cons_succ]
    rw [pr_get r j (by simp at h; omega), show 2 * (j + 1) = 2 * j + 1 + 1 by omega]
    rfl
theorem pr_mem : ∀ (ds : List Nat), (∀ x ∈ ds, x < 16) → ∀ p ∈ pr ds, p.1 < 16 ∧ p.2 < 16
  | [], _, p, hp => nomatch hp
  | [_], _, p, hp => nomatch hp
  | x :: y :: r, h, p, hp => by
    rcases List.mem_cons.mp hp with rfl | hp
    · exact ⟨h _ (.head _), h _ (.tail _ (.head _))⟩
    · exact pr_mem r (fun z hz => h z (.tail _ (.tail _ hz))) p hp
theorem pow256 {n : Nat} (h : n % 2 = 0) : (256 : Nat) ^ (n / 2) = 16 ^ n := by
  have : n = 2 * (n / 2) := by omega
  conv => rhs; rw [this, Nat.pow_mul]
theorem pr_value : ∀ ds : List Nat, ds.length % 2 = 0 → vo ((pr ds).map oc1).reverse = vl ds.reverse
  | [], _ => rfl
  | [_], h => by simp at h
  | x :: y :: r, h => by
    have hr : r.length % 2 = 0 := by simp at h; omega
    simp only [pr, List.map_cons]
    rw [vo_rev_cons, pr_value r hr, vl_rev_cons, vl_rev_cons, List.length_map, pr_length, pow256 hr]
    show _ + 16 ^ r.length * (16 * x + y) = _ + 16 ^ (r.length + 1) * x
    rw [Nat.mul_add, Nat.pow_succ, ← Nat.mul_assoc]; omega
theorem oc_value (ds : List Nat) : vo (oc ds).reverse = vl ds.reverse := by
  unfold oc
  split
  · rename_i h; exact pr_value ds h
  · rename_i h
    cases ds with
    | nil => rfl
    | cons x r =>
      have hr : r.length % 2 = 0 := by simp at h; omega
      show vo (x :: (pr r).map oc1).reverse = _
      rw [vo_rev_cons, pr_value r hr, vl_rev_cons, List.length_map, pr_length, pow256 hr]
theorem oc_lt {ds : List Nat} (h : ∀ x ∈ ds, x < 16) : ∀ x ∈ oc ds, x < 256 := by
  have key : ∀ es : List Nat, (∀ x ∈ es, x < 16) → ∀ x ∈ (pr es).map oc1, x < 256 := fun es he x hx => by
    obtain ⟨p, hp, rfl⟩ := List.mem_map.mp hx
    have := pr_mem es he p hp
    unfold oc1; omega
  intro x hx
  unfold oc at hx
  split at hx
  · exact key ds h x hx
  · cases ds with
    | nil => cases hx
    | cons y r =>
      rcases List.mem_cons.mp hx with rfl | hx
      · have := h x (.head _); omega
      · exact key r (fun z hz => h z (.tail _ hz)) x hx
theorem oc_head {x : Nat} {r : List Nat} (hx : x ≠ 0) : ∃ y t, oc (x :: r) = y :: t ∧ y ≠ 0 := by
  unfold oc
  split
  · cases r with
    | nil => rename_i h; simp at h
    | cons y r => exact ⟨16 * x + y, _, rfl, by omega⟩
  · exact ⟨x, _, rfl, hx⟩

theorem figs_vo : ∀ ds : List Nat, (∀ x ∈ ds, x < 256) → figs 8 ds.length (vo ds) = ds
  | [], _ => rfl
  | x :: r, h => by
    have hx := h x (.head _)
    show (x + 256 * vo r) % 2 ^ 8 :: figs 8 r.length ((x + 256 * vo r) / 2 ^ 8) = _
    rw [show (x + 256 * vo r) % 2 ^ 8 = x by omega, show (x + 256 * vo r) / 2 ^ 8 = vo r by omega, figs_vo r fun y hy => h y (.tail _ hy)]
theorem figs_octets {ds : List Nat} (h : ∀ x ∈ ds, x < 256) (hl : ∀ r, ds ≠ r ++ [0]) : figs 8 ((Builtin.Int.intBits ((vo ds : Nat) : Int) + 8 - 1) / 8) (vo ds) = ds := by
  have e : (Builtin.Int.intBits ((vo ds : Nat) : Int) + 8 - 1) / 8 = ds.length := by
    rcases List.eq_nil_or_concat ds with rfl | ⟨r, z, rfl⟩
    · rfl
    rw [List.concat_eq_append] at *
    have hz : z ≠ 0 := fun q => hl r (by rw [q])
    have h1 : 256 ^ r.length ≤ vo (r ++ [z]) := by
      rw [vo_append]
      have := Nat.mul_le_mul_left (256 ^ r.length) (show 1 ≤ z by omega)
      simp only [vo, Nat.mul_zero, Nat.add_zero]; omega
    have h2 := vo_lt _ h
    have hp : 0 < 256 ^ r.length := Nat.pow_pos (by decide)
    have hb : Builtin.Int.intBits ((vo (r ++ [z]) : Nat) : Int) = (vo (r ++ [z])).log2 + 1 := by
      unfold Builtin.Int.intBits
      rw [if_neg (by simp; omega), Int.natAbs_natCast]
    rw [hb]
    have e16 : ∀ k, (256 : Nat) ^ k = 2 ^ (8 * k) := fun k => by rw [Nat.pow_mul]
    have hne : vo (r ++ [z]) ≠ 0 := by omega
    rw [e16] at h1 h2
    have h3 := (Nat.log2_lt hne).mpr h2
    have h4 := (Nat.le_log2 hne).mpr h1
    rw [List.length_append] at h3 ⊢
    simp only [List.length_singleton] at h3 ⊢
    omega
  rw [e, figs_vo ds h]
/-- the octets that _int2digits tells of a row's number -/
theorem row_octets {ds : List Nat} (h : ∀ x ∈ ds, x < 16) (hne : ∃ x r, ds = x :: r ∧ x ≠ 0) : figs 8 ((Builtin.Int.intBits ((vl ds.reverse : Nat) : Int) + 8 - 1) / 8) (vl ds.reverse) = (oc ds).reverse := by
  rw [← oc_value]
  refine figs_octets (fun x hx => oc_lt h x (List.mem_reverse.mp hx)) fun r e => ?_
  obtain ⟨x, t, rfl, hx⟩ := hne
  obtain ⟨y, u, e2, hy⟩ := oc_head (r := t) hx
  rw [e2, List.reverse_cons] at e
  have := List.append_inj_right' e rfl
  exact hy (List.cons.inj this).1

/-! which octets are a word -/
def inAP (o : Nat) : Bool := decide (65 ≤ o) && decide (o ≤ 80)
theorem ap_range (n : Nat) : ∀ c ∈ ap n, 65 ≤ c.toNat ∧ c.toNat ≤ 80 := by
  intro c hc
  obtain ⟨d, hd, rfl⟩ := List.mem_map.mp hc
  have := hexs_lt n d hd
  have e : ((65 + d).toUInt8).toNat = 65 + d := by simp [Nat.toUInt8]; omega
  rw [e]; omega
theorem u8 {o : Nat} (h : o < 256) : (o.toUInt8).toNat = o := by simp [Nat.toUInt8]; omega
theorem ap_octets (O : List Nat) (hO : ∀ o ∈ O, o < 256) (hne : O ≠ []) :
    (ap (val 4 ((li O.reverse).map (· - 65))).natAbs == O.map (fun o => o.toUInt8)) = (O.all inAP && decide (O.head? ≠ some 65)) := by
  cases ha : O.all inAP with
  | false =>
    rw [Bool.false_and]
    refine beq_eq_false_iff_ne.mpr fun e => ?_
    have : O.all inAP = true := List.all_eq_true.mpr fun o ho => by
      have := ap_range _ (o.toUInt8) (e ▸ List.mem_map_of_mem (f := fun (o : Nat) => o.toUInt8) ho)
      rw [u8 (hO o ho)] at this
      simp [inAP, this]
    rw [ha] at this; cases this
  | true =>
    rw [Bool.true_and]
    have hr : ∀ o ∈ O, 65 ≤ o ∧ o ≤ 80 := fun o ho => by
      have := List.all_eq_true.mp ha o ho
      simpa [inAP] using this
    obtain ⟨e, rfl, he⟩ : ∃ e : List Nat, O = e.map (65 + ·) ∧ ∀ x ∈ e, x < 16 := by
      refine ⟨O.map (· - 65), ?_, ?_⟩
      · rw [List.map_map]
        conv => lhs; rw [← List.map_id O]
        refine List.map_congr_left fun o ho => ?_
        have := hr o ho
        simp only [id, Function.comp_apply]; omega
      · intro x hx
        obtain ⟨o, ho, rfl⟩ := List.mem_map.mp hx
        have := hr o ho
        omega
    have ev : val 4 ((li (e.map (65 + ·)).reverse).map (· - 65)) = (vl e.reverse : Int) := by
      rw [← List.map_reverse, back65, val_vl]
    rw [ev, Int.natAbs_natCast, ap, hexs_vl _ e rfl he]
    have eb : (e.map (65 + ·)).map (fun (o : Nat) => o.toUInt8) = apw e := by rw [List.map_map]; rfl
    rw [eb]
    cases e with
    | nil => exact absurd rfl hne
    | cons x r =>
      by_cases hx : x = 0
      · subst hx
        have : dropZ (0 :: r) = dropZ r := rfl
        have hl : (dropZ r).length ≤ r.length := (List.dropWhile_sublist _).length_le
        rw [this, decide_eq_false (by simp)]
        refine beq_eq_false_iff_ne.mpr fun q => ?_
        have := congrArg List.length q
        rw [apw_length, apw_length, List.length_cons] at this
        omega
      · rw [dropZ_id (fun y t q => by cases q; exact hx), decide_eq_true (by simp; omega)]
        simp

def okP (p : Nat × Nat) : Bool := (p.1 == 5 && p.2 == 0) || (p.1 == 4 && p.2 != 0)
def goodN (ds : List Nat) : Bool := decide (ds.length % 2 = 0) && (decide ((pr ds).head? ≠ some (4, 1)) && (pr ds).all okP)
theorem okP_in {p : Nat × Nat} (h : p.1 < 16 ∧ p.2 < 16) : inAP (oc1 p) = okP p := by
  obtain ⟨x, y⟩ := p
  have key : ∀ x, x < 16 → ∀ y, y < 16 → inAP (oc1 (x, y)) = okP (x, y) := by decide
  exact key x h.1 y h.2
theorem good_octets {ds : List Nat} (h : ∀ x ∈ ds, x < 16) (hne : ∃ x r, ds = x :: r ∧ x ≠ 0) : ((oc ds).all inAP && decide ((oc ds).head? ≠ some 65)) = goodN ds := by
  obtain ⟨x, r, rfl, hx⟩ := hne
  by_cases hl : (x :: r).length % 2 = 0
  · have e : oc (x :: r) = (pr (x :: r)).map oc1 := by unfold oc; rw [if_pos hl]
    have ea : ((pr (x :: r)).map oc1).all inAP = (pr (x :: r)).all okP := by
      rw [List.all_map, Bool.eq_iff_iff, List.all_eq_true, List.all_eq_true]
      refine ⟨fun q p hp => ?_, fun q p hp => ?_⟩
      · have := q p hp; simp only [Function.comp_apply] at this; rwa [okP_in (pr_mem _ h p hp)] at this
      · simp only [Function.comp_apply]; rw [okP_in (pr_mem _ h p hp)]; exact q p hp
    rw [e, ea]
    unfold goodN
    rw [decide_eq_true hl, Bool.true_and, Bool.and_comm]
    congr 1
    cases r with
    | nil => simp at hl
    | cons y t =>
      have hx16 := h x (.head _)
      have hy16 := h y (.tail _ (.head _))
      show decide (some (16 * x + y) ≠ some 65) = decide (some (x, y) ≠ some (4, 1))
      rw [Bool.eq_iff_iff]
      simp only [ne_eq, decide_eq_true_eq, Option.some.injEq, Prod.mk.injEq]
      omega
  · have e : oc (x :: r) = x :: (pr r).map oc1 := by unfold oc; rw [if_neg hl]
    unfold goodN
    rw [decide_eq_false hl, e]
    have : inAP x = false := by
      have := h x (.head _)
      simp [inAP]; omega
    rw [List.all_cons, this]
    simp
def backN (ds : List Nat) : List Nat := (pr ds).map fun p => (p.2 + 15) % 16
theorem back_value {ds : List Nat} (h : ∀ x ∈ ds, x < 16) (hg : goodN ds = true) : val 4 ((li (oc ds).reverse).map (· - 65)) = (vl (backN ds).reverse : Int) := by
  unfold goodN at hg
  rw [Bool.and_eq_true, Bool.and_eq_true] at hg
  have hl : ds.length % 2 = 0 := of_decide_eq_true hg.1
  have e : oc ds = (backN ds).map (65 + ·) := by
    unfold oc backN; rw [if_pos hl, List.map_map]
    refine List.map_congr_left fun p hp => ?_
    have h1 := pr_mem _ h p hp
    have h2 := List.all_eq_true.mp hg.2.2 p hp
    simp only [Function.comp_apply, oc1]
    simp [okP] at h2
    omega
  rw [e, ← List.map_reverse, back65, val_vl]
theorem back_lt (ds : List Nat) : ∀ x ∈ backN ds, x < 16 := fun x hx => by
  obtain ⟨p, _, rfl⟩ := List.mem_map.mp hx
  omega
theorem back_head {ds : List Nat} (h : ∀ x ∈ ds, x < 16) (hg : goodN ds = true) : ∀ x r, backN ds = x :: r → x ≠ 0 := by
  intro x r e
  unfold goodN at hg
  rw [Bool.and_eq_true, Bool.and_eq_true] at hg
  have h2 : (pr ds).head? ≠ some (4, 1) := of_decide_eq_true hg.2.1
  unfold backN at e
  cases hp : pr ds with
  | nil => rw [hp] at e; cases e
  | cons p t =>
    rw [hp] at e h2
    have h3 := List.all_eq_true.mp hg.2.2 p (by rw [hp]; exact .head _)
    have e1 : (p.2 + 15) % 16 = x := (List.cons.inj e).1
    have h4 : p ≠ (4, 1) := fun q => h2 (by rw [q]; rfl)
    obtain ⟨a, b⟩ := p
    have h1 := pr_mem _ h (a, b) (by rw [hp]; exact .head _)
    simp [okP] at h3
    simp only [ne_eq, Prod.mk.injEq, not_and] at h4
    simp only at h1 e1 h3
    omega
end Mine
namespace Mine
open PySem PySem.Calls PySem.W PyProof.Rows
variable {C : Cfg}

section
variable {A : Around} {env : Env} {X : List Addr} {ρ : List (Str × PV)} {g0 : Heap} {s : Shared} {Q : Flow → Shared → Prop} {E : Value → Shared → Prop} {rest : List Stmt}
/-- an if without else, both ways to one state -/
theorem do_ifJ {t : Expr} {body : List Stmt} {pos : Pos} {b : Bool} (ρ' : List (Str × PV)) (S : St C A env X g0 ρ s.heap) (ht : Tst C A env X ρ t b)
    (hb : b = true → ∀ h tk (Q' : Flow → Shared → Prop), St C A env X g0 ρ h → (∀ h' tk', St C A env X g0 ρ' h' → Q' .next { s with heap := h', toks := tk' }) → wpAny C.M A (execs body env) Q' E { s with heap := h, toks := tk })
    (hf : b = false → ∀ h, St C A env X g0 ρ h → St C A env X g0 ρ' h) (k : ∀ h tk, St C A env X g0 ρ' h → wpAny C.M A (execs rest env) Q E { s with heap := h, toks := tk }) : wpAny C.M A (execs (.If t body [] pos :: rest) env) Q E s := by
  refine do_if S ht fun h tk S' => ?_
  cases b with
  | true => exact hb rfl h tk _ S' fun h' tk' r => k h' tk' r
  | false => exact wpAny_execs_nil (k h tk (hf rfl h S'))
end
theorem li_set (ds : List Nat) (i x : Nat) : (li ds).set i (x : Int) = li (ds.set i x) := by simp [li, List.map_set]
theorem zip_range : ∀ a b : List Nat, a.length = b.length → (li (List.range b.length)).map (fun i => ((a.getD i.toNat 0 : Nat) : Int) + ((b.getD i.toNat 0 : Nat) : Int)) = li (List.zipWith (· + ·) a b) := by
  intro a b h
  simp only [li, List.map_map]
  apply List.ext_getElem?
  intro i
  rw [List.getElem?_map, List.getElem?_map, List.getElem?_zipWith]
  by_cases hi : i < b.length
  · have ha : i < a.length := by omega
    rw [List.getElem?_range hi, List.getElem?_eq_getElem hi, List.getElem?_eq_getElem ha]
    simp [List.getD, List.getElem?_eq_getElem hi, List.getElem?_eq_getElem ha]
  · rw [List.getElem?_eq_none (by simpa using hi), List.getElem?_eq_none (l := a) (by omega)]; rfl

set_option maxHeartbeats 1000000 in
theorem law_word (hK : C.K = hd.heap_39 C.w.params) {A : Around} {d : Nat} (rm : Room A (d + 1)) (ds : List Nat) (hds : ∀ x ∈ ds, x < 16) (hlen : ds.length ≤ 1000) : Cal C A (.ref 68) [.il (li ds)] (.bytes (apw (dropZ ds))) := by
  refine Cal.fn rm ["letters"] ((congrArg _ hK).trans rfl) (by rw [hK]; rfl) ?_ rfl (by decide) rfl rfl rfl rfl rfl ?_
  · intro vs h; rcases vs with _ | ⟨a, _ | ⟨b, r⟩⟩ <;> first | rfl | (simp at h)
  intro X L g0 s Q E rm' S k
  generalize A.deeper _ = A' at rm' S ⊢
  have gLen : GlobIs C "len" (.builtin "len") := globB (by rw [hK]; rfl) (by boot_fast) (by decide)
  have gB : GlobIs C "bytes" (.type "bytes") := globB (by rw [hK]; rfl) (by boot_fast) (by decide)
  have hsz : (li ds).length ≤ sizeLine := by rw [li_length, sl]; omega
  refine do_assign S Ev.int (.inl rfl) fun h1 t1 S => ?_
  refine do_while (σ := Nat) (fun i => [("front", .int i), ("letters", .il (li ds))]) (fun i => ds.length - i) (fun i => i ≤ ds.length ∧ dropZ ds = dropZ (ds.drop i)) (fun i => decide (ds[i]? = some 0)) 0 ⟨Nat.zero_le _, rfl⟩ (S.sub (lk_cons rfl (lk_cons rfl lk_nil))) ?_ ?_ ?_
  · rintro i ⟨hi, _⟩
    refine Tst.and ?_
    by_cases hlt : i < ds.length
    · have hx : (li ds)[((i : Int)).toNat]? = some ((ds[i] : Nat) : Int) := by rw [li_get, Int.toNat_natCast, List.getElem?_eq_getElem hlt]; rfl
      have hb : decide (ds[i]? = some 0) = (((ds[i] : Nat) : Int) == 0) := by
        rw [List.getElem?_eq_getElem hlt, Bool.eq_iff_iff]; simp
      rw [hb]
      refine .cons ((Tst.cmp (Ev.name rfl) (Ev.callBi gLen (.cons (Ev.name rfl) .nil) (Cal.len .il hsz)) Op2.lt).eq (by rw [li_length]; exact decide_eq_true (by omega))) ?_
      cases hz : (((ds[i] : Nat) : Int) == 0) with
      | true => exact .cons ((Tst.cmp (Ev.item (Ev.name rfl) LI.il (Ev.name rfl) (by omega) hx hsz) Ev.int Op2.eq).eq hz) .nil
      | false => exact .stop ((Tst.cmp (Ev.item (Ev.name rfl) LI.il (Ev.name rfl) (by omega) hx hsz) Ev.int Op2.eq).eq hz)
    · have hb : decide (ds[i]? = some 0) = false := by rw [List.getElem?_eq_none (by omega)]; rfl
      rw [hb]
      exact .stop ((Tst.cmp (Ev.name rfl) (Ev.callBi gLen (.cons (Ev.name rfl) .nil) (Cal.len .il hsz)) Op2.lt).eq (by rw [li_length]; exact decide_eq_false (by omega)))
  · rintro i s' Q' E' ⟨hi, hP⟩ hm S k'
    have hm' : ds[i]? = some 0 := by simpa using hm
    have hlt : i < ds.length := by
      rcases Nat.lt_or_ge i ds.length with h | h
      · exact h
      · rw [List.getElem?_eq_none h] at hm'; cases hm'
    refine do_augAdd S rfl Ev.int (.inl rfl) fun h2 t2 S => do_nil S (k' (i + 1) h2 t2 ⟨by omega, ?_⟩ (by omega) (S.sub (lk_cons rfl (lk_cons rfl lk_nil))))
    rw [hP, List.drop_eq_getElem_cons hlt]
    have : ds[i] = 0 := by rw [List.getElem?_eq_getElem hlt] at hm'; exact Option.some.inj hm'
    rw [this]; rfl
  · rintro i h2 t2 ⟨hi, hP⟩ hm S
    have hm' : ds[i]? ≠ some 0 := by simpa using hm
    have hd2 : dropZ ds = ds.drop i := by
      rw [hP]
      rcases Nat.lt_or_ge i ds.length with h | h
      · rw [List.drop_eq_getElem_cons h]
        rw [List.getElem?_eq_getElem h] at hm'
        have : ¬ ds[i] = 0 := fun q => hm' (by rw [q])
        unfold dropZ; rw [List.dropWhile_cons_of_neg (by simpa using this)]
      · rw [List.drop_eq_nil_of_le h]; rfl
    have e1 : PV.il (pickNums (li ds) (some (i : Int)) none none) = .il (li (ds.drop i)) := by rw [pick_from, li_drop]
    have hsz2 : (li (ds.drop i)).length ≤ sizeLine := by rw [li_length, sl]; simp; omega
    refine do_return S (Ev.callTy gB (.cons ((EvN.comp [] [] kT (gI (65 + ·)) ⟨rfl, rfl, rfl, rfl, rfl⟩ ((Ev.slice (Ev.name rfl) LI.il (.some (Ev.name rfl)) .none .none (by decide) hsz).eq e1) (Src.list rm') (by simpa using hsz2) .nil (gI_elem _) ?_ ?_).il (comp_map _ _)) .nil) (Cal.bytes rm' .il ?_ ?_)) fun v h' tk kp ok r => k v h' tk kp ok (rep_eq r ?_)
    · intro item _ C'; exact .nil
    · intro item hm _ C'
      obtain ⟨x, _, rfl⟩ := List.mem_map.mp hm
      exact Ev.binop Ev.int (Ev.name rfl) Op2.add
    · intro n hn
      obtain ⟨x, hx, rfl⟩ := List.mem_map.mp hn
      obtain ⟨y, hy, rfl⟩ := List.mem_map.mp hx
      have := hds y (List.mem_of_mem_drop hy)
      omega
    · simpa using hsz2
    · rw [hd2]
      simp only [apw, li, List.map_map]
      congr 1

set_option maxHeartbeats 1000000 in
theorem law_value (hK : C.K = hd.heap_39 C.w.params) {A : Around} {d : Nat} (rm : Room A (d + 1)) (ds : List Nat) (hds : ∀ x ∈ ds, x < 16) (hlen : ds.length ≤ 60) : Cal C A (.ref 75) [.il (li ds)] (.int (vl ds.reverse : Int)) := by
  have hsl := sl
  have hll := li_length ds
  have hsz : (li ds).length ≤ sizeLine := by omega
  refine Cal.fn rm ["letters"] ((congrArg _ hK).trans rfl) (by rw [hK]; rfl) ?_ rfl (by decide) rfl rfl rfl rfl rfl ?_
  · intro vs h; rcases vs with _ | ⟨a, _ | ⟨b, r⟩⟩ <;> first | rfl | (simp at h)
  intro X L g0 s Q E rm' S k
  generalize A.deeper _ = A' at rm' S ⊢
  refine do_assign S Ev.int (.inl rfl) fun h1 t1 S => ?_
  refine do_for (σ := Nat) (items := (li ds).map .int) (fun z => [("value", .int z), ("letters", .il (li ds))])
    (fun i z => z = vl (ds.take i).reverse) (fun _ => False) 0 rfl (S.sub (lk_cons rfl (lk_cons rfl lk_nil))) (ItE.of (Ev.name rfl) (Src.list rm')) (.inl rfl) ?_ ?_ ?_ (fun _ _ _ _ q => q.elim) List.Pairwise.nil
  · intro q hq
    obtain ⟨x, _, rfl⟩ := mem_ints hq
    rfl
  · rintro i item z g s' Q' E' hitem hz S k' kr'
    have hlt : i < ds.length := by
      rcases Nat.lt_or_ge i ds.length with h | h
      · exact h
      · rw [List.getElem?_eq_none (by simpa [li] using h)] at hitem; cases hitem
    have hit : item = .int ((ds[i] : Nat) : Int) := by
      rw [List.getElem?_map, li_get, List.getElem?_eq_getElem hlt] at hitem
      exact (Option.some.inj hitem).symm
    subst hit
    have hzl : z < 16 ^ 60 := by
      rw [hz]
      refine Nat.lt_of_lt_of_le (vl_lt _ fun x hx => hds x ?_) (Nat.pow_le_pow_right (by decide) ?_)
      · exact List.mem_of_mem_take (List.mem_reverse.mp hx)
      · simp; omega
    have e1 : (z : Int) * 16 + ((ds[i] : Nat) : Int) = ((z * 16 + ds[i] : Nat) : Int) := by simp
    refine do_assign S ((Ev.binop (Ev.binop (Ev.name rfl) Ev.int (Op2.mul (mulOk (k := 240) (by rw [Int.natAbs_natCast]; exact Nat.lt_of_lt_of_le hzl (by decide)) (by decide) (by decide)))) (Ev.name rfl) Op2.add).eq (congrArg PV.int e1)) (.inl rfl) fun h2 t2 S => ?_
    refine do_nil S (k' (z * 16 + ds[i]) h2 t2 ?_ (S.sub (lk_cons rfl (lk_cons rfl lk_nil))))
    show z * 16 + ds[i] = _
    rw [List.take_succ_eq_append_getElem hlt, List.reverse_append, List.reverse_singleton, List.singleton_append]
    show _ = _ + 16 * vl _
    rw [← hz]; omega
  · rintro z h2 t2 hz S
    refine do_return S (Ev.name rfl) fun v h' tk kp ok r => k v h' tk kp ok (rep_eq r ?_)
    have : ((li ds).map PV.int).length = ds.length := by simp [li]
    rw [this, List.take_length] at hz
    rw [hz]

set_option maxHeartbeats 1000000 in
theorem law_marks (hK : C.K = hd.heap_39 C.w.params) {A : Around} {d : Nat} (rm : Room A (d + 1)) (n : Nat) (hn : n ≤ 3) : Cal C A (.ref 89) [.int n] (.il (li (marksN n))) := by
  have hsl := sl
  refine Cal.fn rm ["rounds"] ((congrArg _ hK).trans rfl) (by rw [hK]; rfl) ?_ rfl (by decide) rfl rfl rfl rfl rfl ?_
  · intro vs h; rcases vs with _ | ⟨a, _ | ⟨b, r⟩⟩ <;> first | rfl | (simp at h)
  intro X L g0 s Q E rm' S k
  generalize A.deeper _ = A' at rm' S ⊢
  have gR : GlobIs C "range" (.type "range") := globB (by rw [hK]; rfl) (by boot_fast) (by decide)
  refine do_assign S (Ev.list (xs := []) .nil rfl (by decide)) (.inl rfl) fun h1 t1 S => ?_
  refine do_for (σ := Nat) (items := (li (List.range n)).map .int) (fun z => [("marks", .il (li (marksN z))), ("rounds", .int n)])
    (fun i z => z = i ∧ i ≤ n) (fun _ => False) 0 ⟨rfl, Nat.zero_le _⟩ (S.sub (lk_cons rfl (lk_cons rfl lk_nil))) (ItE.of (Ev.callTy gR (.cons (Ev.name rfl) .nil) Cal.range1) (Src.upto rm' n (by omega))) (.inl rfl) ?_ ?_ ?_ (fun _ _ _ _ q => q.elim) List.Pairwise.nil
  · intro q hq
    obtain ⟨x, _, rfl⟩ := mem_ints hq
    rfl
  · rintro i item z g s' Q' E' hitem ⟨rfl, hi⟩ S k' kr'
    have hlt : z < n := by
      rcases Nat.lt_or_ge z n with h | h
      · exact h
      · rw [List.getElem?_eq_none (by simpa [li] using h)] at hitem; cases hitem
    have hit : item = .int (z : Int) := by
      rw [List.getElem?_map, li_get, List.getElem?_range hlt] at hitem
      exact (Option.some.inj hitem).symm
    subst hit
    have hml := marks_length z
    have hp : 2 ^ z ≤ 2 ^ 3 := Nat.pow_le_pow_right (by decide) (by omega)
    have e1 : PV.il (li (marksN z) ++ [4 + (z : Int)] ++ li (marksN z)) = .il (li (marksN (z + 1))) := by
      simp only [marksN, li_append]; rfl
    have e2 : (li (marksN z) ++ [4 + (z : Int)]).length = (marksN z).length + 1 := by simp [li]
    have e3 : (li (marksN z)).length = (marksN z).length := li_length _
    refine do_assign S ((Ev.binop (Ev.binop (Ev.name rfl) (Ev.list (xs := [4 + (z : Int)]) (.cons (Ev.binop Ev.int (Ev.name rfl) Op2.add) .nil) rfl (show 1 ≤ sizeLine by decide)) (Op2.addList .il .il (by rw [e3]; show _ + 1 ≤ _; omega))) (Ev.name rfl) (Op2.addList .il .il (by rw [e2, e3]; omega))).eq e1) (.inl rfl) fun h2 t2 S => ?_
    exact do_nil S (k' (z + 1) h2 t2 ⟨rfl, hlt⟩ (S.sub (lk_cons rfl (lk_cons rfl lk_nil))))
  · rintro z h2 t2 ⟨hz, _⟩ S
    refine do_return S (Ev.name rfl) fun v h' tk kp ok r => k v h' tk kp ok (rep_eq r ?_)
    have : ((li (List.range n)).map PV.int).length = n := by simp [li]
    rw [this] at hz
    rw [hz]

set_option maxHeartbeats 2000000 in
theorem law_left (hK : C.K = hd.heap_39 C.w.params) {A : Around} {d : Nat} (rm : Room A (d + 1)) (ds : List Nat) (hds : ∀ x ∈ ds, x < 16) (hlen : ds.length ≤ 3) (n : Nat) (hn1 : 1 ≤ n) (hn : n ≤ 3) : Cal C A (.ref 82) [.il (li ds), .int n] (.il (li (leftN n ds))) := by
  have hsl := sl
  have hp : 2 ^ n ≤ 2 ^ 3 := Nat.pow_le_pow_right (by decide) hn
  have hp2 : 2 ≤ 2 ^ n := by have := Nat.pow_le_pow_right (show 0 < 2 by decide) hn1; omega
  refine Cal.fn rm ["figures", "rounds"] ((congrArg _ hK).trans rfl) (by rw [hK]; rfl) ?_ rfl (by decide) rfl rfl rfl rfl rfl ?_
  · intro vs h; rcases vs with _ | ⟨a, _ | ⟨b, _ | ⟨c, r⟩⟩⟩ <;> first | rfl | (simp at h)
  intro X L g0 s Q E rm' S k
  generalize A.deeper _ = A' at rm' S ⊢
  refine do_assign S (Ev.list (xs := []) .nil rfl (by decide)) (.inl rfl) fun h1 t1 S => ?_
  refine do_for (σ := List Nat) (items := (li ds).map .int) (fun z => [("letters", .il (li z)), ("figures", .il (li ds)), ("rounds", .int n)])
    (fun i z => z = leftN n (ds.take i)) (fun _ => False) [] rfl (S.sub (lk_cons rfl (lk_cons rfl (lk_cons rfl lk_nil)))) (ItE.of (Ev.name rfl) (Src.list rm')) (.inl rfl) ?_ ?_ ?_ (fun _ _ _ _ q => q.elim) List.Pairwise.nil
  · intro q hq
    obtain ⟨x, _, rfl⟩ := mem_ints hq
    rfl
  · rintro i item z g s' Q' E' hitem hz S k' kr'
    have hlt : i < ds.length := by
      rcases Nat.lt_or_ge i ds.length with h | h
      · exact h
      · rw [List.getElem?_eq_none (by simpa [li] using h)] at hitem; cases hitem
    have hit : item = .int ((ds[i] : Nat) : Int) := by
      rw [List.getElem?_map, li_get, List.getElem?_eq_getElem hlt] at hitem
      exact (Option.some.inj hitem).symm
    subst hit
    have hd16 : ds[i] < 16 := hds _ (List.getElem_mem hlt)
    generalize hdd : ds[i] = dd at *
    have hzl : z.length ≤ 3 * 2 ^ n := by
      rw [hz, leftN_length, List.length_take]
      exact Nat.mul_le_mul_right _ (by omega)
    have e1 : (2 : Int) ^ ((n : Int)).toNat = ((2 ^ n : Nat) : Int) := by rw [Int.toNat_natCast]; simp
    have e2 : (List.replicate (((2 ^ n : Nat) : Int)).toNat [(0 : Int)]).flatten.map PV.int = (li (List.replicate (2 ^ n) 0)).map PV.int := by
      rw [Int.toNat_natCast, zeros]; simp [li]
    have hib : ((Builtin.Int.intBits (2 : Int) : Nat) : Int) = 2 := by decide
    refine do_own S (EvN.mul (Ev.list (xs := [0]) (.cons Ev.int .nil) rfl (by decide)) ((Ev.binop Ev.int (Ev.name rfl) (Op2.pow (by omega) (by rw [hib]; omega))).eq (congrArg PV.int e1)) LI.il (by omega) (by omega) (by rw [Int.toNat_natCast]; simp; omega)) e2 (.inl rfl) fun D h2 t2 hD S => ?_
    have hl0 : (li (List.replicate (2 ^ n) 0)).length = 2 ^ n := by simp [li]
    have e3 : ((dd : Int) + (n : Int)).fmod 16 = (((dd + n) % 16 : Nat) : Int) := fmod_nat (dd + n) 16
    refine do_setitem S rfl (Ev.unop Ev.int Op1.neg) ((Ev.binop (Ev.binop (Ev.name rfl) (Ev.name rfl) Op2.add) Ev.int (Op2.mod (by decide) (PyProof.noPylong_small (by decide)))).eq (congrArg PV.int e3)) (by rw [hl0]; omega) (by rw [hl0]; omega) (by rw [hl0]; omega) fun h3 t3 S => ?_
    rw [if_pos (by decide), hl0, li_set, show (-1 + ((2 ^ n : Nat) : Int)).toNat = 2 ^ n - 1 by omega] at S
    generalize hb0 : (List.replicate (2 ^ n) 0).set (2 ^ n - 1) ((dd + n) % 16) = b0 at S
    have hb0l : b0.length = 2 ^ n := by rw [← hb0]; simp
    have hlB : leftB n dd = if 16 ≤ dd + n then b0.set (2 ^ n - 1 - 2 ^ (dd + n - 16)) 1 else b0 := by unfold leftB; rw [hb0]
    refine do_ifJ (b := decide (((dd : Int) + (n : Int)) ≥ 16)) [("block", .own D (li (leftB n dd))), ("letters", .il (li z)), ("figures", .il (li ds)), ("rounds", .int n)] S (Tst.cmp (Ev.binop (Ev.name rfl) (Ev.name rfl) Op2.add) Ev.int Op2.ge) ?_ ?_ fun h4 t4 S => ?_
    · intro hge h4 t4 Q'' S kq
      have hge' : 16 ≤ dd + n := by have := of_decide_eq_true hge; omega
      have hq : 2 ^ (dd + n - 16) ≤ 2 ^ (n - 1) := Nat.pow_le_pow_right (by decide) (by omega)
      have hq2 : 2 ^ n = 2 * 2 ^ (n - 1) := by
        obtain ⟨m, rfl⟩ : ∃ m, n = m + 1 := ⟨n - 1, by omega⟩
        rw [Nat.add_sub_cancel, Nat.pow_succ, Nat.mul_comm]
      have hq0 := Nat.two_pow_pos (dd + n - 16)
      have e4 : ((dd : Int) + (n : Int) - 16) = ((dd + n - 16 : Nat) : Int) := by omega
      have e5 : (2 : Int) ^ (((dd + n - 16 : Nat) : Int)).toNat = ((2 ^ (dd + n - 16) : Nat) : Int) := by rw [Int.toNat_natCast]; simp
      generalize hw : 2 ^ (dd + n - 16) = w at *
      have e6 : (-1 : Int) - (w : Int) = -((w : Int) + 1) := by omega
      have e7 : PV.int 1 = .int (((1 : Nat)) : Int) := rfl
      have hlb : (li b0).length = 2 ^ n := by rw [li_length, hb0l]
      refine do_setitem S rfl ((Ev.binop (Ev.unop Ev.int Op1.neg) ((Ev.binop Ev.int ((Ev.binop (Ev.binop (Ev.name rfl) (Ev.name rfl) Op2.add) Ev.int Op2.sub).eq (congrArg PV.int e4)) (Op2.pow (by omega) (by rw [hib]; omega))).eq (congrArg PV.int e5)) Op2.sub).eq (congrArg PV.int e6)) (Ev.int.eq e7) (by rw [hlb]; omega) (by rw [hlb]; omega) (by rw [hlb]; omega) fun h5 t5 S => ?_
      rw [if_pos (by omega), hlb, li_set, show (-((w : Int) + 1) + ((2 ^ n : Nat) : Int)).toNat = 2 ^ n - 1 - w by omega] at S
      refine do_nil S (kq h5 t5 (S.sub (lk_cons ?_ (lk_cons rfl (lk_cons rfl (lk_cons rfl lk_nil))))))
      rw [hlB, if_pos hge']; rfl
    · intro hge h4 S
      have hge' : ¬ 16 ≤ dd + n := by have := of_decide_eq_false hge; omega
      refine S.sub (lk_cons ?_ (lk_cons rfl (lk_cons rfl (lk_cons rfl lk_nil))))
      rw [hlB, if_neg hge']; rfl
    have S := S.free hD (x := "block") rfl (ρ' := [("letters", .il (li z)), ("figures", .il (li ds)), ("rounds", .int n)]) (fun y pv e => ⟨lk_cons rfl (lk_cons rfl (lk_cons rfl lk_nil)) y pv e, ?_⟩)
    · have e8 : PV.il (li z ++ li (leftB n dd)) = .il (li (z ++ leftB n dd)) := by rw [li_append]
      refine do_assign S ((Ev.binop (Ev.name rfl) (Ev.name rfl) (Op2.addList .il .il (by rw [li_length, li_length, leftB_length]; omega))).eq e8) (.inl rfl) fun h5 t5 S => ?_
      refine do_nil S (k' (z ++ leftB n dd) h5 t5 ?_ (S.sub (lk_cons rfl (lk_cons rfl (lk_cons rfl lk_nil)))))
      show z ++ leftB n dd = _
      rw [List.take_succ_eq_append_getElem hlt, hdd, hz]
      unfold leftN
      rw [List.flatMap_append]; simp
    · have := mem_of_lookup e
      simp only [List.mem_cons, List.not_mem_nil, or_false] at this
      rcases this with q | q | q <;> cases q <;> rfl
  · rintro z h2 t2 hz S
    refine do_return S (Ev.name rfl) fun v h' tk kp ok r => k v h' tk kp ok (rep_eq r ?_)
    have : ((li ds).map PV.int).length = ds.length := by simp [li]
    rw [this, List.take_length] at hz
    rw [hz]

set_option maxHeartbeats 2000000 in
theorem law_letters (hK : C.K = hd.heap_39 C.w.params) {A : Around} {d : Nat} (rm : Room A (d + 2)) (ds : List Nat) (hds : ∀ x ∈ ds, x < 16) (hlen : ds.length ≤ 3) (n : Nat) (hn1 : 1 ≤ n) (hn : n ≤ 3) : Cal C A (.ref 94) [.il (li ds), .int n] (.il (li (lettersN n ds))) := by
  have hsl := sl
  have hp : 2 ^ n ≤ 2 ^ 3 := Nat.pow_le_pow_right (by decide) hn
  have hp0 := Nat.two_pow_pos n
  refine Cal.fn rm ["figures", "rounds"] ((congrArg _ hK).trans rfl) (by rw [hK]; rfl) ?_ rfl (by decide) rfl rfl rfl rfl rfl ?_
  · intro vs h; rcases vs with _ | ⟨a, _ | ⟨b, _ | ⟨c, r⟩⟩⟩ <;> first | rfl | (simp at h)
  intro X L g0 s Q E rm' S k
  generalize A.deeper _ = A' at rm' S ⊢
  have gR : GlobIs C "range" (.type "range") := globB (by rw [hK]; rfl) (by boot_fast) (by decide)
  have gLen : GlobIs C "len" (.builtin "len") := globB (by rw [hK]; rfl) (by boot_fast) (by decide)
  have gM : GlobIs C "_law_marks" (.ref 89) := globK (by rw [hK]; rfl)
  have gL : GlobIs C "_law_left" (.ref 82) := globK (by rw [hK]; rfl)
  have hml := marks_length n
  have hll := li_length ds
  have hm0 : (li (marksN n)).length = 2 ^ n - 1 := by rw [li_length, hml]
  have e0 : PV.il (li (marksN n) ++ [0]) = .il (li (marksN n ++ [0])) := by rw [li_append]; rfl
  have hm1 : (li (marksN n ++ [0])).length = 2 ^ n := by rw [li_length, List.length_append, hml, List.length_singleton]; omega
  have e1 : PV.int ((li ds).length : Int) = .int (ds.length : Int) := by rw [hll]
  have e2 : PV.il (List.replicate ((ds.length : Int)).toNat (li (marksN n ++ [0]))).flatten = .il (li (rowM n ds.length)) := by
    rw [Int.toNat_natCast]
    congr 1
    unfold rowM
    simp [li, List.map_flatten]
  have hmul : (li (marksN n ++ [0])).length * ((ds.length : Int)).toNat ≤ 2 ^ 24 := by
    rw [hm1, Int.toNat_natCast]
    exact Nat.le_trans (Nat.mul_le_mul hp hlen) (by decide)
  refine do_assign S ((Ev.binop ((Ev.binop (Ev.callFn gM (C.kIn _ _ ((congrArg _ hK).trans rfl)) rfl (.cons (Ev.name rfl) .nil) (law_marks hK rm' n hn)) (Ev.list (xs := [0]) (.cons Ev.int .nil) rfl (by decide)) (Op2.addList .il .il (by rw [hm0]; show _ + 1 ≤ _; omega))).eq e0) ((Ev.callBi gLen (.cons (Ev.name rfl) .nil) (Cal.len .il (by omega))).eq e1) (Op2.mulList LI.il (by omega) (by omega) hmul)).eq e2) (.inr ⟨rfl, rfl⟩) fun h1 t1 S => ?_
  refine do_assign S (Ev.callFn gL (C.kIn _ _ ((congrArg _ hK).trans rfl)) rfl (.cons (Ev.name rfl) (.cons (Ev.name rfl) .nil)) (law_left hK rm' ds hds hlen n hn1 hn)) (.inr ⟨rfl, rfl⟩) fun h2 t2 S => ?_
  have l1 := rowM_length n ds.length
  have l2 := leftN_length n ds
  have hbig : ds.length * 2 ^ n ≤ 24 := Nat.le_trans (Nat.mul_le_mul hlen hp) (by decide)
  generalize hM : rowM n ds.length = M at *
  generalize hL : leftN n ds = F at *
  have hfl : (li F).length = F.length := li_length _
  have hml2 : (li M).length = M.length := li_length _
  have e3 : PV.rg 0 ((li F).length : Int) 1 = .rg 0 (F.length : Int) 1 := by rw [hfl]
  refine do_return S ((EvN.comp [("marks", L + 1), ("left", L + 2)] [("marks", .il (li M)), ("left", .il (li F))] kT (gI fun i => ((M.getD i.toNat 0 : Nat) : Int) + ((F.getD i.toNat 0 : Nat) : Int)) ⟨rfl, rfl, rfl, rfl, rfl⟩ ((Ev.callTy gR (.cons (Ev.callBi gLen (.cons (Ev.name rfl) .nil) (Cal.len .il (by omega))) .nil) Cal.range1).eq e3) (Src.upto rm' F.length (by omega)) (by simp [li]; omega) (.cons rfl (.inl rfl) rfl (.inl rfl) (.cons rfl (.inl rfl) rfl (.inl rfl) .nil)) (gI_elem _) (fun _ _ _ => .nil) ?_).il (comp_map _ _)) fun v h' tk kp ok r => k v h' tk kp ok (rep_eq r ?_)
  · intro item hm _ C'
    obtain ⟨x, hx, rfl⟩ := mem_ints hm
    obtain ⟨i, hi, rfl⟩ := List.mem_map.mp hx
    have hi' : i < F.length := List.mem_range.mp hi
    have hg : ∀ (G : List Nat), i < G.length → (li G)[((i : Int)).toNat]? = some ((G.getD ((i : Int)).toNat 0 : Nat) : Int) := fun G hG => by
      rw [Int.toNat_natCast, li_get, List.getElem?_eq_getElem hG]; simp [List.getD, List.getElem?_eq_getElem hG]
    exact Ev.binop (Ev.item (Ev.name rfl) LI.il (Ev.name rfl) (by omega) (hg M (by omega)) (by omega)) (Ev.item (Ev.name rfl) LI.il (Ev.name rfl) (by omega) (hg F hi') (by omega)) Op2.add
  · rw [zip_range M F (by omega)]; unfold lettersN; rw [hM, hL]
end Mine
namespace Mine
open PySem PySem.Calls PySem.W PyProof.Rows
variable {C : Cfg}

section
variable {A : Around} {env : Env} {X : List Addr} {ρ : List (Str × PV)}
theorem EvAnd.three {e f g : Expr} {a b c : Bool} (he : Ev C A env X ρ e (.bool a)) (hf : a = true → Ev C A env X ρ f (.bool b)) (hg : a = true → b = true → Ev C A env X ρ g (.bool c)) : EvAnd C A env X ρ [e, f, g] (a && (b && c)) := by
  cases a with
  | false => exact .stop he
  | true =>
    cases b with
    | false => exact .cons he (.stop (hf rfl))
    | true => exact .cons he (.cons (hf rfl) (.one (hg rfl rfl)))
theorem TsAnd.two {e f : Expr} {a b : Bool} (he : Tst C A env X ρ e a) (hf : a = true → Tst C A env X ρ f b) : TsAnd C A env X ρ [e, f] (a && b) := by
  cases a with
  | false => exact .stop he
  | true =>
    cases b with
    | false => exact .cons he (.stop (hf rfl))
    | true => exact .cons he (.cons (hf rfl) .nil)
theorem TsOr.two {e f : Expr} {a b : Bool} (he : Tst C A env X ρ e a) (hf : a = false → Tst C A env X ρ f b) : TsOr C A env X ρ [e, f] (a || b) := by
  cases a with
  | true => exact .stop he
  | false =>
    cases b with
    | true => exact .cons he (.stop (hf rfl))
    | false => exact .cons he (.cons (hf rfl) .nil)
end

def pairsI (e : List Nat) : List (List Int) := (pr e).map fun p => [(p.1 : Int), (p.2 : Int)]
def oddB (xs : List Int) : Bool := (!decide (xs = [5, 0])) && ((xs.getD 0 0 != 4) || (xs.getD 1 0 == 0))
theorem oddB_ok (p : Nat × Nat) : oddB [(p.1 : Int), (p.2 : Int)] = !okP p := by
  obtain ⟨x, y⟩ := p
  unfold oddB okP
  rw [Bool.eq_iff_iff]
  simp
  omega
theorem odd_nil (e : List Nat) : decide ((pairsI e).filter oddB = []) = (pr e).all okP := by
  unfold pairsI
  rw [Bool.eq_iff_iff, decide_eq_true_iff, List.filter_eq_nil_iff, List.all_eq_true]
  refine ⟨fun q p hp => ?_, fun q xs hxs => ?_⟩
  · have := q _ (List.mem_map_of_mem (f := fun p : Nat × Nat => [(p.1 : Int), (p.2 : Int)]) hp)
    rw [oddB_ok] at this
    simpa using this
  · obtain ⟨p, hp, rfl⟩ := List.mem_map.mp hxs
    rw [oddB_ok, q p hp]; decide
theorem pairs_range (e : List Nat) : (((List.range (e.length / 2)).map fun (i : Nat) => (0 : Int) + (i : Int) * 2).map fun i => [((e.getD i.toNat 0 : Nat) : Int), ((e.getD (i.toNat + 1) 0 : Nat) : Int)]) = pairsI e := by
  unfold pairsI
  apply List.ext_getElem?
  intro j
  rw [List.map_map, List.getElem?_map, List.getElem?_map]
  by_cases h : j < e.length / 2
  · rw [List.getElem?_range h, pr_get e j h]
    simp only [Option.map_some, Function.comp_apply]
    rw [show ((0 : Int) + (j : Int) * 2).toNat = 2 * j by omega]
  · rw [List.getElem?_eq_none (by simpa using h), List.getElem?_eq_none (l := pr e) (by rw [pr_length]; omega)]; rfl
theorem fmod_em (a : Int) (b : Nat) : a.fmod (b : Int) = a % (b : Int) := Int.fmod_eq_emod_of_nonneg _ (by omega)
theorem vl_zeros (ds : List Nat) (k : Nat) : vl (ds ++ List.replicate k 0) = vl ds := by
  rw [vl_append]
  have : vl (List.replicate k 0) = 0 := by
    induction k with
    | zero => rfl
    | succ k ih => rw [List.replicate_succ]; simp only [vl]; omega
  rw [this]; omega
theorem vl_dropZ (ds : List Nat) : vl ds.reverse = vl (dropZ ds).reverse := by
  conv => lhs; rw [← pad_dropZ ds, List.reverse_append, List.reverse_replicate]
  exact vl_zeros _ _
theorem drop_dropZ (ds : List Nat) : ds.drop (ds.length - (dropZ ds).length) = dropZ ds := by
  conv => lhs; arg 2; rw [← pad_dropZ ds]
  exact List.drop_left' (by simp)
theorem dropZ_head : ∀ ds : List Nat, dropZ ds ≠ [] → ∃ x r, dropZ ds = x :: r ∧ x ≠ 0
  | [], h => absurd rfl h
  | x :: r, h => by
    by_cases hx : x = 0
    · subst hx; exact dropZ_head r h
    · exact ⟨x, r, dropZ_id (fun y t q => by cases q; exact hx), hx⟩

set_option maxHeartbeats 4000000 in
theorem law_backed (hK : C.K = hd.heap_39 C.w.params) (N : NestOk C nests) {A : Around} {d : Nat} (rm : Room A (d + 1)) (hdp : 240 ≤ d) (ds : List Nat) (hds : ∀ x ∈ ds, x < 16) (hlen : ds.length ≤ 30) : Cal C A (.ref 104) [.il (li ds)] (.bool true) := by
  have hsl := sl
  have hll := li_length ds
  have dzl : (dropZ ds).length ≤ ds.length := (List.dropWhile_sublist _).length_le
  have dzm : ∀ x ∈ dropZ ds, x < 16 := fun x hx => hds x ((List.dropWhile_sublist _).subset hx)
  refine Cal.fn rm ["letters"] ((congrArg _ hK).trans rfl) (by rw [hK]; rfl) ?_ rfl (by decide) rfl rfl rfl rfl rfl ?_
  · intro vs h; rcases vs with _ | ⟨a, _ | ⟨b, r⟩⟩ <;> first | rfl | (simp at h)
  intro X L g0 s Q E rm' S k
  generalize A.deeper _ = A' at rm' S ⊢
  have gLen : GlobIs C "len" (.builtin "len") := globB (by rw [hK]; rfl) (by boot_fast) (by decide)
  have gRg : GlobIs C "range" (.type "range") := globB (by rw [hK]; rfl) (by boot_fast) (by decide)
  have gB : GlobIs C "bytes" (.type "bytes") := globB (by rw [hK]; rfl) (by boot_fast) (by decide)
  have gD : GlobIs C "_digits2int" (.ref 42) := globK (by rw [hK]; rfl)
  have gI2 : GlobIs C "_int2digits" (.ref 35) := globK (by rw [hK]; rfl)
  have gA : GlobIs C "Int2AP" (.ref 63) := globK (by rw [hK]; rfl)
  have gW : GlobIs C "_law_word" (.ref 68) := globK (by rw [hK]; rfl)
  have gV : GlobIs C "_law_value" (.ref 75) := globK (by rw [hK]; rfl)
  have r1 : Room A' 1 := rm'.le (by omega)
  refine do_assign S (Ev.callFn gV (C.kIn _ _ ((congrArg _ hK).trans rfl)) rfl (.cons (Ev.name rfl) .nil) (law_value hK r1 ds hds (by omega))) (.inl rfl) fun h1 t1 S => ?_
  have e1 : ((li ds).length : Int) - ((apw (dropZ ds)).length : Int) = ((ds.length - (dropZ ds).length : Nat) : Int) := by rw [hll, apw_length]; omega
  have e2 : PV.il (pickNums (li ds) (some ((ds.length - (dropZ ds).length : Nat) : Int)) none none) = .il (li (dropZ ds)) := by rw [pick_from, li_drop, drop_dropZ]
  refine do_assign S ((Ev.slice (Ev.name rfl) LI.il (.some ((Ev.binop (Ev.callBi gLen (.cons (Ev.name rfl) .nil) (Cal.len .il (by omega))) (Ev.callBi gLen (.cons (Ev.callFn gW (C.kIn _ _ ((congrArg _ hK).trans rfl)) rfl (.cons (Ev.name rfl) .nil) (law_word hK r1 ds hds (by omega))) .nil) (Cal.lenBytes (by rw [apw_length]; omega))) Op2.sub).eq (congrArg PV.int e1))) .none .none (by decide) (by omega)).eq e2) (.inr ⟨rfl, rfl⟩) fun h2 t2 S => ?_
  refine do_while (σ := List Nat × Int) (fun a => [("row", .il (li a.1)), ("number", .int a.2)]) (fun a => a.1.length) (fun a => (∀ x ∈ a.1, x < 16) ∧ a.1.length ≤ 30 ∧ (a.1 ≠ [] → a.2 = (vl a.1.reverse : Int) ∧ ∃ x r, a.1 = x :: r ∧ x ≠ 0)) (fun a => decide (a.1 ≠ [])) (dropZ ds, (vl ds.reverse : Int)) ⟨dzm, by show (dropZ ds).length ≤ 30; omega, fun h => ⟨by show (vl ds.reverse : Int) = _; rw [vl_dropZ], dropZ_head ds h⟩⟩ (S.sub (lk_cons rfl (lk_cons rfl lk_nil))) ?_ ?_ ?_
  · rintro ⟨e, m⟩ ⟨hP1, hP2, hP3⟩
    refine (Tst.cmp (Ev.name rfl) (Ev.list (xs := []) .nil rfl (by decide)) (Op2.neList rm' .il .il)).eq ?_
    cases e <;> simp [li]
  · rintro ⟨e, m⟩ s' Q' E' ⟨hP1, hP2, hP3⟩ hm S k'
    have hne : e ≠ [] := by simpa using hm
    obtain ⟨hm0, hhd⟩ := hP3 hne
    dsimp only at hP1 hP2 S hm0 hhd
    subst hm0
    have hel : (li e).length = e.length := li_length e
    have hpos : 0 < e.length := List.length_pos_iff.mpr hne
    have hvb : vl e.reverse < 2 ^ 200 := by
      refine Nat.lt_of_lt_of_le (vl_lt _ fun x hx => hP1 x (List.mem_reverse.mp hx)) ?_
      rw [List.length_reverse]
      exact Nat.le_trans (Nat.pow_le_pow_right (by decide) hP2) (by decide)
    have ho := row_octets hP1 hhd
    have hoc := oc_lt hP1
    have hol : (oc e).length ≤ 30 := by
      unfold oc
      split
      · rw [List.length_map, pr_length]; omega
      · cases e with
        | nil => exact absurd rfl hne
        | cons x r => show ((pr r).map oc1).length + 1 ≤ _; rw [List.length_map, pr_length]; simp at hP2; omega
    have hone : oc e ≠ [] := by
      obtain ⟨x, r, rfl, hx⟩ := hhd
      obtain ⟨y, t, q, _⟩ := oc_head (r := r) hx
      rw [q]; exact List.cons_ne_nil _ _
    have e3 : PV.il (li (figs 8 ((Builtin.Int.intBits ((vl e.reverse : Nat) : Int) + 8 - 1) / 8) (vl e.reverse))) = .il (li (oc e).reverse) := by rw [ho]
    refine do_assign S ((Ev.callFn gI2 (C.kIn _ _ ((congrArg _ hK).trans rfl)) rfl (.cons (Ev.name rfl) (.cons Ev.int .nil)) (i2d hK N (rm'.le (show 211 ≤ d by omega)) (vl e.reverse) 8 hvb (by decide) (by decide) (by omega))).eq e3) (.inl rfl) fun h3 t3 S => ?_
    have hback := ap_octets (oc e) hoc hone
    rw [good_octets hP1 hhd] at hback
    have hbv := back_value (ds := e) hP1
    have hO : ∃ O : List Nat, O = (oc e).reverse := ⟨_, rfl⟩
    obtain ⟨O, hOe⟩ := hO
    have hOl : (li O).length ≤ 30 := by rw [li_length, hOe, List.length_reverse]; exact hol
    have hO256 : ∀ x ∈ O, x < 256 := fun x hx => hoc x (by rw [hOe] at hx; exact List.mem_reverse.mp hx)
    rw [← hOe] at S hback hbv
    refine do_assign S (Ev.callFn gD (C.kIn _ _ ((congrArg _ hK).trans rfl)) rfl (.cons ((EvN.comp [] [] kT (gI (· - 65)) ⟨rfl, rfl, rfl, rfl, rfl⟩ (Ev.name rfl) (Src.list rm') (by rw [List.length_map]; omega) .nil (gI_elem _) ?_ ?_).il (comp_map _ _)) (.cons Ev.int .nil)) (d2i hK N (rm'.le (show 51 ≤ d by omega)) _ 4 ?_ (by decide) (by decide) ?_ ?_)) (.inl rfl) fun h4 t4 S => ?_
    · intro item _ C'; exact .nil
    · intro item hm _ C'
      obtain ⟨x, _, rfl⟩ := mem_ints hm
      exact Ev.binop (Ev.name rfl) Ev.int Op2.sub
    · rw [List.length_map]; omega
    · intro x hx
      obtain ⟨y, hy, rfl⟩ := List.mem_map.mp hx
      obtain ⟨z, hz, rfl⟩ := List.mem_map.mp hy
      have := hO256 z hz
      exact Nat.lt_of_lt_of_le (show ((z : Int) - 65).natAbs < 256 by omega) (Nat.le_trans (show 256 ≤ 2 ^ 8 by decide) (Nat.pow_le_pow_right (show 0 < 2 by omega) (show 8 ≤ 500 by omega)))
    · rw [List.length_map]; omega
    have hmb : (val 4 ((li O).map (· - 65))).natAbs < 16 ^ 50 := by
      have h := val_lt 4 8 (by decide) ((li O).map (· - 65)) fun x hx => by
        obtain ⟨y, hy, rfl⟩ := List.mem_map.mp hx
        obtain ⟨z, hz, rfl⟩ := List.mem_map.mp hy
        have := hO256 z hz
        show ((z : Int) - 65).natAbs < 256
        omega
      rw [List.length_map] at h
      refine Nat.lt_of_lt_of_le h (Nat.le_trans (Nat.pow_le_pow_right (by decide) (show 8 + 4 * (li O).length ≤ 128 by omega)) (by decide))
    generalize hmv : val 4 ((li O).map (· - 65)) = mv at S hback hbv hmb
    -- the pairs
    have e5 : PV.rg 0 (((li e).length : Int) - 1) 2 = .rg 0 ((e.length : Int) - 1) 2 := by rw [hel]
    have hrs : Builtin.Range.rangeSize 0 ((e.length : Int) - 1) 2 = ((e.length / 2 : Nat) : Int) := by
      unfold Builtin.Range.rangeSize
      simp only [show (2 : Int) > 0 by decide, if_true]
      split <;> omega
    have hsm : Builtin.Range.small 0 ((e.length : Int) - 1) 2 = true := (by decide : ∀ n : Nat, n < 31 → Builtin.Range.small 0 ((n : Int) - 1) 2 = true) e.length (by omega)
    have esrc : ((List.range (e.length / 2)).map fun (i : Nat) => PV.int ((0 : Int) + (i : Int) * 2)) = ((List.range (e.length / 2)).map fun (i : Nat) => (0 : Int) + (i : Int) * 2).map PV.int := by rw [List.map_map]; rfl
    refine do_assign_comp [("row", L + 1)] [("row", .il (li e))] kT (gT fun i => [((e.getD i.toNat 0 : Nat) : Int), ((e.getD (i.toNat + 1) 0 : Nat) : Int)]) (pv := .tl (pairsI e)) S ⟨rfl, rfl, rfl, rfl, rfl⟩
      ((Ev.callTy gRg (.cons Ev.int (.cons (Ev.binop (Ev.callBi gLen (.cons (Ev.name rfl) .nil) (Cal.len .il (by omega))) Ev.int Op2.sub) (.cons Ev.int .nil))) (Cal.range3 (by decide) (PyProof.noPylong_small (by decide)))).eq e5) ((Src.range rm' hsm _ hrs).eq esrc) (by simp; omega) (.cons rfl (.inl rfl) rfl (.inl rfl) .nil) (gT_elem _) (fun _ _ _ => .nil) ?_ (.inr ⟨_, rfl, by rw [comp_tups, pairs_range]⟩) rfl fun h5 t5 S => ?_
    · intro item hm _ C'
      obtain ⟨x, hx, rfl⟩ := mem_ints hm
      obtain ⟨i, hi, rfl⟩ := List.mem_map.mp hx
      have hi' : i < e.length / 2 := List.mem_range.mp hi
      have hg : ∀ j : Nat, j < e.length → (li e)[j]? = some ((e.getD j 0 : Nat) : Int) := fun j hj => by
        rw [li_get, List.getElem?_eq_getElem hj]; simp [List.getD, List.getElem?_eq_getElem hj]
      have q1 : ((0 : Int) + (i : Int) * 2).toNat = 2 * i := by omega
      have q2 : ((0 : Int) + (i : Int) * 2 + 1).toNat = 2 * i + 1 := by omega
      refine Ev.tuple (.cons (Ev.item (x := ((e.getD (2 * i) 0 : Nat) : Int)) (Ev.name rfl) LI.il (Ev.name rfl) (by omega) (by rw [q1]; exact hg _ (by omega)) (by omega)) (.cons (Ev.item (x := ((e.getD (2 * i + 1) 0 : Nat) : Int)) (Ev.name rfl) LI.il (Ev.binop (Ev.name rfl) Ev.int Op2.add) (by omega) (by rw [q2]; exact hg _ (by omega)) (by omega)) .nil)) ?_ (show 2 ≤ sizeLine by decide)
      dsimp only
      rw [q1]; rfl
    have hpl : (pairsI e).length = e.length / 2 := by rw [pairsI, List.length_map, pr_length]
    have hpe : ∀ xs ∈ pairsI e, ∃ a b : Int, xs = [a, b] := fun xs hx => by
      obtain ⟨p, _, rfl⟩ := List.mem_map.mp hx; exact ⟨_, _, rfl⟩
    refine do_assign_comp [] [] (kP oddB) gPP (pv := .tl ((pairsI e).filter oddB)) S ⟨rfl, rfl, rfl, rfl, rfl⟩ (Ev.name rfl) (Src.tups rm') (by rw [List.length_map]; omega) .nil gPP_elem ?_ ?_ (.inr ⟨_, rfl, comp_odd _ _⟩) rfl fun h6 t6 S => ?_
    · intro item hm C'
      obtain ⟨xs, hx, rfl⟩ := mem_its hm
      obtain ⟨a, b, rfl⟩ := hpe xs hx
      refine .one (Tst.and (TsAnd.two (Tst.cmp (Ev.name rfl) (Ev.tuple (.cons Ev.int (.cons Ev.int .nil)) (xs := [5, 0]) rfl (show 2 ≤ sizeLine by decide)) (Op2.neTup rm')) fun _ => Tst.or (TsOr.two (Tst.cmp (Ev.itemT (x := a) (Ev.name rfl) Ev.int (by decide) rfl (show 2 ≤ sizeLine by decide)) Ev.int Op2.ne) fun _ => Tst.cmp (Ev.itemT (x := b) (Ev.name rfl) Ev.int (by decide) rfl (show 2 ≤ sizeLine by decide)) Ev.int Op2.eq)))
    · intro item hm _ C'
      obtain ⟨xs, hx, rfl⟩ := mem_its hm
      exact Ev.name rfl
    have hpt : ∀ x y t, pr e = (x, y) :: t → (pairsI e)[((0 : Int)).toNat]? = some [(x : Int), (y : Int)] := fun x y t q => by unfold pairsI; rw [q]; rfl
    have hgood : (decide (e.length % 2 = 0) && (decide ((pr e).head? ≠ some (4, 1)) && decide ((pairsI e).filter oddB = []))) = goodN e := by rw [odd_nil]; rfl
    have e6 : ((li e).length : Int).fmod 2 = ((e.length % 2 : Nat) : Int) := by rw [hel]; exact fmod_nat e.length 2
    refine do_assign S ((Ev.and (EvAnd.three (a := decide (e.length % 2 = 0)) (b := decide ((pr e).head? ≠ some (4, 1))) (c := decide ((pairsI e).filter oddB = [])) ((Ev.cmp ((Ev.binop (Ev.callBi gLen (.cons (Ev.name rfl) .nil) (Cal.len .il (by omega))) Ev.int (Op2.mod (by decide) (PyProof.noPylong_small (by decide)))).eq (congrArg PV.int e6)) Ev.int Op2.eq).eq ?_) (fun hev => ?_) fun _ _ => Ev.cmp (Ev.name rfl) (Ev.list (xs := []) .nil rfl (by decide)) (Op2.eqNil rm'))).eq (congrArg PV.bool hgood)) (.inl rfl) fun h7 t7 S => ?_
    · congr 1
      rw [Bool.eq_iff_iff]; simp; omega
    · have hev' : e.length % 2 = 0 := of_decide_eq_true hev
      obtain ⟨x, y, t, q⟩ : ∃ x y t, pr e = (x, y) :: t := by
        rcases e with _ | ⟨x, _ | ⟨y, t⟩⟩
        · exact absurd rfl hne
        · simp at hev'
        · exact ⟨x, y, pr t, rfl⟩
      refine (Ev.cmp (Ev.itemTL (Ev.name rfl) Ev.int (by decide) (hpt x y t q) (by omega)) (Ev.tuple (.cons Ev.int (.cons Ev.int .nil)) (xs := [4, 1]) rfl (show 2 ≤ sizeLine by decide)) (Op2.neTup rm')).eq ?_
      congr 1
      rw [q, Bool.eq_iff_iff]; simp; omega
    have eb : (li (oc e)).map (fun (i : Int) => i.toNat.toUInt8) = (oc e).map fun o => o.toUInt8 := by
      simp only [li, List.map_map]; rfl
    have erv : PV.il (pickNums (li O) none none (some (-1))) = .il (li (oc e)) := by rw [pick_rev, ← li_reverse, hOe, List.reverse_reverse]
    have hoc2 : (li (oc e)).length ≤ sizeLine := by rw [li_length]; omega
    refine do_ifF0 S ((Tst.cmp (Ev.cmp (Ev.callFn gA (C.kIn _ _ ((congrArg _ hK).trans rfl)) rfl (.cons (Ev.name rfl) .nil) (int2ap hK r1 mv hmb)) (Ev.callTy gB (.cons ((Ev.slice (Ev.name rfl) LI.il .none .none (.some (Ev.unop Ev.int Op1.neg)) (by decide) (by omega)).eq erv) .nil) (Cal.bytes rm' .il ?_ hoc2)) Op2.eqBytes) (Ev.name rfl) Op2.neBool).eq ?_) fun h8 t8 S => ?_
    · intro z hz
      obtain ⟨y, hy, rfl⟩ := List.mem_map.mp hz
      have := hoc y hy
      omega
    · rw [eb, hback]; simp
    have hbl : (backN e).length = e.length / 2 := by rw [backN, List.length_map, pr_length]
    cases hg : goodN e with
    | true =>
      rw [hg] at S
      have hbN := hbv hg
      have hbt := back_lt e
      have eB : (pairsI e).map (fun xs => (xs.getD 1 0 - 1).fmod 16) = li (backN e) := by
        unfold pairsI backN li
        rw [List.map_map, List.map_map]
        refine List.map_congr_left fun p hp => ?_
        have h1 := pr_mem e hP1 p hp
        simp only [Function.comp_apply]
        show ((p.2 : Int) - 1).fmod 16 = ((p.2 + 15) % 16 : Nat)
        have := fmod_em ((p.2 : Int) - 1) 16
        rw [show ((16 : Nat) : Int) = 16 from rfl] at this
        rw [this]; omega
      refine do_assign S (Ev.ifT (Tst.value (Ev.name rfl) Tr.bool) ((EvN.comp [] [] kT (gP fun xs => (xs.getD 1 0 - 1).fmod 16) ⟨rfl, rfl, rfl, rfl, rfl⟩ (Ev.name rfl) (Src.tups rm') (by rw [List.length_map]; omega) .nil (gP_elem _) (fun _ _ _ => .nil) ?_).il ((comp_pair _ _).trans (congrArg (List.map PV.int) eB)))) (.inr ⟨rfl, rfl⟩) fun h9 t9 S => ?_
      · intro item hm _ C'
        obtain ⟨xs, hx, rfl⟩ := mem_its hm
        obtain ⟨a, b, rfl⟩ := hpe xs hx
        exact Ev.binop (Ev.binop (Ev.itemT (x := b) (Ev.name rfl) Ev.int (by decide) rfl (show 2 ≤ sizeLine by decide)) Ev.int Op2.sub) Ev.int (Op2.mod (by decide) (PyProof.noPylong_small (by decide)))
      refine do_ifF0 S (Tst.and (.cons (Tst.value (Ev.name rfl) Tr.bool) (.stop ((Tst.cmp (Ev.name rfl) (Ev.callFn gV (C.kIn _ _ ((congrArg _ hK).trans rfl)) rfl (.cons (Ev.name rfl) .nil) (law_value hK r1 (backN e) hbt (by omega))) Op2.ne).eq (by rw [hbN]; simp))))) fun h10 t10 S => ?_
      refine do_nil S (k' (backN e, mv) h10 t10 ⟨hbt, by show (backN e).length ≤ 30; omega, fun hb => ⟨hbN, ?_⟩⟩ (by show (backN e).length < e.length; omega) (S.sub (lk_cons rfl (lk_cons rfl lk_nil))))
      have hb' : backN e ≠ [] := hb
      cases hbe : backN e with
      | nil => exact absurd hbe hb'
      | cons x t => exact ⟨x, t, rfl, back_head hP1 hg x t hbe⟩
    | false =>
      rw [hg] at S
      refine do_assign S (Ev.ifF (Tst.value (Ev.name rfl) Tr.bool) (Ev.list (xs := []) .nil rfl (by decide))) (.inr ⟨rfl, rfl⟩) fun h9 t9 S => ?_
      refine do_ifF0 S (Tst.and (.stop (Tst.value (Ev.name rfl) Tr.bool))) fun h10 t10 S => ?_
      exact do_nil S (k' ([], mv) h10 t10 ⟨(fun x hx => nomatch hx), Nat.zero_le _, fun hb => absurd rfl hb⟩ hpos (S.sub (lk_cons rfl (lk_cons rfl lk_nil))))
  · rintro ⟨e, m⟩ h3 t3 hP hm S
    exact do_return S Ev.bool fun v h' tk kp ok r => k v h' tk kp ok r
end Mine
namespace Mine
open PySem PySem.Calls PySem.W PyProof.Rows
variable {C : Cfg}

theorem octs_apw (z : List Nat) (h : ∀ x ∈ z, x < 16) : octs (apw z).reverse = li (z.reverse.map (65 + ·)) := by
  unfold octs apw li
  rw [← List.map_reverse, List.map_map, List.map_map]
  refine List.map_congr_left fun x hx => ?_
  have := h x (List.mem_reverse.mp hx)
  simp only [Function.comp_apply]
  rw [u8 (by omega)]
theorem li_sum (xs : List Nat) : (li xs).sum = ((xs.sum : Nat) : Int) := by
  induction xs with
  | nil => rfl
  | cons x r ih => show (x : Int) + (li r).sum = _; rw [ih]; simp
theorem natpow (a t : Nat) : ((a : Int)) ^ ((t : Int)).toNat = ((a ^ t : Nat) : Int) := by rw [Int.toNat_natCast]; simp
def toldN (L k t : Nat) : List Int := [((wholeN L k / (16 ^ 2 ^ (t + 1) - 1) : Nat) : Int), ((wholeN L k % (16 ^ 2 ^ (t + 1) - 1) : Nat) : Int)]
def ruleN (L k t : Nat) : Nat := (4 + t) * 16 ^ 2 ^ t * (wholeN L k / (16 ^ 2 ^ (t + 1) - 1))

set_option maxHeartbeats 4000000 in
theorem law_grows (hK : C.K = hd.heap_39 C.w.params) (N : NestOk C nests) {A : Around} {d : Nat} (rm : Room A (d + 1)) (hdp : 240 ≤ d) (ds : List Nat) (hds : ∀ x ∈ ds, x < 16) (hlen : ds.length ≤ 3) (hhd : ∀ x r, ds = x :: r → x ≠ 0) (n : Nat) (hn : n ≤ 3) :
    Cal C A (.ref 99) [.il (li ds), .int n] (.bool true) := by
  have hsl := sl
  have hll := li_length ds
  refine Cal.fn rm ["figures", "rounds"] ((congrArg _ hK).trans rfl) (by rw [hK]; rfl) ?_ rfl (by decide) rfl rfl rfl rfl rfl ?_
  · intro vs h; rcases vs with _ | ⟨a, _ | ⟨b, _ | ⟨c, r⟩⟩⟩ <;> first | rfl | (simp at h)
  intro X L g0 s Q E rm' S k
  generalize A.deeper _ = A' at rm' S ⊢
  have gLen : GlobIs C "len" (.builtin "len") := globB (by rw [hK]; rfl) (by boot_fast) (by decide)
  have gRg : GlobIs C "range" (.type "range") := globB (by rw [hK]; rfl) (by boot_fast) (by decide)
  have gSum : GlobIs C "sum" (.builtin "sum") := globB (by rw [hK]; rfl) (by boot_fast) (by decide)
  have gD : GlobIs C "_digits2int" (.ref 42) := globK (by rw [hK]; rfl)
  have gI' : GlobIs C "int_divmod" (.ref 56) := globK (by rw [hK]; rfl)
  have gA : GlobIs C "Int2AP" (.ref 63) := globK (by rw [hK]; rfl)
  have gW : GlobIs C "_law_word" (.ref 68) := globK (by rw [hK]; rfl)
  have gV : GlobIs C "_law_value" (.ref 75) := globK (by rw [hK]; rfl)
  have gLf : GlobIs C "_law_left" (.ref 82) := globK (by rw [hK]; rfl)
  have gLt : GlobIs C "_law_letters" (.ref 94) := globK (by rw [hK]; rfl)
  have r1 : Room A' 1 := rm'.le (by omega)
  have r2 : Room A' 2 := rm'.le (by omega)
  have hdz : dropZ ds = ds := dropZ_id hhd
  have hvd : vl ds.reverse < 16 ^ 50 := by
    refine Nat.lt_of_lt_of_le (vl_lt _ fun x hx => hds x (List.mem_reverse.mp hx)) (Nat.pow_le_pow_right (by decide) ?_)
    rw [List.length_reverse]; omega
  have e1 : PV.bytes (ap ((vl ds.reverse : Nat) : Int).natAbs) = .bytes (apw ds) := by rw [Int.natAbs_natCast, ap, hexs_vl _ ds rfl hds, hdz]
  refine do_assign S ((Ev.callFn gA (C.kIn _ _ ((congrArg _ hK).trans rfl)) rfl (.cons (Ev.callFn gV (C.kIn _ _ ((congrArg _ hK).trans rfl)) rfl (.cons (Ev.name rfl) .nil) (law_value hK r1 ds hds (by omega))) .nil) (int2ap hK r1 _ (by rw [Int.natAbs_natCast]; exact hvd))).eq e1) (.inl rfl) fun h1 t1 S => ?_
  refine do_ifF0 S ((Tst.cmp (Ev.name rfl) (Ev.callFn gW (C.kIn _ _ ((congrArg _ hK).trans rfl)) rfl (.cons (Ev.name rfl) .nil) (law_word hK r1 ds hds (by omega))) Op2.neBytes).eq (by rw [hdz]; simp)) fun h2 t2 S => ?_
  have e2 : ((n : Int) + 1) = ((n + 1 : Nat) : Int) := by omega
  refine do_for (σ := List Nat) (items := (li (List.range' 1 (n + 1 - 1))).map .int) (fun z => [("word", .bytes (apw z)), ("figures", .il (li ds)), ("rounds", .int n)])
    (fun i z => z = growN i ds ∧ i ≤ n) (fun _ => False) ds ⟨rfl, Nat.zero_le _⟩ (S.sub (lk_cons rfl (lk_cons rfl (lk_cons rfl lk_nil)))) (ItE.of (Ev.callTy gRg (.cons Ev.int (.cons ((Ev.binop (Ev.name rfl) Ev.int Op2.add).eq (congrArg PV.int e2)) .nil)) Cal.range2) (Src.up rm' 1 (n + 1) (by omega) (by omega))) (.inl rfl) ?_ ?_ ?_ (fun _ _ _ _ q => q.elim)
    (by show List.Nodup [("told" : Str), ("whole" : Str)]; decide) (by rfl)
  · intro q hq
    obtain ⟨x, _, rfl⟩ := mem_ints hq
    rfl
  · rintro i item z g s' Q' E' hitem ⟨rfl, hi⟩ S k' kr'
    have hlt : i < n := by
      rcases Nat.lt_or_ge i n with h | h
      · exact h
      · rw [List.getElem?_eq_none (by simpa [li] using h)] at hitem; cases hitem
    have hit : item = .int ((i + 1 : Nat) : Int) := by
      rw [List.getElem?_map, li_get, List.getElem?_range' (by omega)] at hitem
      rw [← Option.some.inj hitem]; congr 2; omega
    subst hit
    have hgl := grow_length ds i
    have hgt := grow_lt hds i
    have hp : 2 ^ i ≤ 2 ^ 2 := Nat.pow_le_pow_right (by decide) (by omega)
    have hgl2 : (growN i ds).length ≤ 12 := by rw [hgl]; exact Nat.le_trans (Nat.mul_le_mul hlen hp) (by decide)
    have hkl := grow_length ds (i + 1)
    have hkt := grow_lt hds (i + 1)
    have hp1 : 2 ^ (i + 1) ≤ 2 ^ 3 := Nat.pow_le_pow_right (by decide) (by omega)
    have hkl2 : (growN (i + 1) ds).length ≤ 24 := by rw [hkl]; exact Nat.le_trans (Nat.mul_le_mul hlen hp1) (by decide)
    have hkd : dropZ (growN (i + 1) ds) = growN (i + 1) ds := step_drop _
    have hkg : growN (i + 1) ds = lettersN (i + 1) ds := grow_letters (by omega) (by omega) ds hds
    have hkv := letters_value (i + 1) ds
    rw [← hkg] at hkv
    have hstep : val 8 (octs (apw (growN i ds)).reverse) = (vl (growN (i + 1) ds).reverse : Int) := by rw [octs_apw _ hgt, step_value]; rfl
    generalize hG : growN i ds = G at *
    generalize hH : growN (i + 1) ds = H at *
    have hab : (apw G).length ≤ sizeLine := by rw [apw_length]; omega
    have hHv : vl H.reverse < 16 ^ 24 := by
      refine Nat.lt_of_lt_of_le (vl_lt _ fun x hx => hkt x (List.mem_reverse.mp hx)) (Nat.pow_le_pow_right (by decide) ?_)
      rw [List.length_reverse]; exact hkl2
    refine do_assign S ((Ev.callFn gD (C.kIn _ _ ((congrArg _ hK).trans rfl)) rfl (.cons (Ev.revBytes (Ev.name rfl) (Ev.unop Ev.int Op1.neg) hab) (.cons Ev.int .nil)) (d2iB hK N (rm'.le (show 51 ≤ d by omega)) _ 8 (by rw [List.length_reverse, apw_length]; omega) (by decide) (by decide) (by rw [List.length_reverse, apw_length]; omega))).eq (congrArg PV.int hstep)) (.inl rfl) fun h3 t3 S => ?_
    have e3 : PV.bytes (ap (-((vl H.reverse : Nat) : Int)).natAbs) = .bytes (apw H) := by rw [Int.natAbs_neg, Int.natAbs_natCast, ap, hexs_vl _ H rfl hkt, hkd]
    refine do_assign S ((Ev.callFn gA (C.kIn _ _ ((congrArg _ hK).trans rfl)) rfl (.cons (Ev.unop (Ev.name rfl) Op1.neg) .nil) (int2ap hK r1 _ (by rw [Int.natAbs_neg, Int.natAbs_natCast]; exact Nat.lt_of_lt_of_le hHv (by decide)))).eq e3) (.inl rfl) fun h4 t4 S => ?_
    have hib2 : ((Builtin.Int.intBits (2 : Int) : Nat) : Int) = 2 := by decide
    have hib16 : ((Builtin.Int.intBits (16 : Int) : Nat) : Int) = 5 := by decide
    generalize hk : i + 1 = kk at *
    have hk1 : 1 ≤ kk := by omega
    have hk3 : kk ≤ 3 := by omega
    have hLk : ds.length * 2 ^ kk ≤ 24 := Nat.le_trans (Nat.mul_le_mul hlen hp1) (by decide)
    have hw0 : 1 ≤ 16 ^ (ds.length * 2 ^ kk) := Nat.pow_pos (by decide)
    have hwb : wholeN ds.length kk < 16 ^ 24 := by
      have : 16 ^ (ds.length * 2 ^ kk) ≤ 16 ^ 24 := Nat.pow_le_pow_right (by decide) hLk
      unfold wholeN; omega
    have f1 : (2 : Int) ^ ((kk : Int)).toNat = ((2 ^ kk : Nat) : Int) := natpow 2 kk
    have f2 : ((li ds).length : Int) * ((2 ^ kk : Nat) : Int) = ((ds.length * 2 ^ kk : Nat) : Int) := by rw [hll, Int.natCast_mul]
    have f3 : (16 : Int) ^ (((ds.length * 2 ^ kk : Nat) : Int)).toNat = ((16 ^ (ds.length * 2 ^ kk) : Nat) : Int) := natpow 16 _
    have f4 : ((16 ^ (ds.length * 2 ^ kk) : Nat) : Int) - 1 = ((wholeN ds.length kk : Nat) : Int) := by unfold wholeN; omega
    refine do_assign S ((Ev.binop ((Ev.binop Ev.int ((Ev.binop (Ev.callBi gLen (.cons (Ev.name rfl) .nil) (Cal.len .il (by omega))) ((Ev.binop Ev.int (Ev.name rfl) (Op2.pow (by omega) (by rw [hib2]; omega))).eq (congrArg PV.int f1)) (Op2.mul (mulOk (k := 10) (by rw [hll]; omega) (by rw [Int.natAbs_natCast]; omega) (by decide)))).eq (congrArg PV.int f2)) (Op2.pow (by omega) (by rw [hib16]; omega))).eq (congrArg PV.int f3)) Ev.int Op2.sub).eq (congrArg PV.int f4)) (.inr ⟨rfl, rfl⟩) fun h5 t5 S => ?_
    obtain ⟨rul, rst⟩ := ruler_ok ds.length hlen kk hk3
    generalize hWe : wholeN ds.length kk = W at S
    have tn : ∀ {t : Nat}, t < kk → 2 ^ (t + 1) ≤ 8 ∧ 2 ^ t ≤ 4 ∧ 1 ≤ 2 ^ (t + 1) := fun {t} ht => by
      have a1 : 2 ^ (t + 1) ≤ 2 ^ 3 := Nat.pow_le_pow_right (by decide) (by omega)
      have a2 : 2 ^ t ≤ 2 ^ 2 := Nat.pow_le_pow_right (by decide) (by omega)
      have a3 := Nat.two_pow_pos (t + 1)
      exact ⟨a1, a2, a3⟩
    have hrk : (li (List.range kk)).length = kk := by simp [li]
    refine do_assign S ((EvN.comp [("whole", L + 1)] [("whole", .int (W : Int))] kT (gT fun t => toldN ds.length kk t.toNat) ⟨rfl, rfl, rfl, rfl, rfl⟩ (Ev.callTy gRg (.cons (Ev.name rfl) .nil) Cal.range1) (Src.upto rm' kk (by omega)) (by rw [List.length_map, hrk]; omega) (.cons rfl (.inl rfl) rfl (.inl rfl) .nil) (gT_elem _) (fun _ _ _ => .nil) ?_).tl (comp_tups _ _)) (.inr ⟨rfl, rfl⟩) fun h6 t6 S => ?_
    · intro item hm _ C'
      obtain ⟨x, hx, rfl⟩ := mem_ints hm
      obtain ⟨t, ht, rfl⟩ := List.mem_map.mp hx
      have ht' : t < kk := List.mem_range.mp ht
      obtain ⟨b1, b2, b3⟩ := tn ht'
      have p1 : (t : Int) + 1 = ((t + 1 : Nat) : Int) := by omega
      have p2 : (2 : Int) ^ (((t + 1 : Nat) : Int)).toNat = ((2 ^ (t + 1) : Nat) : Int) := natpow 2 _
      have p3 : (16 : Int) ^ (((2 ^ (t + 1) : Nat) : Int)).toNat = ((16 ^ 2 ^ (t + 1) : Nat) : Int) := natpow 16 _
      have p4 : 16 ≤ 16 ^ 2 ^ (t + 1) := Nat.le_trans (by decide) (Nat.pow_le_pow_right (by decide) b3)
      have p5 : ((16 ^ 2 ^ (t + 1) : Nat) : Int) - 1 = ((16 ^ 2 ^ (t + 1) - 1 : Nat) : Int) := by omega
      have p6 : 16 ^ 2 ^ (t + 1) ≤ 16 ^ 8 := Nat.pow_le_pow_right (by decide) b1
      have p7 : (16 : Nat) ^ 8 < 2 ^ 200 := by decide
      have p8 : PV.it [((W / (16 ^ 2 ^ (t + 1) - 1) : Nat) : Int), ((W % (16 ^ 2 ^ (t + 1) - 1) : Nat) : Int)] = .it (toldN ds.length kk ((t : Int)).toNat) := by
        rw [Int.toNat_natCast, toldN, hWe]
      exact (Ev.callFn gI' (C.kIn _ _ ((congrArg _ hK).trans rfl)) rfl (.cons (Ev.name rfl) (.cons ((Ev.binop ((Ev.binop Ev.int ((Ev.binop Ev.int ((Ev.binop (Ev.name rfl) Ev.int Op2.add).eq (congrArg PV.int p1)) (Op2.pow (by omega) (by rw [hib2]; omega))).eq (congrArg PV.int p2)) (Op2.pow (by omega) (by rw [hib16]; omega))).eq (congrArg PV.int p3)) Ev.int Op2.sub).eq (congrArg PV.int p5)) .nil)) (idivP hK N (rm'.le (show 222 ≤ d by omega)) (by omega) W _ (by rw [← hWe]; exact Nat.lt_of_lt_of_le hwb (by decide)) (by omega) (by omega))).eq p8
    have hTL : ∀ t, t < kk → ((li (List.range kk)).map fun t => toldN ds.length kk t.toNat)[((t : Int)).toNat]? = some (toldN ds.length kk t) := fun t ht => by
      rw [Int.toNat_natCast, List.getElem?_map, li_get, List.getElem?_range ht]; simp
    have hTLl : ((li (List.range kk)).map fun t => toldN ds.length kk t.toNat).length ≤ sizeLine := by rw [List.length_map, hrk]; omega
    generalize hTLe : ((li (List.range kk)).map fun t => toldN ds.length kk t.toNat) = TL at S hTL hTLl
    have erul : PV.int ((li (List.range kk)).map fun t => ((ruleN ds.length kk t.toNat : Nat) : Int)).sum = .int (rulerN ds.length kk : Int) := by
      have : ((li (List.range kk)).map fun t => ((ruleN ds.length kk t.toNat : Nat) : Int)) = li ((List.range kk).map (ruleN ds.length kk)) := by
        unfold li
        rw [List.map_map, List.map_map]
        refine List.map_congr_left fun t _ => ?_
        simp only [Function.comp_apply, Int.toNat_natCast]
      rw [this, li_sum]; rfl
    have hWb : W < 2 ^ 200 := by rw [← hWe]; exact Nat.lt_of_lt_of_le hwb (by decide)
    refine do_assign S ((Ev.callBi gSum (.cons ((EvN.comp [("told", L + 2)] [("told", .tl TL)] kT (gI fun t => ((ruleN ds.length kk t.toNat : Nat) : Int)) ⟨rfl, rfl, rfl, rfl, rfl⟩ (Ev.callTy gRg (.cons (Ev.name rfl) .nil) Cal.range1) (Src.upto rm' kk (by omega)) (by rw [List.length_map, hrk]; omega) (.cons rfl (.inl rfl) rfl (.inl rfl) .nil) (gI_elem _) (fun _ _ _ => .nil) ?_).il (comp_map _ _)) .nil) (Cal.sum rm' .il)).eq erul) (.inl rfl) fun h7 t7 S => ?_
    · intro item hm _ C'
      obtain ⟨x, hx, rfl⟩ := mem_ints hm
      obtain ⟨t, ht, rfl⟩ := List.mem_map.mp hx
      have ht' : t < kk := List.mem_range.mp ht
      obtain ⟨b1, b2, b3⟩ := tn ht'
      have p1 : (4 : Int) + (t : Int) = ((4 + t : Nat) : Int) := by omega
      have p2 : (2 : Int) ^ ((t : Int)).toNat = ((2 ^ t : Nat) : Int) := natpow 2 _
      have p3 : (16 : Int) ^ (((2 ^ t : Nat) : Int)).toNat = ((16 ^ 2 ^ t : Nat) : Int) := natpow 16 _
      have p4 : ((4 + t : Nat) : Int) * ((16 ^ 2 ^ t : Nat) : Int) = (((4 + t) * 16 ^ 2 ^ t : Nat) : Int) := (Int.natCast_mul _ _).symm
      have p6 : 16 ^ 2 ^ t ≤ 16 ^ 4 := Nat.pow_le_pow_right (by decide) b2
      have p7 : (4 + t) * 16 ^ 2 ^ t ≤ 7 * 16 ^ 4 := Nat.mul_le_mul (by omega) p6
      have p8 : (((4 + t) * 16 ^ 2 ^ t : Nat) : Int) * ((W / (16 ^ 2 ^ (t + 1) - 1) : Nat) : Int) = ((ruleN ds.length kk ((t : Int)).toNat : Nat) : Int) := by
        rw [Int.toNat_natCast, ruleN, hWe]; exact (Int.natCast_mul _ _).symm
      have p9 : W / (16 ^ 2 ^ (t + 1) - 1) < 2 ^ 200 := Nat.lt_of_le_of_lt (Nat.div_le_self _ _) hWb
      have p10 : (toldN ds.length kk t)[((0 : Int)).toNat]? = some ((W / (16 ^ 2 ^ (t + 1) - 1) : Nat) : Int) := by rw [toldN, hWe]; rfl
      exact (Ev.binop ((Ev.binop ((Ev.binop Ev.int (Ev.name rfl) Op2.add).eq (congrArg PV.int p1)) ((Ev.binop Ev.int ((Ev.binop Ev.int (Ev.name rfl) (Op2.pow (by omega) (by rw [hib2]; omega))).eq (congrArg PV.int p2)) (Op2.pow (by omega) (by rw [hib16]; omega))).eq (congrArg PV.int p3)) (Op2.mul (mulOk (k := 200) (by rw [Int.natAbs_natCast]; exact Nat.lt_of_lt_of_le (show 4 + t < 16 by omega) (by decide)) (by rw [Int.natAbs_natCast]; exact Nat.lt_of_le_of_lt p6 (by decide)) (by decide)))).eq (congrArg PV.int p4))
        (Ev.itemT (Ev.itemTL (Ev.name rfl) (Ev.name rfl) (by omega) (hTL t ht') hTLl) Ev.int (by decide) p10 (show 2 ≤ sizeLine by decide)) (Op2.mul (mulOk (k := 200) (by rw [Int.natAbs_natCast]; exact Nat.lt_of_le_of_lt p7 (by decide)) (by rw [Int.natAbs_natCast]; exact p9) (by decide)))).eq (congrArg PV.int p8)
    have hnil : ((li (List.range kk)).filter fun _ => false).map id = [] := by
      rw [List.filter_eq_nil_iff.mpr fun _ _ => by decide]; rfl
    refine do_ifF0 S ((Tst.cmp (((EvN.comp [("told", L + 2)] [("told", .tl TL)] (kI fun _ => false) (gI id) ⟨rfl, rfl, rfl, rfl, rfl⟩ (Ev.callTy gRg (.cons (Ev.name rfl) .nil) Cal.range1) (Src.upto rm' kk (by omega)) (by rw [List.length_map, hrk]; omega) (.cons rfl (.inl rfl) rfl (.inl rfl) .nil) (gI_elem _) ?_ ?_).il (comp_keep _ _ _)).eq (congrArg PV.il hnil)) (Ev.list (xs := []) .nil rfl (by decide)) (Op2.neList rm' .il .il)).eq rfl) fun h8 t8 S => ?_
    · intro item hm C'
      obtain ⟨x, hx, rfl⟩ := mem_ints hm
      obtain ⟨t, ht, rfl⟩ := List.mem_map.mp hx
      have ht' : t < kk := List.mem_range.mp ht
      have p10 : (toldN ds.length kk t)[((1 : Int)).toNat]? = some ((W % (16 ^ 2 ^ (t + 1) - 1) : Nat) : Int) := by rw [toldN, hWe]; rfl
      have p11 : W % (16 ^ 2 ^ (t + 1) - 1) = 0 := by rw [← hWe]; exact rst t ht'
      exact .one ((Tst.cmp (Ev.itemT (Ev.itemTL (Ev.name rfl) (Ev.name rfl) (by omega) (hTL t ht') hTLl) Ev.int (by decide) p10 (show 2 ≤ sizeLine by decide)) Ev.int Op2.ne).eq (by rw [p11]; rfl))
    · intro item hm hk C'
      obtain ⟨x, hx, rfl⟩ := mem_ints hm
      cases hk
    have hFl : (leftN kk ds).length ≤ 24 := by rw [leftN_length]; exact hLk
    have hFt := left_lt (k := kk) ds
    have e7 : PV.il (li (lettersN kk ds)) = .il (li H) := by rw [hkg]
    have e8 : ((vl H.reverse : Nat) : Int) - ((rulerN ds.length kk : Nat) : Int) = ((vl (leftN kk ds).reverse : Nat) : Int) := by rw [hkv, rul]; omega
    have hFv : vl (leftN kk ds).reverse < 16 ^ 50 := by
      refine Nat.lt_of_lt_of_le (vl_lt _ fun x hx => hFt x (List.mem_reverse.mp hx)) (Nat.pow_le_pow_right (by decide) ?_)
      rw [List.length_reverse]; omega
    have e9 : PV.bytes (ap ((vl (leftN kk ds).reverse : Nat) : Int).natAbs) = .bytes (apw (dropZ (leftN kk ds))) := by rw [Int.natAbs_natCast, ap, hexs_vl _ _ rfl hFt]
    refine do_ifF0 S (Tst.or (.cons ((Tst.cmp (Ev.name rfl) (Ev.callFn gW (C.kIn _ _ ((congrArg _ hK).trans rfl)) rfl (.cons ((Ev.callFn gLt (C.kIn _ _ ((congrArg _ hK).trans rfl)) rfl (.cons (Ev.name rfl) (.cons (Ev.name rfl) .nil)) (law_letters hK r2 ds hds hlen kk hk1 hk3)).eq e7) .nil) (law_word hK r1 H hkt (by omega))) Op2.neBytes).eq (by rw [hkd]; simp))
      (.cons ((Tst.cmp ((Ev.callFn gA (C.kIn _ _ ((congrArg _ hK).trans rfl)) rfl (.cons ((Ev.binop (Ev.name rfl) (Ev.name rfl) Op2.sub).eq (congrArg PV.int e8)) .nil) (int2ap hK r1 _ (by rw [Int.natAbs_natCast]; exact hFv))).eq e9) (Ev.callFn gW (C.kIn _ _ ((congrArg _ hK).trans rfl)) rfl (.cons (Ev.callFn gLf (C.kIn _ _ ((congrArg _ hK).trans rfl)) rfl (.cons (Ev.name rfl) (.cons (Ev.name rfl) .nil)) (law_left hK r1 ds hds hlen kk hk1 hk3)) .nil) (law_word hK r1 _ hFt (by omega))) Op2.neBytes).eq (by simp)) .nil))) fun h9 t9 S => ?_
    exact do_nil S (k' H h9 t9 ⟨rfl, by omega⟩ (S.sub (lk_cons rfl (lk_cons rfl (lk_cons rfl lk_nil)))))
  · rintro z h3 t3 hP S
    exact do_return S Ev.bool fun v h' tk kp ok r => k v h' tk kp ok r
end Mine
namespace Mine
open PySem PySem.Calls PySem.W PyProof.Rows

theorem nameIt {α : Type} (a : α) : ∃ x, x = a := ⟨a, rfl⟩
theorem natOf {a : Int} {b : Nat} (hb : 0 < b) : ∃ n : Nat, a.fmod (b : Int) = (n : Int) ∧ n < b := by
  rw [fmod_em]
  have h1 := Int.emod_nonneg a (show (b : Int) ≠ 0 by omega)
  have h2 := Int.emod_lt_of_pos a (show (0 : Int) < b by omega)
  exact ⟨(a % (b : Int)).toNat, by omega, by omega⟩
def fig03 (xs : List Int) (k : Int) : Int := (([0, 14, 3] : List Int).getD k.toNat 0 + (pickNums xs (some k) none (some 3)).sum).fmod 16
def rest03 (xs : List Int) (n : Nat) : List Nat := (List.range' 1 n).map fun (k : Nat) => (fig03 xs (k : Int)).toNat
theorem fig03_nat (xs : List Int) (k : Int) : ∃ n : Nat, fig03 xs k = (n : Int) ∧ n < 16 := natOf (b := 16) (by decide)
theorem rest03_length (xs : List Int) (n : Nat) : (rest03 xs n).length = n := by simp [rest03]
theorem rest03_lt (xs : List Int) (n : Nat) : ∀ x ∈ rest03 xs n, x < 16 := by
  intro x hx
  obtain ⟨k, _, rfl⟩ := List.mem_map.mp hx
  obtain ⟨m, e, h⟩ := fig03_nat xs (k : Int)
  rw [e]; omega
theorem rest03_eq (xs : List Int) (n : Nat) : (li (List.range' 1 n)).map (fig03 xs) = li (rest03 xs n) := by
  unfold li rest03
  rw [List.map_map, List.map_map]
  refine List.map_congr_left fun k _ => ?_
  obtain ⟨m, e, _⟩ := fig03_nat xs (k : Int)
  simp only [Function.comp_apply]
  rw [e]; omega

end Mine
open PySem PySem.Calls PySem.W PyProof.Rows Mine
set_option maxHeartbeats 4000000 in
theorem PySem.Challenge.cw_pe0116_03_holds : PySem.Challenge.rw_pe0116_03.Holds := by
  refine hd ?_
  k_go0
  have hT := ‹TabsAt _ _›
  have F := ‹Fr (ghostOf _ _) _ _ _›
  have N := ‹News (ghostOf _ _) _ _ _›
  have hX := ‹(hd.heap_39 _).In (ghostOf _ _)›
  have T := ‹Top topProg _ _ _ _ (ghostOf _ _)›
  have hC := ‹CellsAre _ _ _›
  have hW := ‹Well _ _ _ _›
  have hL := ‹Heap.IsList (Shared.heap _) _ _›
  have hI := ‹IntsAre _ _›
  have hlen63 : (‹List Int› : List Int).length ≤ 63 := by omega
  obtain ⟨xs, hxs⟩ := nameIt (‹List Int› : List Int)
  subst hxs
  have hg := ‹Shared.gens _ = #[]›
  refine top_go (ns := nests) (X := hX) (T := T) rfl hT (by decide) F hC N ?_ ?_ rfl rfl hW hL hI rfl fun C A' hw hK hN hgo rm S => ?_
  · intro n c hm
    simp [cellsFrom] at hm
    rcases hm with ⟨_, rfl⟩ <;> omega
  · simp [cellsFrom]
  have hK' : C.K = hd.heap_39 C.w.params := by rw [hK, hw]
  have hsl := sl
  have hsz : xs.length ≤ sizeLine := by omega
  have gLen : GlobIs C "len" (.builtin "len") := globB (by rw [hK']; rfl) (by boot_fast) (by decide)
  have gRg : GlobIs C "range" (.type "range") := globB (by rw [hK']; rfl) (by boot_fast) (by decide)
  have gSum : GlobIs C "sum" (.builtin "sum") := globB (by rw [hK']; rfl) (by boot_fast) (by decide)
  have gLt : GlobIs C "_law_letters" (.ref 94) := globK (by rw [hK']; rfl)
  have gG : GlobIs C "_law_grows" (.ref 99) := globK (by rw [hK']; rfl)
  have gBk : GlobIs C "_law_backed" (.ref 104) := globK (by rw [hK']; rfl)
  refine do_assign S (Ev.callBi gSum (.cons (Ev.name rfl) .nil) (Cal.sum rm .il)) (.inl rfl) fun h1 t1 S => ?_
  generalize htot : xs.sum = tot at S
  have e1 : 3 - ((xs.length : Int)).fmod 3 = ((3 - xs.length % 3 : Nat) : Int) := by
    have := fmod_nat xs.length 3
    rw [show ((3 : Nat) : Int) = 3 from rfl] at this
    rw [this]; omega
  refine do_assign S ((Ev.binop Ev.int (Ev.binop (Ev.callBi gLen (.cons (Ev.name rfl) .nil) (Cal.len .il hsz)) Ev.int (Op2.mod (by decide) (PyProof.noPylong_small (by decide)))) Op2.sub).eq (congrArg PV.int e1)) (.inl rfl) fun h2 t2 S => ?_
  obtain ⟨sz, hsz0⟩ : ∃ sz : Nat, 3 - xs.length % 3 = sz + 1 := ⟨2 - xs.length % 3, by omega⟩
  have hsz2 : sz ≤ 2 := by omega
  rw [hsz0] at S
  obtain ⟨r3, er, hr3⟩ := natOf (a := tot) (b := 3) (by decide)
  have e2 : 3 - tot.fmod 3 = ((3 - r3 : Nat) : Int) := by rw [show ((3 : Nat) : Int) = 3 from rfl] at er; omega
  refine do_assign S ((Ev.binop Ev.int (Ev.binop (Ev.name rfl) Ev.int (Op2.mod (by decide) (PyProof.noPylong_small (by decide)))) Op2.sub).eq (congrArg PV.int e2)) (.inl rfl) fun h3 t3 S => ?_
  generalize hn : 3 - r3 = n at S
  have hn1 : 1 ≤ n := by omega
  have hn3 : n ≤ 3 := by omega
  obtain ⟨f0, ef, hf0⟩ := natOf (a := 10 + (pickNums xs (some 0) none (some 3)).sum) (b := 15) (by decide)
  have e3 : 1 + (10 + (pickNums xs (some 0) none (some 3)).sum).fmod 15 = ((1 + f0 : Nat) : Int) := by rw [show ((15 : Nat) : Int) = 15 from rfl] at ef; omega
  refine do_assign S ((Ev.binop Ev.int (Ev.binop (Ev.binop Ev.int (Ev.callBi gSum (.cons (Ev.slice (Ev.name rfl) LI.il (.some Ev.int) .none (.some Ev.int) (by decide) hsz) .nil) (Cal.sum rm .il)) Op2.add) Ev.int (Op2.mod (by decide) (PyProof.noPylong_small (by decide)))) Op2.add).eq (congrArg PV.int e3)) (.inl rfl) fun h4 t4 S => ?_
  have e4 : PV.il ([((1 + f0 : Nat) : Int)] ++ li (rest03 xs sz)) = .il (li ((1 + f0) :: rest03 xs sz)) := rfl
  have hrl := rest03_length xs sz
  have hrt := rest03_lt xs sz
  refine do_assign S ((Ev.binop (Ev.list (xs := [((1 + f0 : Nat) : Int)]) (.cons (Ev.name rfl) .nil) rfl (show 1 ≤ sizeLine by decide)) ((EvN.comp [("script", _)] [("script", .il xs)] kT (gI (fig03 xs)) ⟨rfl, rfl, rfl, rfl, rfl⟩ (Ev.callTy gRg (.cons Ev.int (.cons (Ev.name rfl) .nil)) Cal.range2) (Src.up rm 1 (sz + 1) (by omega) (by omega)) (by simp [li]; omega) (.cons rfl (.inl rfl) rfl (.inl rfl) .nil) (gI_elem _) (fun _ _ _ => .nil) ?_).il (by rw [comp_map, Nat.add_sub_cancel, rest03_eq])) (Op2.addList .il .il (by rw [li_length, hrl]; show 1 + sz ≤ _; omega))).eq e4) (.inl rfl) fun h5 t5 S => ?_
  · intro item hm _ C'
    obtain ⟨x, hx, rfl⟩ := mem_ints hm
    obtain ⟨i, hi, rfl⟩ := List.mem_map.mp hx
    have hi' : i < 3 := by have := List.mem_range'_1.mp hi; omega
    have m1 : ([0, 14, 3] : List Int)[((i : Int)).toNat]? = some (([0, 14, 3] : List Int).getD ((i : Int)).toNat 0) := by
      rw [Int.toNat_natCast, List.getD, List.getElem?_eq_getElem (by simpa using hi')]; rfl
    exact Ev.binop (Ev.binop (Ev.item (Ev.list (xs := [0, 14, 3]) (.cons Ev.int (.cons Ev.int (.cons Ev.int .nil))) rfl (by decide)) LI.il (Ev.name rfl) (by omega) m1 (by decide)) (Ev.callBi gSum (.cons (Ev.slice (Ev.name rfl) LI.il (.some (Ev.name rfl)) .none (.some Ev.int) (by decide) hsz) .nil) (Cal.sum rm .il)) Op2.add) Ev.int (Op2.mod (by decide) (PyProof.noPylong_small (by decide)))
  have hft : ∀ x ∈ (1 + f0) :: rest03 xs sz, x < 16 := fun x hx => by
    rcases List.mem_cons.mp hx with rfl | hx
    · omega
    · exact hrt x hx
  have hfl : ((1 + f0) :: rest03 xs sz).length = sz + 1 := by rw [List.length_cons, hrl]
  have hfh : ∀ x r, (1 + f0) :: rest03 xs sz = x :: r → x ≠ 0 := fun x r e => by have := (List.cons.inj e).1; omega
  generalize hfg : (1 + f0) :: rest03 xs sz = fg at S hft hfl hfh
  refine do_assign S (Ev.callFn gLt (C.kIn _ _ ((congrArg _ hK').trans rfl)) rfl (.cons (Ev.name rfl) (.cons (Ev.name rfl) .nil)) (law_letters hK' (rm.le (show 2 ≤ 300 by decide)) fg hft (by omega) n hn1 hn3)) (.inl rfl) fun h6 t6 S => ?_
  have hlt := grow_lt hft n
  have hll := grow_length fg n
  rw [grow_letters hn1 hn3 fg hft] at hlt hll
  generalize hLT : lettersN n fg = LT at S hlt hll
  have hp : 2 ^ n ≤ 2 ^ 3 := Nat.pow_le_pow_right (by decide) hn3
  have hl24 : LT.length ≤ 24 := by rw [hll]; exact Nat.le_trans (Nat.mul_le_mul (show fg.length ≤ 3 by omega) hp) (by decide)
  have hl0 : 0 < LT.length := by rw [hll]; exact Nat.mul_pos (by omega) (Nat.two_pow_pos n)
  have hlil := li_length LT
  obtain ⟨p, ep, hpl⟩ := natOf (a := tot.fdiv 3 - 9) hl0
  have e5 : (tot.fdiv 3 - 9).fmod ((li LT).length : Int) = (p : Int) := by rw [hlil]; exact ep
  refine do_assign S ((Ev.binop (Ev.binop (Ev.binop (Ev.name rfl) Ev.int (Op2.fdiv (by decide) (PyProof.noPylong_small (by decide)))) Ev.int Op2.sub) (Ev.callBi gLen (.cons (Ev.name rfl) .nil) (Cal.len .il (by omega))) (Op2.mod (by rw [hlil]; omega) (noPy (k := 10) (by rw [hlil, Int.natAbs_natCast]; omega) (by decide)))).eq (congrArg PV.int e5)) (.inl rfl) fun h7 t7 S => ?_
  obtain ⟨v, ev, hv⟩ := natOf (a := ((LT[p] : Nat) : Int) + 1 + (tot.fdiv 24).fmod 15) (b := 16) (by decide)
  have ev' : (((LT[p] : Nat) : Int) + 1 + (tot.fdiv 24).fmod 15).fmod 16 = (v : Int) := ev
  have hx : (li LT)[((p : Int)).toNat]? = some ((LT[p] : Nat) : Int) := by rw [Int.toNat_natCast, li_get, List.getElem?_eq_getElem hpl]; rfl
  have e6 : PV.il (pickNums (li LT) none (some (p : Int)) none) = .il (li (LT.take p)) := by rw [pick_upto, li_take]
  have e7 : (p : Int) + 1 = ((p + 1 : Nat) : Int) := by omega
  have e8 : PV.il (pickNums (li LT) (some ((p + 1 : Nat) : Int)) none none) = .il (li (LT.drop (p + 1))) := by rw [Mine.pick_from, li_drop]
  have e9 : PV.il (li (LT.take p) ++ [(v : Int)] ++ li (LT.drop (p + 1))) = .il (li (LT.take p ++ [v] ++ LT.drop (p + 1))) := by rw [li_append, li_append]; rfl
  have htl : (li (LT.take p)).length ≤ 24 := by rw [li_length, List.length_take]; omega
  have hdl : (li (LT.drop (p + 1))).length ≤ 24 := by rw [li_length, List.length_drop]; omega
  refine do_assign S ((Ev.binop (Ev.binop ((Ev.slice (Ev.name rfl) LI.il .none (.some (Ev.name rfl)) .none (by decide) (by omega)).eq e6) (Ev.list (xs := [(v : Int)]) (.cons ((Ev.binop (Ev.binop (Ev.binop (Ev.item (Ev.name rfl) LI.il (Ev.name rfl) (by omega) hx (by omega)) Ev.int Op2.add) (Ev.binop (Ev.binop (Ev.name rfl) Ev.int (Op2.fdiv (by decide) (PyProof.noPylong_small (by decide)))) Ev.int (Op2.mod (by decide) (PyProof.noPylong_small (by decide)))) Op2.add) Ev.int (Op2.mod (by decide) (PyProof.noPylong_small (by decide)))).eq (congrArg PV.int ev')) .nil) rfl (show 1 ≤ sizeLine by decide)) (Op2.addList .il .il (by show _ + 1 ≤ _; omega)))
    ((Ev.slice (Ev.name rfl) LI.il (.some ((Ev.binop (Ev.name rfl) Ev.int Op2.add).eq (congrArg PV.int e7))) .none .none (by decide) (by omega)).eq e8) (Op2.addList .il .il (by rw [List.length_append]; show _ + 1 + _ ≤ _; omega))).eq e9) (.inl rfl) fun h8 t8 S => ?_
  have hot : ∀ x ∈ LT.take p ++ [v] ++ LT.drop (p + 1), x < 16 := fun x hx => by
    rcases List.mem_append.mp hx with hx | hx
    · rcases List.mem_append.mp hx with hx | hx
      · exact hlt x (List.mem_of_mem_take hx)
      · rw [List.mem_singleton.mp hx]; exact hv
    · exact hlt x (List.mem_of_mem_drop hx)
  have hol : (LT.take p ++ [v] ++ LT.drop (p + 1)).length ≤ 30 := by
    rw [List.length_append, List.length_append, List.length_take, List.length_drop, List.length_singleton]; omega
  refine do_return S (Ev.and (EvAnd.three (Ev.callFn gG (C.kIn _ _ ((congrArg _ hK').trans rfl)) rfl (.cons (Ev.name rfl) (.cons (Ev.name rfl) .nil)) (law_grows hK' hN (rm.le (show 241 ≤ 300 by decide)) (by decide) fg hft (by omega) hfh n hn3))
    (fun _ => Ev.callFn gBk (C.kIn _ _ ((congrArg _ hK').trans rfl)) rfl (.cons (Ev.name rfl) .nil) (law_backed hK' hN (rm.le (show 241 ≤ 300 by decide)) (by decide) LT hlt (by omega)))
    fun _ _ => Ev.callFn gBk (C.kIn _ _ ((congrArg _ hK').trans rfl)) rfl (.cons (Ev.name rfl) .nil) (law_backed hK' hN (rm.le (show 241 ≤ 300 by decide)) (by decide) _ hot hol))) fun v h' tk kp ok r => ?_
  cases r
  refine top_good (hgo _ ok) rfl hg (raisesW_false ?_) ?_ rfl
  · wrow_none_raised
  · first | wrow_post | kc_post
