import PyProof.Rows.All
import Wide.All
import OpenK.AllK
import Wide.FinOn
import KE.KRevIter
import KE.KFromBytes
import KE.KTryDeep
import OpenK.ZHead
import PyProof.StrLawsLines
import Lean
import PySem.Challenge.RW_ku0017_01
set_option Elab.async false
section
open PySem PySem.W PyProof.Rows
set_option Elab.async false
set_option maxRecDepth 100000
namespace Mine

def boundObj (a : Addr) : Obj := { cls := .type "builtin_function_or_method", data := .fields #[.builtin "list.append", .ref a] }
inductive PV where
  | none
  | bool (b : Bool)
  | int (i : Int)
  | str (x : Str)
  | list (l : List PV)
  | tup (l : List PV)
  | rng (a b : Int)
  | raw (v : Value)
  | bnd (a : Addr)

mutual
inductive V (H : List Addr) (h : Heap) : Value → PV → Prop where
  | none : V H h .none .none
  | bool (b : Bool) : V H h (.bool b) (.bool b)
  | int (i : Int) (t : Tok) : V H h (.int i t) (.int i)
  | str (x : Str) (t : Tok) : V H h (.str x t) (.str x)
  | list {a : Addr} {vs : List Value} {l : List PV} : a ∉ H → h.PlainList a vs.toArray → VL H h vs l → V H h (.ref a) (.list l)
  | tup {a : Addr} {vs : List Value} {l : List PV} : a ∉ H → IsTup h a vs.toArray → VL H h vs l → V H h (.ref a) (.tup l)
  | rng {r : Addr} {a b : Int} {t u v : Tok} : r ∉ H → IsRange h r a b 1 t u v → V H h (.ref r) (.rng a b)
  | raw (v : Value) : V H h v (.raw v)
  | bnd {b a : Addr} : b ∉ H → h.get? b = some (boundObj a) → V H h (.ref b) (.bnd a)
inductive VL (H : List Addr) (h : Heap) : List Value → List PV → Prop where
  | nil : VL H h [] []
  | cons {v : Value} {p : PV} {vs : List Value} {ps : List PV} : V H h v p → VL H h vs ps → VL H h (v :: vs) (p :: ps)
end

def KeepsOff (H : List Addr) (h h' : Heap) : Prop := ∀ b o, b ∉ H → h.get? b = some o → h'.get? b = some o
theorem KeepsOff.of {H : List Addr} {h h' : Heap} (k : ∀ b o, h.get? b = some o → h'.get? b = some o) : KeepsOff H h h' := fun b o _ => k b o

mutual
theorem V.mono {H : List Addr} {h h' : Heap} (k : KeepsOff H h h') : ∀ {v : Value} {p : PV}, V H h v p → V H h' v p
  | _, _, .none => .none
  | _, _, .bool b => .bool b
  | _, _, .int i t => .int i t
  | _, _, .str x t => .str x t
  | _, _, .list ha hl hv => .list ha (hl.at fun o e => k _ o ha e) (VL.mono k hv)
  | _, _, .tup ha ⟨o, ho, r⟩ hv => .tup ha ⟨o, k _ o ha ho, r⟩ (VL.mono k hv)
  | _, _, .rng ha hr => .rng ha (k _ _ ha hr)
  | _, _, .raw v => .raw v
  | _, _, .bnd ha hb => .bnd ha (k _ _ ha hb)
theorem VL.mono {H : List Addr} {h h' : Heap} (k : KeepsOff H h h') : ∀ {vs : List Value} {ps : List PV}, VL H h vs ps → VL H h' vs ps
  | _, _, .nil => .nil
  | _, _, .cons hv hr => .cons (V.mono k hv) (VL.mono k hr)
end
mutual
theorem V.weak {H H' : List Addr} {h : Heap} (s : ∀ a ∈ H', a ∈ H) : ∀ {v : Value} {p : PV}, V H h v p → V H' h v p
  | _, _, .none => .none
  | _, _, .bool b => .bool b
  | _, _, .int i t => .int i t
  | _, _, .str x t => .str x t
  | _, _, .list ha hl hv => .list (fun q => ha (s _ q)) hl (VL.weak s hv)
  | _, _, .tup ha hl hv => .tup (fun q => ha (s _ q)) hl (VL.weak s hv)
  | _, _, .rng ha hr => .rng (fun q => ha (s _ q)) hr
  | _, _, .raw v => .raw v
  | _, _, .bnd ha hb => .bnd (fun q => ha (s _ q)) hb
theorem VL.weak {H H' : List Addr} {h : Heap} (s : ∀ a ∈ H', a ∈ H) : ∀ {vs : List Value} {ps : List PV}, VL H h vs ps → VL H' h vs ps
  | _, _, .nil => .nil
  | _, _, .cons hv hr => .cons (V.weak s hv) (VL.weak s hr)
end

theorem V.fresh {H : List Addr} {h : Heap} {c : Addr} (hc : h.objs.size ≤ c) : ∀ {v : Value} {p : PV}, V H h v p → V (c :: H) h v p := by
  have ne : ∀ {a : Addr} {o : Obj}, h.get? a = some o → a ≠ c := fun e q => Nat.lt_irrefl _ (Nat.lt_of_lt_of_le (Heap.lt_size (q ▸ e)) hc)
  intro v p x
  refine V.rec (motive_1 := fun v p _ => V (c :: H) h v p) (motive_2 := fun vs ps _ => VL (c :: H) h vs ps) .none .bool .int .str ?_ ?_ ?_ .raw ?_ .nil (fun _ _ a b => .cons a b) x
  · intro a vs l ha hl _ ih
    obtain ⟨o, ho⟩ := hl
    exact .list (fun q => (List.mem_cons.mp q).elim (ne ho) ha) ⟨o, ho⟩ ih
  · intro a vs l ha hl _ ih
    obtain ⟨o, ho, r⟩ := hl
    exact .tup (fun q => (List.mem_cons.mp q).elim (ne ho) ha) ⟨o, ho, r⟩ ih
  · intro r a b t u v ha hr
    exact .rng (fun q => (List.mem_cons.mp q).elim (ne hr) ha) hr
  · intro b a ha hb
    exact .bnd (fun q => (List.mem_cons.mp q).elim (ne hb) ha) hb
theorem VL.fresh {H : List Addr} {h : Heap} {c : Addr} (hc : h.objs.size ≤ c) : ∀ {vs : List Value} {ps : List PV}, VL H h vs ps → VL (c :: H) h vs ps
  | _, _, .nil => .nil
  | _, _, .cons a b => .cons (a.fresh hc) (b.fresh hc)
theorem VL.length {H : List Addr} {h : Heap} : ∀ {vs : List Value} {ps : List PV}, VL H h vs ps → vs.length = ps.length
  | _, _, .nil => rfl
  | _, _, .cons _ b => by rw [List.length_cons, List.length_cons, b.length]
theorem VL.append {H : List Addr} {h : Heap} : ∀ {vs us : List Value} {ps qs : List PV}, VL H h vs ps → VL H h us qs → VL H h (vs ++ us) (ps ++ qs)
  | _, _, _, _, .nil, b => b
  | _, _, _, _, .cons a r, b => .cons a (r.append b)
theorem VL.get {H : List Addr} {h : Heap} : ∀ {vs : List Value} {ps : List PV}, VL H h vs ps → ∀ {i : Nat} {p : PV}, ps[i]? = some p → ∃ v, vs[i]? = some v ∧ V H h v p
  | _, _, .nil, i, p, e => by simp at e
  | _, _, .cons (v := v) a r, 0, p, e => by
    simp only [List.getElem?_cons_zero, Option.some.injEq] at e
    subst e
    exact ⟨v, rfl, a⟩
  | _, _, .cons a r, i + 1, p, e => by
    simp only [List.getElem?_cons_succ] at e ⊢
    exact r.get e
theorem VL.get' {H : List Addr} {h : Heap} : ∀ {vs : List Value} {ps : List PV}, VL H h vs ps → ∀ {i : Nat} {v : Value}, vs[i]? = some v → ∃ p, ps[i]? = some p ∧ V H h v p
  | _, _, .nil, i, p, e => by simp at e
  | _, _, .cons (p := p) a r, 0, v, e => by
    simp only [List.getElem?_cons_zero, Option.some.injEq] at e
    subst e
    exact ⟨p, rfl, a⟩
  | _, _, .cons a r, i + 1, p, e => by
    simp only [List.getElem?_cons_succ] at e ⊢
    exact r.get' e
theorem VL.reverse {H : List Addr} {h : Heap} : ∀ {vs : List Value} {ps : List PV}, VL H h vs ps → VL H h vs.reverse ps.reverse
  | _, _, .nil => .nil
  | _, _, .cons a r => by
    rw [List.reverse_cons, List.reverse_cons]
    exact r.reverse.append (.cons a .nil)

abbrev Ext (h h' : Heap) : Prop := ∀ b o, h.get? b = some o → h'.get? b = some o
theorem Ext.refl (h : Heap) : Ext h h := fun _ _ e => e
theorem Ext.trans {a b c : Heap} (x : Ext a b) (y : Ext b c) : Ext a c := fun i o e => y i o (x i o e)
theorem Ext.push (h : Heap) (o : Obj) : Ext h (h.push o) := fun _ _ e => Heap.get?_push_of_some o e
theorem V.ext {H : List Addr} {h h' : Heap} (k : Ext h h') {v : Value} {p : PV} (x : V H h v p) : V H h' v p := x.mono (.of k)
theorem VL.ext {H : List Addr} {h h' : Heap} (k : Ext h h') {vs : List Value} {ps : List PV} (x : VL H h vs ps) : VL H h' vs ps := x.mono (.of k)

def Live (H : List Addr) (h : Heap) : Prop := ∀ a ∈ H, ∃ o, h.get? a = some o
theorem Live.ext {H : List Addr} {h h' : Heap} (l : Live H h) (k : Ext h h') : Live H h' := fun a q => let ⟨o, e⟩ := l a q; ⟨o, k _ _ e⟩
theorem Live.off {H : List Addr} {h : Heap} (l : Live H h) : h.objs.size ∉ H := fun q => let ⟨_, e⟩ := l _ q; Nat.lt_irrefl _ (Heap.lt_size e)
theorem Live.nil {h : Heap} : Live [] h := fun _ q => nomatch q

structure Room (n : Nat) (A : Around) : Prop where
  hh : A.handled = none
  depth : A.depth + n < recursionLimit
  units : A.units + 8 * n + 100 < cLine
theorem Room.le {m n : Nat} {A : Around} (r : Room n A) (h : m ≤ n) : Room m A := ⟨r.hh, by have := r.depth; omega, by have := r.units; omega⟩

structure Tabs where
  g : List (Str × Value)
  b : List Str
  fns : List (Addr × FuncData)

structure Gl (T : Tabs) (h : Heap) : Prop where
  glob : ∃ mg mb, h.Ns mainGlobals mg ∧ h.Ns builtinsNs mb ∧ (∀ x v, List.Mem (x, v) T.g → mg x = some v) ∧ (∀ x, x ∈ T.b → mg x = none) ∧ ∀ x, x ≠ ("__name__" : Str) → mb x = bootBuiltins x
  nolimit : h.NoLimit
  fns : ∀ p, p ∈ T.fns → ∃ o, h.get? p.1 = some o ∧ o.data = .func p.2 ∧ h.CodeRec p.2.code p.2.qualname
theorem Gl.ext {T : Tabs} {h h' : Heap} (G : Gl T h) (k : Ext h h') : Gl T h' := by
  obtain ⟨mg, mb, a, b, c, d, e⟩ := G.glob
  exact ⟨⟨mg, mb, a.keeps k, b.keeps k, c, d, e⟩, G.nolimit.keeps k, fun p hp => let ⟨o, x, y, z⟩ := G.fns p hp; ⟨o, k _ _ x, y, z.keeps k⟩⟩

abbrev Sto := List (Str × Option PV)

def SlotOk (H : List Addr) (env : Env) (h : Heap) (m : Str → Option Value) (x : Str) (o : Option PV) : Prop :=
  (env.kindOf x = some .local ∧ ∀ p, o = some p → ∃ v, m x = some v ∧ V H h v p) ∨
  (∃ c u, (env.kindOf x = some .cell ∨ (env.kindOf x = some .free ∧ (x == ("__classdict__" : Str)) = false)) ∧ env.cells.lookup x = some c ∧ h.IsCell c u ∧ ∀ p, o = some p → ∃ v, u = some v ∧ V H h v p)

structure CtxE (T : Tabs) (h₀ : Heap) (H : List Addr) (env : Env) (σ : Sto) (h : Heap) : Prop where
  kind : env.scope.kind = .function
  glb : env.globals = mainGlobals
  blt : env.builtins = builtinsNs
  G : Gl T h₀
  ext : Ext h₀ h
  vars : ∃ m, h.Ns env.locals m ∧ ∀ x o, List.Mem (x, o) σ → SlotOk H env h m x o

theorem SlotOk.ext {H : List Addr} {env : Env} {h h' : Heap} {m : Str → Option Value} {x : Str} {o : Option PV} (k : Ext h h') (s : SlotOk H env h m x o) : SlotOk H env h' m x o := by
  rcases s with ⟨a, b⟩ | ⟨c, u, a, b, d, e⟩
  · exact .inl ⟨a, fun p q => let ⟨v, y, z⟩ := b p q; ⟨v, y, z.ext k⟩⟩
  · exact .inr ⟨c, u, a, b, d.keeps k, fun p q => let ⟨v, y, z⟩ := e p q; ⟨v, y, z.ext k⟩⟩
theorem CtxE.ext' {T : Tabs} {h₀ : Heap} {H : List Addr} {env : Env} {σ : Sto} {h h' : Heap} (C : CtxE T h₀ H env σ h) (k : Ext h h') : CtxE T h₀ H env σ h' := by
  obtain ⟨m, a, b⟩ := C.vars
  exact ⟨C.kind, C.glb, C.blt, C.G, C.ext.trans k, m, a.keeps k, fun x o e => (b x o e).ext k⟩

def Pur (prog : Program) (w : World) (h₀ : Heap) (n : Nat) (vs : List PV) (t : List Value → Sem Value) (r : PV) : Prop :=
  ∀ (A : Around) (H : List Addr) (s : Shared) (us : List Value) (Q : Value → Shared → Prop) (E : Value → Shared → Prop), Room n A → Ext h₀ s.heap → VL H s.heap us vs → Live H s.heap →
    (∀ v h' tk, Ext s.heap h' → V H h' v r → Q v { s with heap := h', toks := tk }) → wpAny (model prog w) A (t us) Q E s

def Ev (prog : Program) (w : World) (T : Tabs) (h₀ : Heap) (n : Nat) (env : Env) (σ : Sto) (e : PySem.Expr) (p : PV) : Prop :=
  ∀ (A : Around) (H : List Addr) (s : Shared) (Q : Value → Shared → Prop) (E : Value → Shared → Prop), Room n A → CtxE T h₀ H env σ s.heap → Live H s.heap →
    (∀ v h' tk, Ext s.heap h' → V H h' v p → Q v { s with heap := h', toks := tk }) → wpAny (model prog w) A (eval e env) Q E s

def EvB (prog : Program) (w : World) (T : Tabs) (h₀ : Heap) (n : Nat) (env : Env) (σ : Sto) (e : PySem.Expr) (b : Bool) : Prop :=
  ∀ (A : Around) (H : List Addr) (s : Shared) (Q : Bool → Shared → Prop) (E : Value → Shared → Prop), Room n A → CtxE T h₀ H env σ s.heap → Live H s.heap →
    (∀ h' tk, Ext s.heap h' → Q b { s with heap := h', toks := tk }) → wpAny (model prog w) A (isTrue e env (eval e env)) Q E s
end Mine
end

section
open PySem PySem.W PyProof.Rows
set_option Elab.async false
set_option maxRecDepth 100000
namespace Mine
section
variable {prog : Program} {w : World} {T : Tabs} {h₀ : Heap} {n : Nat} {env : Env} {σ : Sto}

theorem VL.two {H : List Addr} {h : Heap} {us : List Value} {p q : PV} (x : VL H h us [p, q]) : ∃ v u, us = [v, u] ∧ V H h v p ∧ V H h u q := by
  cases x with | cons a r => cases r with | cons b r => cases r with | nil => exact ⟨_, _, rfl, a, b⟩
theorem VL.one {H : List Addr} {h : Heap} {us : List Value} {p : PV} (x : VL H h us [p]) : ∃ v, us = [v] ∧ V H h v p := by
  cases x with | cons a r => cases r with | nil => exact ⟨_, rfl, a⟩
theorem V.int_inv {H : List Addr} {h : Heap} {v : Value} {i : Int} (x : V H h v (.int i)) : ∃ t, v = .int i t := by cases x; exact ⟨_, rfl⟩
theorem V.str_inv {H : List Addr} {h : Heap} {v : Value} {y : Str} (x : V H h v (.str y)) : ∃ t, v = .str y t := by cases x; exact ⟨_, rfl⟩
theorem V.bool_inv {H : List Addr} {h : Heap} {v : Value} {b : Bool} (x : V H h v (.bool b)) : v = .bool b := by cases x; rfl
theorem V.raw_inv {H : List Addr} {h : Heap} {v u : Value} (x : V H h v (.raw u)) : v = u := by cases x; rfl
theorem V.list_inv {H : List Addr} {h : Heap} {v : Value} {l : List PV} (x : V H h v (.list l)) : ∃ a vs, v = .ref a ∧ a ∉ H ∧ h.PlainList a vs.toArray ∧ VL H h vs l := by cases x; exact ⟨_, _, rfl, by assumption, by assumption, by assumption⟩
theorem V.tup_inv {H : List Addr} {h : Heap} {v : Value} {l : List PV} (x : V H h v (.tup l)) : ∃ a vs, v = .ref a ∧ a ∉ H ∧ IsTup h a vs.toArray ∧ VL H h vs l := by cases x; exact ⟨_, _, rfl, by assumption, by assumption, by assumption⟩
theorem V.rng_inv {H : List Addr} {h : Heap} {v : Value} {a b : Int} (x : V H h v (.rng a b)) : ∃ r t u y, v = .ref r ∧ r ∉ H ∧ IsRange h r a b 1 t u y := by cases x; exact ⟨_, _, _, _, rfl, by assumption, by assumption⟩

theorem V.bnd_inv {H : List Addr} {h : Heap} {v : Value} {a : Addr} (x : V H h v (.bnd a)) : ∃ b, v = .ref b ∧ b ∉ H ∧ h.get? b = some (boundObj a) := by cases x; exact ⟨_, rfl, by assumption, by assumption⟩
theorem Ev_int {i : Int} {k : Nat} {pos : Pos} : Ev prog w T h₀ n env σ (.Constant (.int i) k pos) (.int i) := fun _ _ s _ _ _ _ _ hQ => wpAny_Constant_int (hQ _ _ _ (Ext.refl _) (.int _ _))
theorem Ev_str {x : Str} {k : Nat} {pos : Pos} : Ev prog w T h₀ n env σ (.Constant (.str x) k pos) (.str x) := fun _ _ s _ _ _ _ _ hQ => wpAny_Constant_str (hQ _ _ _ (Ext.refl _) (.str _ _))
theorem Ev_var {x : Str} {pos : Pos} {p : PV} (h : List.Mem (x, some p) σ) (hd : (x == ("__debug__" : Str)) = false) : Ev prog w T h₀ n env σ (.Name x pos) p := fun A H s Q E r C b hQ => by
  obtain ⟨m, hns, hv⟩ := C.vars
  refine wpAny_Name ?_ hd
  rcases hv x _ h with ⟨hk, hp⟩ | ⟨c, u, hk, hc, hcell, hp⟩
  · obtain ⟨v, hm, hV⟩ := hp p rfl
    exact wpAny_loadName_local C.kind hk hns hm (hQ v _ _ (Ext.refl _) hV)
  · obtain ⟨v, rfl, hV⟩ := hp p rfl
    rcases hk with hk | ⟨hk, hcd⟩
    · exact wpAny_loadName_cell C.kind hk hc hcell (hQ v _ _ (Ext.refl _) hV)
    · exact wpAny_loadName_free C.kind hk hc hcell (hQ v _ _ (Ext.refl _) hV) hcd

theorem Ev_glob {x : Str} {pos : Pos} {v : Value} {p : PV} (h : List.Mem (x, v) T.g) (hk : env.kindOf x = some .globalImplicit) (hV : ∀ H h, V H h v p) (hd : (x == ("__debug__" : Str)) = false) : Ev prog w T h₀ n env σ (.Name x pos) p := fun A H s Q E r C b hQ => by
  obtain ⟨mg, mb, hg, hb, h1, h2, h3⟩ := (C.G.ext C.ext).glob
  exact Calls.Name_function_global C.kind hk (Calls.loadGlobal_global (by rw [C.glb]; exact hg) (h1 _ _ h) (hQ v _ _ (Ext.refl _) (hV _ _))) hd
theorem Ev_builtin {x : Str} {pos : Pos} {v : Value} (h : List.Mem x T.b) (hv : bootBuiltins x = some v) (hk : env.kindOf x = some .globalImplicit) (hn : x ≠ ("__name__" : Str)) (hd : (x == ("__debug__" : Str)) = false) : Ev prog w T h₀ n env σ (.Name x pos) (.raw v) := fun A H s Q E r C b hQ => by
  obtain ⟨mg, mb, hg, hb, h1, h2, h3⟩ := (C.G.ext C.ext).glob
  exact Calls.Name_function_global C.kind hk (Calls.loadGlobal_builtin (by rw [C.glb]; exact hg) (h2 _ h) (by rw [C.blt]; exact hb) ((h3 x hn).trans hv) (hQ v _ _ (Ext.refl _) (.raw _))) hd

theorem Ev_bin {l r : PySem.Expr} {op : Operator} {pos : Pos} {p q y : PV} (hl : Ev prog w T h₀ n env σ l p) (hr : Ev prog w T h₀ n env σ r q)
    (hp : Pur prog w h₀ n [p, q] (fun us => binaryOp op (us.getD 0 .none) (us.getD 1 .none)) y) : Ev prog w T h₀ n env σ (.BinOp l op r pos) y := fun A H s Q E rm C b hQ =>
  wpAny_BinOp (hl A H s _ _ rm C b fun v h1 t1 k1 v1 => hr A H _ _ _ rm (C.ext' k1) (b.ext k1) fun u h2 t2 k2 v2 => hp A H _ [v, u] _ _ rm (C.ext.trans (k1.trans k2)) (.cons (v1.ext k2) (.cons v2 .nil)) (b.ext (k1.trans k2)) fun z h3 t3 k3 v3 => hQ z h3 t3 (k1.trans (k2.trans k3)) v3)
theorem Ev_cmp {l r : PySem.Expr} {op : CmpOp} {pos : Pos} {p q y : PV} (hl : Ev prog w T h₀ n env σ l p) (hr : Ev prog w T h₀ n env σ r q)
    (hp : Pur prog w h₀ n [p, q] (fun us => compareOp op (us.getD 0 .none) (us.getD 1 .none)) y) (hm : behindInMarks op r = false) : Ev prog w T h₀ n env σ (.Compare l [op] [r] pos) y := fun A H s Q E rm C b hQ =>
  wpAny_Compare1 (hm := hm) (hl A H s _ _ rm C b fun v h1 t1 k1 v1 => hr A H _ _ _ rm (C.ext' k1) (b.ext k1) fun u h2 t2 k2 v2 => hp A H _ [v, u] _ _ rm (C.ext.trans (k1.trans k2)) (.cons (v1.ext k2) (.cons v2 .nil)) (b.ext (k1.trans k2)) fun z h3 t3 k3 v3 => hQ z h3 t3 (k1.trans (k2.trans k3)) v3)
theorem EvB_cmp {l r : PySem.Expr} {op : CmpOp} {pos : Pos} {p q : PV} {y : Bool} (hl : Ev prog w T h₀ n env σ l p) (hr : Ev prog w T h₀ n env σ r q)
    (hp : Pur prog w h₀ n [p, q] (fun us => compareOp op (us.getD 0 .none) (us.getD 1 .none)) (.bool y)) (hm : behindInMarks op r = false) : EvB prog w T h₀ n env σ (.Compare l [op] [r] pos) y := fun A H s Q E rm C b hQ =>
  wpAny_isTrue_Compare1 (hm := hm) (hl A H s _ _ rm C b fun v h1 t1 k1 v1 => hr A H _ _ _ rm (C.ext' k1) (b.ext k1) fun u h2 t2 k2 v2 => hp A H _ [v, u] _ _ rm (C.ext.trans (k1.trans k2)) (.cons (v1.ext k2) (.cons v2 .nil)) (b.ext (k1.trans k2)) fun z h3 t3 k3 v3 => by
    obtain rfl := v3.bool_inv
    exact wpAny_truthy_bool (hQ h3 t3 (k1.trans (k2.trans k3))))

theorem Ev_un {e : PySem.Expr} {op : PySem.UnaryOp} {pos : Pos} {p y : PV} (he : Ev prog w T h₀ n env σ e p) (hp : Pur prog w h₀ n [p] (fun us => unaryOp op (us.getD 0 .none)) y) : Ev prog w T h₀ n env σ (.UnaryOp op e pos) y := fun A H s Q E rm C b hQ => by
  show wpAny _ A (do let v ← eval e env; standAt pos; holding [v] (unaryOp op v)) Q E s
  exact wpAny_bind (he A H s _ _ rm C b fun v h1 t1 k1 v1 => wpAny_bind (wpAny_standAt (wpAny_holding (hp A H _ [v] _ _ rm (C.ext.trans k1) (.cons v1 .nil) (b.ext k1) fun z h3 t3 k3 v3 => hQ z h3 t3 (k1.trans k3) v3))))

theorem Ev_sub {value slice : PySem.Expr} {pos : Pos} {p q y : PV} (hl : Ev prog w T h₀ n env σ value p) (hr : Ev prog w T h₀ n env σ slice q)
    (hp : Pur prog w h₀ n [p, q] (fun us => subscriptTail value slice (us.getD 0 .none) (us.getD 1 .none)) y) : Ev prog w T h₀ n env σ (.Subscript value slice pos) y := fun A H s Q E rm C b hQ =>
  Subscript_ (hl A H s _ _ rm C b fun v h1 t1 k1 v1 => hr A H _ _ _ rm (C.ext' k1) (b.ext k1) fun u h2 t2 k2 v2 => hp A H _ [v, u] _ _ rm (C.ext.trans (k1.trans k2)) (.cons (v1.ext k2) (.cons v2 .nil)) (b.ext (k1.trans k2)) fun z h3 t3 k3 v3 => hQ z h3 t3 (k1.trans (k2.trans k3)) v3)

def EvL (prog : Program) (w : World) (T : Tabs) (h₀ : Heap) (n : Nat) (env : Env) (σ : Sto) (es : List PySem.Expr) (ps : List PV) : Prop :=
  ∀ (A : Around) (H : List Addr) (s : Shared) (pos : Pos) (Q : List Value → Shared → Prop) (E : Value → Shared → Prop), Room n A → CtxE T h₀ H env σ s.heap → Live H s.heap →
    (∀ vs h' tk, Ext s.heap h' → VL H h' vs ps → Q vs { s with heap := h', toks := tk }) → wpAny (model prog w) A (spliced (backTo pos (starEach es env))) Q E s
theorem EvL_nil : EvL prog w T h₀ n env σ [] [] := fun _ _ s _ _ _ _ _ _ hQ => Calls.spliced_nil (hQ [] _ s.toks (Ext.refl _) .nil)
theorem EvL_cons {e : PySem.Expr} {es : List PySem.Expr} {p : PV} {ps : List PV} (he : Ev prog w T h₀ n env σ e p) (hr : EvL prog w T h₀ n env σ es ps) (hs : starEach (e :: es) env = (false, eval e env) :: starEach es env) :
    EvL prog w T h₀ n env σ (e :: es) (p :: ps) := fun A H s pos Q E rm C b hQ => by
  rw [hs]
  refine Calls.spliced_cons (he A H s _ _ rm C b fun v h1 t1 k1 v1 => ?_)
  exact hr A H _ pos _ _ rm (C.ext' k1) (b.ext k1) fun vs h2 t2 k2 v2 => hQ (v :: vs) h2 t2 (k1.trans k2) (.cons (v1.ext k2) v2)

def Callable (h : Heap) (f : Value) : Prop := (∃ id, f = .builtin id) ∨ (∃ t, f = .type t) ∨ ∃ a o fd, f = .ref a ∧ h.get? a = some o ∧ o.data = .func fd
theorem evalArgs_spliced {M : Model} {A : Around} {E : Value → Shared → Prop} {s : Shared} {f : Value} {args : List (Bool × Sem Value)} {Q : PySem.Args → Shared → Prop} (hp : args.any (·.1) = false)
    (h : wpAny M A (spliced args) (fun vs s' => Q ⟨vs, []⟩ s') E s) : wpAny M A (evalArgs f true args []) Q E s := by
  cases args with
  | nil =>
    unfold evalArgs
    show wpAny M A (spliced [] >>= _) Q E s
    exact wpAny_bind (wpAny_mono h (fun vs s' h' => by
      refine wpAny_bind (wpAny_pure (wpAny_holding ?_))
      exact wpAny_bind (wpAny_pure (wpAny_bind (wpAny_pure (wpAny_pure h'))))) fun _ _ x => x)
  | cons a r =>
    obtain ⟨b, x⟩ := a
    simp only [List.any_cons, Bool.or_eq_false_iff] at hp
    obtain ⟨rfl, _⟩ := hp
    exact Calls.evalArgs_plain h
end
end Mine
end

section
open PySem PySem.W PyProof.Rows
set_option Elab.async false
set_option maxRecDepth 100000
namespace Mine
section
variable {prog : Program} {w : World} {T : Tabs} {h₀ : Heap} {n : Nat} {env : Env} {σ : Sto}

theorem callWith_any {M : Model} {A : Around} {E : Value → Shared → Prop} {s : Shared} {pos : Pos} {f : Value} {first : List Value} {args : List (Bool × Sem Value)} {Q : Value → Shared → Prop} (hp : args.any (·.1) = false)
    (hf : Callable s.heap f) (h : wpAny M A (spliced args) (fun vs s' => Ext s.heap s'.heap ∧ wpAny M A (call f (first ++ vs)) Q E s') E s) : wpAny M A (callWith pos f first args []) Q E s := by
  rcases hf with ⟨id, rfl⟩ | ⟨t, rfl⟩ | ⟨a, o, fd, rfl, ho, hd⟩
  · exact Calls.callWith_builtin hp (evalArgs_spliced hp (wpAny_mono h (fun _ _ x => x.2) fun _ _ x => x))
  · exact PySem.callWith_type hp (evalArgs_spliced hp (wpAny_mono h (fun _ _ x => x.2) fun _ _ x => x))
  · exact Calls.callWith_function (evalArgs_spliced hp (wpAny_mono h (fun _ _ x => ⟨⟨x.1 _ _ ho, hd⟩, x.2⟩) fun _ _ x => x))

theorem backTo_plain {pos : Pos} {es : List PySem.Expr} (h : (starEach es env).any (·.1) = false) : (backTo pos (starEach es env)).any (·.1) = false := by
  rw [List.any_eq_false] at h ⊢
  intro x hx
  obtain ⟨y, hy, rfl⟩ := List.mem_map.mp hx
  exact h y hy

theorem Ev_call {x : Str} {np pos : Pos} {args : List PySem.Expr} {f : Value} {ps : List PV} {y : PV} (hn : Ev prog w T h₀ n env σ (.Name x np) (.raw f)) (hf : Callable h₀ f) (ha : EvL prog w T h₀ n env σ args ps)
    (hp : Pur prog w h₀ n ps (fun us => call f us) y) (hs : (starEach args env).any (·.1) = false) : Ev prog w T h₀ n env σ (.Call (.Name x np) args [] pos) y := fun A H s Q E rm C b hQ => by
  show wpAny _ A (do callWith pos (← eval (.Name x np) env) [] (backTo pos (starEach args env)) (backToKw pos (keywordEach [] env))) Q E s
  refine wpAny_bind (hn A H s _ _ rm C b fun v h1 t1 k1 v1 => ?_)
  obtain rfl := v1.raw_inv
  refine callWith_any (backTo_plain hs) ?_ (ha A H _ pos _ _ rm (C.ext' k1) (b.ext k1) fun vs h2 t2 k2 v2 => ⟨k2, ?_⟩)
  · rcases hf with q | q | ⟨a, o, fd, rfl, ho, hd⟩
    · exact .inl q
    · exact .inr (.inl q)
    · exact .inr (.inr ⟨a, o, fd, rfl, C.ext.trans k1 _ _ ho, hd⟩)
  · exact hp A H _ _ _ _ rm (C.ext.trans (k1.trans k2)) v2 (b.ext (k1.trans k2)) fun z h3 t3 k3 v3 => hQ z h3 t3 (k1.trans (k2.trans k3)) v3

theorem Ev_tuple {es : List PySem.Expr} {ps : List PV} {k : Nat} {pos : Pos} (ha : EvL prog w T h₀ n env σ es ps) (hsz : ps.length ≤ sizeLine) : Ev prog w T h₀ n env σ (.Tuple es k pos) (.tup ps) := fun A H s Q E rm C b hQ => by
  refine Tuple_ (ha A H s pos _ _ rm C b fun vs h1 t1 k1 v1 => wpAny_newObj_type (hQ _ _ t1 (k1.trans (Ext.push _ _)) (.tup (b.ext k1).off ⟨_, Heap.get?_push_size _ rfl, rfl, _, rfl⟩ (v1.ext (Ext.push _ _)))) ?_)
  show vs.toArray.size ≤ sizeLine
  rw [List.size_toArray, v1.length]; exact hsz
theorem Ev_list {es : List PySem.Expr} {ps : List PV} {pos : Pos} (ha : EvL prog w T h₀ n env σ es ps) (hsz : ps.length ≤ sizeLine) : Ev prog w T h₀ n env σ (.List es pos) (.list ps) := fun A H s Q E rm C b hQ => by
  refine List_ (ha A H s pos _ _ rm C b fun vs h1 t1 k1 v1 => wpAny_newObj_type (hQ _ _ t1 (k1.trans (Ext.push _ _)) (.list (b.ext k1).off ⟨_, Heap.get?_push_size _ rfl⟩ (v1.ext (Ext.push _ _)))) ?_)
  show vs.toArray.size ≤ sizeLine
  rw [List.size_toArray, v1.length]; exact hsz

theorem Bin_add {a b : Int} : Pur prog w h₀ n [.int a, .int b] (fun us => binaryOp .Add (us.getD 0 .none) (us.getD 1 .none)) (.int (a + b)) := fun _ _ s us Q E rm _ hv _ hQ => by
  obtain ⟨_, _, rfl, v1, v2⟩ := hv.two
  obtain ⟨t, rfl⟩ := v1.int_inv
  obtain ⟨u, rfl⟩ := v2.int_inv
  exact P.add_int (hQ _ _ _ (Ext.refl _) (.int _ _))
theorem Bin_sub {a b : Int} : Pur prog w h₀ n [.int a, .int b] (fun us => binaryOp .Sub (us.getD 0 .none) (us.getD 1 .none)) (.int (a - b)) := fun _ _ s us Q E rm _ hv _ hQ => by
  obtain ⟨_, _, rfl, v1, v2⟩ := hv.two
  obtain ⟨t, rfl⟩ := v1.int_inv
  obtain ⟨u, rfl⟩ := v2.int_inv
  exact P.sub_int (hQ _ _ _ (Ext.refl _) (.int _ _))
theorem Bin_mul {a b : Int} (hm : IntMulOk a b) : Pur prog w h₀ n [.int a, .int b] (fun us => binaryOp .Mult (us.getD 0 .none) (us.getD 1 .none)) (.int (a * b)) := fun _ _ s us Q E rm _ hv _ hQ => by
  obtain ⟨_, _, rfl, v1, v2⟩ := hv.two
  obtain ⟨t, rfl⟩ := v1.int_inv
  obtain ⟨u, rfl⟩ := v2.int_inv
  exact P.mul_int (hm := hm) (hQ _ _ _ (Ext.refl _) (.int _ _))
theorem Bin_fdiv {a b : Int} (h0 : ¬(b == 0) = true) (h1 : ¬(Builtin.divisionGoesByPylong a b) = true) : Pur prog w h₀ n [.int a, .int b] (fun us => binaryOp .FloorDiv (us.getD 0 .none) (us.getD 1 .none)) (.int (a.fdiv b)) := fun _ _ s us Q E rm _ hv _ hQ => by
  obtain ⟨_, _, rfl, v1, v2⟩ := hv.two
  obtain ⟨t, rfl⟩ := v1.int_inv
  obtain ⟨u, rfl⟩ := v2.int_inv
  exact AutoIntOps.floordiv_1 h0 h1 (hQ _ _ _ (Ext.refl _) (.int _ _))
theorem Bin_mod {a b : Int} (h0 : ¬(b == 0) = true) : Pur prog w h₀ n [.int a, .int b] (fun us => binaryOp .Mod (us.getD 0 .none) (us.getD 1 .none)) (.int (a.fmod b)) := fun _ _ s us Q E rm _ hv _ hQ => by
  obtain ⟨_, _, rfl, v1, v2⟩ := hv.two
  obtain ⟨t, rfl⟩ := v1.int_inv
  obtain ⟨u, rfl⟩ := v2.int_inv
  exact AutoIntOps.mod_1 h0 (hQ _ _ _ (Ext.refl _) (.int _ _))
theorem Cmp_eq {a b : Int} : Pur prog w h₀ n [.int a, .int b] (fun us => compareOp .Eq (us.getD 0 .none) (us.getD 1 .none)) (.bool (a == b)) := fun _ _ s us Q E rm _ hv _ hQ => by
  obtain ⟨_, _, rfl, v1, v2⟩ := hv.two
  obtain ⟨t, rfl⟩ := v1.int_inv
  obtain ⟨u, rfl⟩ := v2.int_inv
  exact P.eq_int (hQ _ _ s.toks (Ext.refl _) (.bool _))
theorem Cmp_ne {a b : Int} : Pur prog w h₀ n [.int a, .int b] (fun us => compareOp .NotEq (us.getD 0 .none) (us.getD 1 .none)) (.bool (a != b)) := fun _ _ s us Q E rm _ hv _ hQ => by
  obtain ⟨_, _, rfl, v1, v2⟩ := hv.two
  obtain ⟨t, rfl⟩ := v1.int_inv
  obtain ⟨u, rfl⟩ := v2.int_inv
  exact P.ne_int (hQ _ _ s.toks (Ext.refl _) (.bool _))
theorem Cmp_lt {a b : Int} : Pur prog w h₀ n [.int a, .int b] (fun us => compareOp .Lt (us.getD 0 .none) (us.getD 1 .none)) (.bool (decide (a < b))) := fun _ _ s us Q E rm _ hv _ hQ => by
  obtain ⟨_, _, rfl, v1, v2⟩ := hv.two
  obtain ⟨t, rfl⟩ := v1.int_inv
  obtain ⟨u, rfl⟩ := v2.int_inv
  exact P.lt_int (hQ _ _ s.toks (Ext.refl _) (.bool _))
theorem Cmp_le {a b : Int} : Pur prog w h₀ n [.int a, .int b] (fun us => compareOp .LtE (us.getD 0 .none) (us.getD 1 .none)) (.bool (decide (a ≤ b))) := fun _ _ s us Q E rm _ hv _ hQ => by
  obtain ⟨_, _, rfl, v1, v2⟩ := hv.two
  obtain ⟨t, rfl⟩ := v1.int_inv
  obtain ⟨u, rfl⟩ := v2.int_inv
  exact P.le_int (hQ _ _ s.toks (Ext.refl _) (.bool _))
theorem Cmp_gt {a b : Int} : Pur prog w h₀ n [.int a, .int b] (fun us => compareOp .Gt (us.getD 0 .none) (us.getD 1 .none)) (.bool (decide (a > b))) := fun _ _ s us Q E rm _ hv _ hQ => by
  obtain ⟨_, _, rfl, v1, v2⟩ := hv.two
  obtain ⟨t, rfl⟩ := v1.int_inv
  obtain ⟨u, rfl⟩ := v2.int_inv
  exact P.gt_int (hQ _ _ s.toks (Ext.refl _) (.bool _))
theorem Cmp_ge {a b : Int} : Pur prog w h₀ n [.int a, .int b] (fun us => compareOp .GtE (us.getD 0 .none) (us.getD 1 .none)) (.bool (decide (a ≥ b))) := fun _ _ s us Q E rm _ hv _ hQ => by
  obtain ⟨_, _, rfl, v1, v2⟩ := hv.two
  obtain ⟨t, rfl⟩ := v1.int_inv
  obtain ⟨u, rfl⟩ := v2.int_inv
  exact P.ge_int (hQ _ _ s.toks (Ext.refl _) (.bool _))

theorem Bin_cat {x y : Str} (hs : x.length + y.length ≤ sizeLine) : Pur prog w h₀ n [.str x, .str y] (fun us => binaryOp .Add (us.getD 0 .none) (us.getD 1 .none)) (.str (x ++ y)) := fun _ _ s us Q E rm _ hv _ hQ => by
  obtain ⟨_, _, rfl, v1, v2⟩ := hv.two
  obtain ⟨t, rfl⟩ := v1.str_inv
  obtain ⟨u, rfl⟩ := v2.str_inv
  exact SB.add (hsz := hs) (fun t' k => hQ _ _ k (Ext.refl _) (.str _ t'))
theorem Bin_rep {x : Str} {b : Int} (hs : MulOk x b) : Pur prog w h₀ n [.str x, .int b] (fun us => binaryOp .Mult (us.getD 0 .none) (us.getD 1 .none)) (.str (Txt.mul x b)) := fun _ _ s us Q E rm _ hv _ hQ => by
  obtain ⟨_, _, rfl, v1, v2⟩ := hv.two
  obtain ⟨t, rfl⟩ := v1.str_inv
  obtain ⟨u, rfl⟩ := v2.int_inv
  exact SB.mul hs (fun t' k => hQ _ _ k (Ext.refl _) (.str _ t'))
theorem Cmp_in {x y : Str} : Pur prog w h₀ n [.str y, .str x] (fun us => compareOp .In (us.getD 0 .none) (us.getD 1 .none)) (.bool (Txt.contains x y)) := fun _ _ s us Q E rm _ hv _ hQ => by
  obtain ⟨_, _, rfl, v1, v2⟩ := hv.two
  obtain ⟨t, rfl⟩ := v1.str_inv
  obtain ⟨u, rfl⟩ := v2.str_inv
  exact SB.contains (hQ _ _ s.toks (Ext.refl _) (.bool _))
theorem Cmp_seq {x y : Str} : Pur prog w h₀ n [.str x, .str y] (fun us => compareOp .Eq (us.getD 0 .none) (us.getD 1 .none)) (.bool (x == y)) := fun _ _ s us Q E rm _ hv _ hQ => by
  obtain ⟨_, _, rfl, v1, v2⟩ := hv.two
  obtain ⟨t, rfl⟩ := v1.str_inv
  obtain ⟨u, rfl⟩ := v2.str_inv
  exact by
    refine P.eq_str ?_
    have e : (x.cps.toList == y.cps.toList) = (x == y) := by
      rw [Bool.eq_iff_iff, beq_iff_eq, beq_iff_eq]
      exact ⟨fun h => by cases x; cases y; simp only [Str.mk.injEq]; exact Array.toList_inj.mp h, fun h => by rw [h]⟩
    rw [e]; exact  (hQ _ _ s.toks (Ext.refl _) (.bool _))
theorem Cmp_sne {x y : Str} : Pur prog w h₀ n [.str x, .str y] (fun us => compareOp .NotEq (us.getD 0 .none) (us.getD 1 .none)) (.bool (x != y)) := fun _ _ s us Q E rm _ hv _ hQ => by
  obtain ⟨_, _, rfl, v1, v2⟩ := hv.two
  obtain ⟨t, rfl⟩ := v1.str_inv
  obtain ⟨u, rfl⟩ := v2.str_inv
  exact by
    refine P.ne_str ?_
    have e : (x.cps.toList == y.cps.toList) = (x == y) := by
      rw [Bool.eq_iff_iff, beq_iff_eq, beq_iff_eq]
      exact ⟨fun h => by cases x; cases y; simp only [Str.mk.injEq]; exact Array.toList_inj.mp h, fun h => by rw [h]⟩
    have e' : (x.cps.toList != y.cps.toList) = (x != y) := by unfold bne; rw [e]
    rw [e']; exact  (hQ _ _ s.toks (Ext.refl _) (.bool _))

end
end Mine
end

section
open PySem PySem.W PyProof.Rows
set_option Elab.async false
set_option maxRecDepth 100000
namespace Mine
section
variable {prog : Program} {w : World} {T : Tabs} {h₀ : Heap} {n : Nat} {env : Env} {σ : Sto}

theorem Bin_ladd {l r : List PV} (hs : l.length + r.length ≤ sizeLine) : Pur prog w h₀ n [.list l, .list r] (fun us => binaryOp .Add (us.getD 0 .none) (us.getD 1 .none)) (.list (l ++ r)) := fun A H s us Q E rm _ hv b hQ => by
  obtain ⟨_, _, rfl, v1, v2⟩ := hv.two
  obtain ⟨x, vs, rfl, hx, ⟨nx, px⟩, lx⟩ := v1.list_inv
  obtain ⟨y, us, rfl, hy, ⟨ny, py⟩, ly⟩ := v2.list_inv
  have e : vs.toArray ++ us.toArray = (vs ++ us).toArray := by simp
  refine concat_meets ⟨_, px, rfl⟩ ⟨_, py, rfl⟩ noFill_list_add seq_list_add PySem.F.slot_list_add PySem.F.entry_list_add (PySem.F.args_list_add_2 _ _)
    (list_addW x y vs.toArray us.toArray nx ny none none #[] #[] (by simpa [lx.length, ly.length] using hs)) ⟨px, py, ?_⟩
  rw [e]
  exact hQ _ _ _ (Ext.push _ _) (.list b.off ⟨_, Heap.get?_push_size _ rfl⟩ ((lx.append ly).ext (Ext.push _ _)))

theorem VL.replicate {H : List Addr} {h : Heap} {v : Value} {p : PV} (x : V H h v p) : ∀ k, VL H h (List.replicate k v) (List.replicate k p)
  | 0 => .nil
  | k + 1 => .cons x (VL.replicate x k)
theorem foldl_single (v : Value) : ∀ (k : Nat) (acc : List Value), (List.foldl (fun x1 x2 => x1 ++ x2) acc.toArray (List.replicate k #[v])) = (acc ++ List.replicate k v).toArray
  | 0, acc => by simp
  | k + 1, acc => by
    rw [List.replicate_succ, List.foldl_cons]
    have e : acc.toArray ++ #[v] = (acc ++ [v]).toArray := by simp
    rw [e, foldl_single v k, List.append_assoc, List.singleton_append, ← List.replicate_succ]
theorem Bin_lmul {p : PV} {b : Int} (h0 : 0 ≤ b) (h1 : b ≤ 2 ^ 20) : Pur prog w h₀ n [.list [p], .int b] (fun us => binaryOp .Mult (us.getD 0 .none) (us.getD 1 .none)) (.list (List.replicate b.toNat p)) := fun A H s us Q E rm _ hv lv hQ => by
  obtain ⟨_, _, rfl, v1, v2⟩ := hv.two
  obtain ⟨x, vs, rfl, hx, ⟨nx, px⟩, lx⟩ := v1.list_inv
  obtain ⟨u, rfl⟩ := v2.int_inv
  obtain ⟨v, rfl, hp⟩ := lx.one
  have e1 : ([v].toArray : Array Value).size * b.toNat = b.toNat := by simp
  have c1 : ¬ (([v].toArray : Array Value).size * b.toNat > (2 ^ 63 - 1) / 8) := by rw [e1]; omega
  have c2 : ¬ Builtin.List.listTooLong (([v].toArray : Array Value).size * b.toNat) = true := by rw [e1]; simp [Builtin.List.listTooLong, sizeLine]; omega
  refine wpAny_binaryOp_repeat_ref (T := "list") (U := "int") (by decide) ⟨_, px, rfl⟩ (fun s' => typeIs_int s' b u) noFill_list_mul F.fills_int_mul F.slot_int_rmul repeat_list F.slot_int_index.lookup
    (call_meets F.slot_int_rmul (typeIs_int s b u) F.entry_int_rmul (F.args_int_rmul_2 _ _) (int___rmul___int_list b u x _ nx)
      ⟨px, rfl, ⟨_, px, rfl⟩, call_meets F.slot_list_mul ⟨_, px, rfl⟩ F.entry_list_mul (F.args_list_mul_2 _ _)
        (AutoListH.list___mul___list_int_3 x _ nx b u (by simp [Builtin.List.listFitsIndex]; omega) c1 c2)
        ⟨px, ?_⟩⟩)
  have e : (List.foldl (fun x1 x2 => x1 ++ x2) #[] (List.replicate (if ([v].toArray : Array Value).isEmpty = true then 0 else b.toNat) [v].toArray)) = (List.replicate b.toNat v).toArray := by
    simpa using foldl_single v b.toNat []
  rw [e]
  exact hQ _ _ _ (Ext.push _ _) (.list lv.off ⟨_, Heap.get?_push_size _ rfl⟩ ((VL.replicate hp b.toNat).ext (Ext.push _ _)))

def seqAt (k : Int) (m : Nat) : Option Nat := seqIndex? k m
theorem Sub_str {value slice : PySem.Expr} {x : Str} {i : Int} (hr : fitsSsize i = true) (h1 : -(x.length : Int) ≤ i) (h2 : i < x.length) (hs : ∀ o j, subscripted slice false o j = operate [o, j] (getItem o j)) :
    Pur prog w h₀ n [.str x, .int i] (fun us => subscriptTail value slice (us.getD 0 .none) (us.getD 1 .none)) (.str (Txt.item x i)) := fun A H s us Q E rm _ hv lv hQ => by
  obtain ⟨_, _, rfl, v1, v2⟩ := hv.two
  obtain ⟨t, rfl⟩ := v1.str_inv
  obtain ⟨u, rfl⟩ := v2.int_inv
  exact item_str hr h1 h2 (fun _ => hQ _ _ _ (Ext.refl _) (.str _ _)) (hs _ _) (fun r => by cases value <;> rfl)
theorem Sub_list {value slice : PySem.Expr} {l : List PV} {i : Int} {p : PV} (h0 : 0 ≤ i) (h1 : i < 2 ^ 63) (hp : l[i.toNat]? = some p) (hs : ∀ o j, subscripted slice false o j = operate [o, j] (getItem o j)) :
    Pur prog w h₀ n [.list l, .int i] (fun us => subscriptTail value slice (us.getD 0 .none) (us.getD 1 .none)) p := fun A H s us Q E rm _ hv lv hQ => by
  obtain ⟨_, _, rfl, v1, v2⟩ := hv.two
  obtain ⟨a, vs, rfl, ha, pl, lv⟩ := v1.list_inv
  obtain ⟨u, rfl⟩ := v2.int_inv
  obtain ⟨v, hv, hV⟩ := lv.get hp
  exact tail_any pl.isList.typeIs slot_list_getitem.lookup (wpAny_getItem_list pl.isList h0 h1 (by simpa using hv) (hQ _ _ s.toks (Ext.refl _) hV)) (hs _ _)
theorem Sub_lneg {value slice : PySem.Expr} {l : List PV} {i : Int} {p : PV} (h0 : i < 0) (h1 : -(l.length : Int) ≤ i) (h2 : l.length < 2 ^ 62) (hp : l[(i + l.length).toNat]? = some p) (hs : ∀ o j, subscripted slice false o j = operate [o, j] (getItem o j)) :
    Pur prog w h₀ n [.list l, .int i] (fun us => subscriptTail value slice (us.getD 0 .none) (us.getD 1 .none)) p := fun A H s us Q E rm _ hv lv hQ => by
  obtain ⟨_, _, rfl, v1, v2⟩ := hv.two
  obtain ⟨a, vs, rfl, ha, pl, lv⟩ := v1.list_inv
  obtain ⟨u, rfl⟩ := v2.int_inv
  obtain ⟨v, hv, hV⟩ := lv.get hp
  have e := lv.length
  refine tail_any pl.isList.typeIs slot_list_getitem.lookup (wpAny_getItem_list_neg pl.isList h0 (by simp only [List.size_toArray, e]; exact h1) (by omega) (by simp only [List.size_toArray, e]; simpa using hv) (hQ _ _ s.toks (Ext.refl _) hV)) (hs _ _)
theorem Sub_tup {value slice : PySem.Expr} {l : List PV} {i : Int} {j : Nat} {p : PV} (h0 : -(2 ^ 63) ≤ i) (h1 : i < 2 ^ 63) (hj : seqIndex? i l.length = some j) (hp : l[j]? = some p) (hs : ∀ o j, subscripted slice false o j = operate [o, j] (getItem o j)) :
    Pur prog w h₀ n [.tup l, .int i] (fun us => subscriptTail value slice (us.getD 0 .none) (us.getD 1 .none)) p := fun A H s us Q E rm _ hv lv hQ => by
  obtain ⟨_, _, rfl, v1, v2⟩ := hv.two
  obtain ⟨a, vs, rfl, ha, pl, lv⟩ := v1.tup_inv
  obtain ⟨u, rfl⟩ := v2.int_inv
  obtain ⟨v, hv, hV⟩ := lv.get hp
  exact item_tupleT pl h0 h1 (by rw [lv.length]; exact hj) hv (hQ _ _ s.toks (Ext.refl _) hV) (hs _ _)
end
end Mine
end

section
open PySem PySem.W PyProof.Rows PySem.Builtin PySem.Builtin.Str
set_option Elab.async false
set_option maxRecDepth 100000
namespace Mine

def pick {α : Type} (l : List α) (lo hi st : Option Int) : List α :=
  (sliceRange (sliceBounds lo hi st l.length).1 (sliceBounds lo hi st l.length).2.1 (sliceBounds lo hi st l.length).2.2).filterMap (l[·]?)
theorem VL.pickAt {H : List Addr} {h : Heap} {vs : List Value} {ps : List PV} (x : VL H h vs ps) : ∀ is : List Nat, VL H h (is.filterMap (vs[·]?)) (is.filterMap (ps[·]?))
  | [] => .nil
  | i :: r => by
    have e := x.length
    by_cases q : i < vs.length
    · have q' : i < ps.length := by omega
      have e1 : vs[i]? = some vs[i] := List.getElem?_eq_getElem q
      have e2 : ps[i]? = some ps[i] := List.getElem?_eq_getElem q'
      obtain ⟨v, hv, hV⟩ := x.get e2
      rw [e1] at hv
      cases hv
      rw [List.filterMap_cons, List.filterMap_cons, e1, e2]
      exact .cons hV (x.pickAt r)
    · rw [List.filterMap_cons, List.filterMap_cons, List.getElem?_eq_none (Nat.not_lt.mp q), List.getElem?_eq_none (by omega)]
      exact x.pickAt r
theorem slicePick_toList (vs : List Value) (lo hi st : Option Int) : slicePick vs.toArray lo hi st = (pick vs lo hi st).toArray := by
  unfold slicePick pick
  simp
theorem VL.pick {H : List Addr} {h : Heap} {vs : List Value} {ps : List PV} (x : VL H h vs ps) (lo hi st : Option Int) : VL H h (pick vs lo hi st) (pick ps lo hi st) := by
  unfold Mine.pick
  rw [x.length]
  exact x.pickAt _

section
variable {prog : Program} {w : World} {T : Tabs} {h₀ : Heap} {n : Nat} {env : Env} {σ : Sto}

def EvP (prog : Program) (w : World) (T : Tabs) (h₀ : Heap) (n : Nat) (env : Env) (σ : Sto) (eo : Option PySem.Expr) (po : Option Int) : Prop :=
  ∀ (A : Around) (H : List Addr) (s : Shared) (Q : Value → Shared → Prop) (E : Value → Shared → Prop), Room n A → CtxE T h₀ H env σ s.heap → Live H s.heap →
    (∀ (o : Option (Int × Tok)) h' tk, Ext s.heap h' → o.map (·.1) = po → Q (partValue o) { s with heap := h', toks := tk }) → wpAny (model prog w) A (evalPart eo env) Q E s
theorem EvP_none : EvP prog w T h₀ n env σ none none := fun _ _ s _ _ _ _ _ hQ => evalPart_none_step (hQ none _ s.toks (Ext.refl _) rfl)
theorem EvP_some {e : PySem.Expr} {i : Int} (h : Ev prog w T h₀ n env σ e (.int i)) : EvP prog w T h₀ n env σ (some e) (some i) := fun A H s _ _ rm C b hQ =>
  evalPart_some_step (h A H s _ _ rm C b fun v h1 t1 k1 v1 => by
    obtain ⟨t, rfl⟩ := v1.int_inv
    exact hQ (some (i, t)) h1 t1 k1 rfl)
theorem part_is {o : Option (Int × Tok)} {po : Option Int} (e : o.map (·.1) = po) : IsPart (partValue o) po := by
  subst e
  cases o with
  | none => exact .none
  | some x => obtain ⟨i, t⟩ := x; exact .int i t

theorem Ev_slice_str {value : PySem.Expr} {lo hi : Option PySem.Expr} {sp pos : Pos} {x : Str} {a b : Option Int} (hv : Ev prog w T h₀ n env σ value (.str x)) (hl : EvP prog w T h₀ n env σ lo a) (hh : EvP prog w T h₀ n env σ hi b) (hsz : x.length ≤ sizeLine) :
    Ev prog w T h₀ n env σ (.Subscript value (.Slice lo hi none sp) pos) (.str (Txt.slice x a b)) := fun A H s Q E rm C l hQ => by
  refine Subscript_ (hv A H s _ _ rm C l fun v h1 t1 k1 v1 => ?_)
  obtain ⟨t, rfl⟩ := v1.str_inv
  refine wpAny_Slice (hl A H _ _ _ rm (C.ext' k1) (l.ext k1) fun o h2 t2 k2 e2 => hh A H _ _ _ rm (C.ext' (k1.trans k2)) (l.ext (k1.trans k2)) fun u h3 t3 k3 e3 => evalPart_none_step ?_)
  refine tail_of_ItemOn ⟨"str", _, F.slot_str_getitem.lookup, typeIs_str _ _ _, wpAny_getItem_str_slice (l := o) (u := u) (st := none) ⟨_, Heap.get?_push_size _ rfl, rfl, rfl⟩ rfl ?_⟩ rfl (fun r => by cases value <;> rfl)
  have hs : sliceMade x t o u none = (if ((1 : Int) == 1 && (strSliceIndices a b 1 x.length).length == x.length) = true then .val (.str x t) else .str ⟨((strSliceIndices a b 1 x.length).filterMap (x.cps[·]?)).toArray⟩) := by
    subst e2 e3; rfl
  rw [hs]
  exact post_val_or_str ⟨Nat.le_trans (Txt.slice_le x _ _) hsz, fun t' k => hQ _ _ k (((k1.trans k2).trans k3).trans (Ext.push _ _)) (.str _ _)⟩

theorem Ev_slice_list {value : PySem.Expr} {lo hi st : Option PySem.Expr} {sp pos : Pos} {l : List PV} {a b c : Option Int} (hv : Ev prog w T h₀ n env σ value (.list l)) (hl : EvP prog w T h₀ n env σ lo a) (hh : EvP prog w T h₀ n env σ hi b)
    (hst : EvP prog w T h₀ n env σ st c) (h0 : c ≠ some 0) (hsz : l.length ≤ sizeLine) : Ev prog w T h₀ n env σ (.Subscript value (.Slice lo hi st sp) pos) (.list (pick l a b c)) := fun A H s Q E rm C lv hQ => by
  refine Subscript_ (hv A H s _ _ rm C lv fun v h1 t1 k1 v1 => ?_)
  obtain ⟨x, vs, rfl, hx, pl, vl⟩ := v1.list_inv
  refine wpAny_Slice (hl A H _ _ _ rm (C.ext' k1) (lv.ext k1) fun o h2 t2 k2 e2 => hh A H _ _ _ rm (C.ext' (k1.trans k2)) (lv.ext (k1.trans k2)) fun u h3 t3 k3 e3 =>
    hst A H _ _ _ rm (C.ext' ((k1.trans k2).trans k3)) (lv.ext ((k1.trans k2).trans k3)) fun y h4 t4 k4 e4 => ?_)
  have kk := (k2.trans k3).trans k4
  have pl' : h4.PlainList x vs.toArray := pl.at fun o e => kk _ _ e
  have plp := pl'.at (h' := h4.push { cls := .type "slice", data := .fields #[partValue o, partValue u, partValue y] }) fun o e => Heap.get?_push_of_some _ e
  obtain ⟨ops, hops⟩ : ∃ ops : List Value, ∀ o i : Value, subscripted (.Slice lo hi st sp) false o i = operate (ops.map fun q => if q = .none then i else o) (getItem o i) := by
    cases st with
    | none => exact ⟨[.none, .ellipsis], fun o i => rfl⟩
    | some e => exact ⟨[.ellipsis, .none], fun o i => rfl⟩
  refine tail_any (T := "list") plp.isList.typeIs list_getitem_lookup (wpAny_getItem_list_slice (hsz := by simpa [vl.length] using hsz) plp.isList (Heap.IsSliceOf.new ..) (part_is e2) (part_is e3) (part_is e4) h0 ?_) (hops _ _)
  rw [slicePick_toList]
  have kp := Ext.push h4 { cls := .type "slice", data := .fields #[partValue o, partValue u, partValue y] }
  have ka := (k1.trans kk).trans kp
  exact hQ _ _ t4 (ka.trans (Ext.push _ _)) (.list (lv.ext ka).off ⟨_, Heap.get?_push_size _ rfl⟩ ((vl.ext (kk.trans kp)).pick a b c |>.ext (Ext.push _ _)))
end
end Mine
end

section
open PySem PySem.W PyProof.Rows
set_option Elab.async false
set_option maxRecDepth 100000
set_option linter.unusedVariables false
namespace Mine
abbrev Own := List (Addr × List PV)

inductive Upd (x : Str) (p : PV) : Sto → Sto → Prop
  | head {o : Option PV} {r : Sto} : Upd x p ((x, o) :: r) ((x, some p) :: r)
  | tail {q : Str × Option PV} {r r' : Sto} : Upd x p r r' → Upd x p (q :: r) (q :: r')

theorem Upd.names {x : Str} {p : PV} {σ σ' : Sto} (u : Upd x p σ σ') : σ'.map Prod.fst = σ.map Prod.fst := by
  induction u with
  | head => rfl
  | tail _ ih => rw [List.map_cons, List.map_cons, ih]
theorem Upd.has {x : Str} {p : PV} {σ σ' : Sto} (u : Upd x p σ σ') : ∃ o, List.Mem (x, o) σ := by
  induction u with
  | head => exact ⟨_, .head _⟩
  | tail _ ih => obtain ⟨o, h⟩ := ih; exact ⟨o, .tail _ h⟩
theorem Upd.mem {x : Str} {p : PV} {σ σ' : Sto} (u : Upd x p σ σ') : (σ.map Prod.fst).Nodup → ∀ y o, List.Mem (y, o) σ' → (y = x ∧ o = some p) ∨ (y ≠ x ∧ List.Mem (y, o) σ) := by
  induction u with
  | head =>
    intro nd y o h
    rw [List.map_cons, List.nodup_cons] at nd
    cases h with
    | head => exact .inl ⟨rfl, rfl⟩
    | tail _ h => exact .inr ⟨fun e => nd.1 (List.mem_map.mpr ⟨_, h, e⟩), .tail _ h⟩
  | tail u ih =>
    intro nd y o h
    rw [List.map_cons, List.nodup_cons] at nd
    cases h with
    | head =>
      refine .inr ⟨fun e => ?_, .head _⟩
      obtain ⟨o', h'⟩ := u.has
      exact nd.1 (List.mem_map.mpr ⟨_, h', e.symm⟩)
    | tail _ h =>
      rcases ih nd.2 y o h with q | ⟨q, r⟩
      · exact .inl q
      · exact .inr ⟨q, .tail _ r⟩

structure Wr (env : Env) (h₀ : Heap) (σ : Sto) (W : List Addr) : Prop where
  loc : env.locals ∈ W
  cel : ∀ x c, env.kindOf x = some .cell → env.cells.lookup x = some c → c ∈ W
  apart : ∀ x y c, env.cells.lookup x = some c → env.cells.lookup y = some c → x = y
  new : ∀ a ∈ W, h₀.get? a = none
  names : (σ.map Prod.fst).Nodup

structure Ctx (T : Tabs) (h₀ : Heap) (H W : List Addr) (env : Env) (σ : Sto) (own : Own) (h : Heap) : Prop where
  E : CtxE T h₀ (W ++ H) env σ h
  L : Live (W ++ H) h
  R : Wr env h₀ σ W
  O : ∀ q ∈ own, q.1 ∈ W ∧ ∃ vs : List Value, h.PlainList q.1 vs.toArray ∧ VL (W ++ H) h vs q.2
  N : (own.map Prod.fst).Nodup
  D : ∀ a ∈ W, a ∉ H
  C : ∀ x c, env.cells.lookup x = some c → c ∈ W ++ H
  X : ∀ q ∈ own, ∀ x c, env.cells.lookup x = some c → c ≠ q.1

inductive Out
  | next (σ : Sto) (own : Own)
  | ret (p : PV)

def After (T : Tabs) (h₀ : Heap) (env : Env) (H W : List Addr) (h : Heap) (out : Out) (fl : Flow) (h' : Heap) : Prop := match out with
  | .next σ' own' => fl = .next ∧ ∃ W', (∀ a ∈ W, a ∈ W') ∧ (∀ a ∈ W', a ∈ W ∨ h.get? a = none) ∧ Ctx T h₀ H W' env σ' own' h'
  | .ret p => ∃ v, fl = .ret v ∧ V H h' v p

def Exs (prog : Program) (w : World) (T : Tabs) (h₀ : Heap) (n : Nat) (env : Env) (σ : Sto) (own : Own) (sts : List Stmt) (out : Out) : Prop :=
  ∀ (A : Around) (H W : List Addr) (s : Shared) (Q : Flow → Shared → Prop) (E : Value → Shared → Prop), Room n A → Ctx T h₀ H W env σ own s.heap →
    (∀ fl h' tk, KeepsOff W s.heap h' → After T h₀ env H W s.heap out fl h' → Q fl { s with heap := h', toks := tk }) → wpAny (model prog w) A (execs sts env) Q E s
def Ex1 (prog : Program) (w : World) (T : Tabs) (h₀ : Heap) (n : Nat) (env : Env) (σ : Sto) (own : Own) (st : Stmt) (out : Out) : Prop :=
  ∀ (A : Around) (H W : List Addr) (s : Shared) (Q : Flow → Shared → Prop) (E : Value → Shared → Prop), Room n A → Ctx T h₀ H W env σ own s.heap →
    (∀ fl h' tk, KeepsOff W s.heap h' → After T h₀ env H W s.heap out fl h' → Q fl { s with heap := h', toks := tk }) → wpAny (model prog w) A (exec st env) Q E s

theorem KeepsOff.refl (W : List Addr) (h : Heap) : KeepsOff W h h := fun _ _ _ e => e
theorem KeepsOff.ext {W : List Addr} {h h' : Heap} (k : Ext h h') : KeepsOff W h h' := fun b o _ e => k b o e
theorem KeepsOff.trans {W : List Addr} {a b c : Heap} (x : KeepsOff W a b) (y : KeepsOff W b c) : KeepsOff W a c := fun i o hi e => y i o hi (x i o hi e)
theorem KeepsOff.seq {W W' : List Addr} {a b c : Heap} (x : KeepsOff W a b) (hw : ∀ i ∈ W', i ∈ W ∨ a.get? i = none) (y : KeepsOff W' b c) : KeepsOff W a c := fun i o hi e =>
  y i o (fun q => (hw i q).elim hi fun z => by rw [z] at e; cases e) (x i o hi e)
section
variable {prog : Program} {w : World} {T : Tabs} {h₀ : Heap} {n : Nat} {env : Env} {σ : Sto} {own : Own}

theorem CtxE.weak {H H' : List Addr} {h : Heap} (C : CtxE T h₀ H env σ h) (hs : ∀ a ∈ H', a ∈ H) : CtxE T h₀ H' env σ h := by
  obtain ⟨m, a, b⟩ := C.vars
  refine ⟨C.kind, C.glb, C.blt, C.G, C.ext, m, a, fun x o e => ?_⟩
  rcases b x o e with ⟨k, r⟩ | ⟨c, u, k, l, d, r⟩
  · exact .inl ⟨k, fun p q => let ⟨v, y, z⟩ := r p q; ⟨v, y, z.weak hs⟩⟩
  · exact .inr ⟨c, u, k, l, d, fun p q => let ⟨v, y, z⟩ := r p q; ⟨v, y, z.weak hs⟩⟩
theorem Ctx.ext {H W : List Addr} {h h' : Heap} (C : Ctx T h₀ H W env σ own h) (k : Ext h h') : Ctx T h₀ H W env σ own h' :=
  ⟨C.E.ext' k, C.L.ext k, C.R, fun q hq => let ⟨a, vs, b, c⟩ := C.O q hq; ⟨a, vs, b.at fun o e => k _ _ e, c.ext k⟩, C.N, C.D, C.C, C.X⟩

theorem Exs_nil : Exs prog w T h₀ n env σ own [] (.next σ own) := fun A H W s Q E _ C hQ => wpAny_execs_nil (hQ .next s.heap s.toks (.refl _ _) ⟨rfl, W, fun _ h => h, fun _ h => .inl h, C⟩)

theorem Exs_cons {st : Stmt} {rest : List Stmt} {σ₁ : Sto} {own₁ : Own} {out : Out} (h1 : Ex1 prog w T h₀ n env σ own st (.next σ₁ own₁)) (h2 : Exs prog w T h₀ n env σ₁ own₁ rest out) :
    Exs prog w T h₀ n env σ own (st :: rest) out := fun A H W s Q E rm C hQ => by
  refine wpAny_execs_cons (h1 A H W s _ E rm C fun fl h' tk k af => ?_)
  obtain ⟨rfl, W', w1, w2, C'⟩ := af
  refine h2 A H W' _ _ E rm C' fun fl h'' tk' k' af' => hQ fl h'' tk' (k.seq w2 k') ?_
  cases out with
  | ret p => exact af'
  | next σ₂ own₂ =>
    obtain ⟨e, W'', w1', w2', C''⟩ := af'
    refine ⟨e, W'', fun a q => w1' a (w1 a q), fun a q => ?_, C''⟩
    rcases w2' a q with r | r
    · exact w2 a r
    · by_cases hw : a ∈ W
      · exact .inl hw
      · refine .inr ?_
        cases e : s.heap.get? a with
        | none => rfl
        | some o =>
          rw [show h'.get? a = some o from k a o hw e] at r
          cases r
theorem Exs_stop {st : Stmt} {rest : List Stmt} {p : PV} (h1 : Ex1 prog w T h₀ n env σ own st (.ret p)) : Exs prog w T h₀ n env σ own (st :: rest) (.ret p) := fun A H W s Q E rm C hQ => by
  refine wpAny_execs_cons (h1 A H W s _ E rm C fun fl h' tk k af => ?_)
  obtain ⟨v, rfl, hv⟩ := id af
  exact hQ _ h' tk k af

theorem Ex1_ret {e : PySem.Expr} {pos : Pos} {p : PV} (he : Ev prog w T h₀ n env σ e p) : Ex1 prog w T h₀ n env σ own (.Return (some e) pos) (.ret p) := fun A H W s Q E rm C hQ =>
  wpAny_Return_some (he A (W ++ H) s _ E rm C.E C.L fun v h' tk k hv => hQ _ h' tk (.ext k) ⟨v, rfl, hv.weak fun a q => List.mem_append_right _ q⟩)
theorem Ex1_if_t {e : PySem.Expr} {body orelse : List Stmt} {pos : Pos} {out : Out} (he : EvB prog w T h₀ n env σ e true) (hb : Exs prog w T h₀ n env σ own body out) : Ex1 prog w T h₀ n env σ own (.If e body orelse pos) out := fun A H W s Q E rm C hQ =>
  wpAny_If (he A (W ++ H) s _ E rm C.E C.L fun h' tk k => hb A H W _ Q E rm (C.ext k) fun fl h'' tk' k' af => hQ fl h'' tk' (KeepsOff.trans (.ext k) k') (by
    cases out with
    | ret p => exact af
    | next σ₂ own₂ =>
      obtain ⟨e1, W'', w1', w2', C''⟩ := af
      refine ⟨e1, W'', w1', fun a q => (w2' a q).imp id fun r => ?_, C''⟩
      cases e2 : s.heap.get? a with
      | none => rfl
      | some o => rw [show h'.get? a = some o from k a o e2] at r; cases r))
theorem Ex1_if_f {e : PySem.Expr} {body orelse : List Stmt} {pos : Pos} {out : Out} (he : EvB prog w T h₀ n env σ e false) (hb : Exs prog w T h₀ n env σ own orelse out) : Ex1 prog w T h₀ n env σ own (.If e body orelse pos) out := fun A H W s Q E rm C hQ =>
  wpAny_If (he A (W ++ H) s _ E rm C.E C.L fun h' tk k => hb A H W _ Q E rm (C.ext k) fun fl h'' tk' k' af => hQ fl h'' tk' (KeepsOff.trans (.ext k) k') (by
    cases out with
    | ret p => exact af
    | next σ₂ own₂ =>
      obtain ⟨e1, W'', w1', w2', C''⟩ := af
      refine ⟨e1, W'', w1', fun a q => (w2' a q).imp id fun r => ?_, C''⟩
      cases e2 : s.heap.get? a with
      | none => rfl
      | some o => rw [show h'.get? a = some o from k a o e2] at r; cases r))

def soft (o : Obj) : Bool := match o.data with | .dict .. | .cell _ => true | _ => false
def Storable (env : Env) (x : Str) : Bool := match env.kindOf x with
  | some .local | some .cell => true
  | _ => false

theorem store_ {A : Around} {H W : List Addr} {s : Shared} {Q : Unit → Shared → Prop} {E : Value → Shared → Prop} {σ' : Sto} {x : Str} {v : Value} {p : PV} (C : Ctx T h₀ H W env σ own s.heap) (u : Upd x p σ σ') (hx : Storable env x = true)
    (hv : V (W ++ H) s.heap v p) (hQ : ∀ h' tk, KeepsOff W s.heap h' → (∀ a o, s.heap.get? a = some o → soft o = false → h'.get? a = some o) → Ctx T h₀ H W env σ' own h' → Q () { s with heap := h', toks := tk }) :
    wpAny (model prog w) A (storeName env x v) Q E s := by
  obtain ⟨m, hm, hvars⟩ := C.E.vars
  have nd' : (σ'.map Prod.fst).Nodup := by rw [u.names]; exact C.R.names
  -- what a change at one soft address leaves
  have key : ∀ (c : Addr) (h' : Heap), c ∈ W → (∃ o, s.heap.get? c = some o ∧ soft o = true) → (∃ o, h'.get? c = some o) → Heap.SameBut c s.heap h' → (∃ m', h'.Ns env.locals m' ∧ ∀ y o, List.Mem (y, o) σ' → SlotOk (W ++ H) env h' m' y o) →
      KeepsOff W s.heap h' ∧ (∀ a o, s.heap.get? a = some o → soft o = false → h'.get? a = some o) ∧ Ctx T h₀ H W env σ' own h' := by
    intro c h' hc hs hs' sb hvs
    have k : KeepsOff W s.heap h' := fun b o hb e => sb.extBut b o (fun q => hb (q ▸ hc)) e
    have kf : ∀ a o, s.heap.get? a = some o → soft o = false → h'.get? a = some o := fun a o e f => sb.extBut a o (fun q => by
      obtain ⟨o', e', f'⟩ := hs
      rw [q, e'] at e; cases e; rw [f] at f'; cases f') e
    have kk : KeepsOff (W ++ H) s.heap h' := fun b o hb e => k b o (fun q => hb (List.mem_append_left _ q)) e
    refine ⟨k, kf, ⟨C.E.kind, C.E.glb, C.E.blt, C.E.G, fun b o e => k b o (fun q => by rw [C.R.new b q] at e; cases e) (C.E.ext b o e), hvs⟩, fun a q => ?_, ⟨C.R.loc, C.R.cel, C.R.apart, C.R.new, nd'⟩, fun q hq => ?_, C.N, C.D, C.C, C.X⟩
    · by_cases e : a = c
      · subst e; exact hs'
      · obtain ⟨o, ho⟩ := C.L a q
        exact ⟨o, sb.extBut a o e ho⟩
    · obtain ⟨a, vs, b, d⟩ := C.O q hq
      exact ⟨a, vs, ⟨b.choose, kf _ _ b.choose_spec rfl⟩, d.mono kk⟩
  have vv : ∀ {h' : Heap} {u : Value} {q : PV}, KeepsOff W s.heap h' → V (W ++ H) s.heap u q → V (W ++ H) h' u q := fun k z => z.mono fun b o hb e => k b o (fun q => hb (List.mem_append_left _ q)) e
  unfold Storable at hx
  have hlocals : ∃ o, s.heap.get? env.locals = some o ∧ soft o = true := by
    obtain ⟨o, es, ep, a, b, _⟩ := hm
    exact ⟨o, a, by unfold soft; rw [b]⟩
  have cellNe : ∀ {c : Addr} {u : Option Value}, s.heap.IsCell c u → env.locals ≠ c := fun {c u} hc q => by
    obtain ⟨o, es, ep, a, b, _⟩ := hm
    obtain ⟨o', a', b'⟩ := hc
    rw [q, a'] at a; cases a; rw [b] at b'; cases b'
  split at hx
  · rename_i hk
    refine wpAny_storeName_local hk hm (fun h' hn' sb => ?_) (by rw [C.E.kind]; rfl)
    have hl' : ∃ o, h'.get? env.locals = some o := let ⟨o, _, _, a, _⟩ := hn'; ⟨o, a⟩
    have k0 : KeepsOff W s.heap h' := fun b o hb e => sb.extBut b o (fun q => hb (q ▸ C.R.loc)) e
    obtain ⟨a, b, c⟩ := key env.locals h' C.R.loc hlocals hl' sb ⟨_, hn', fun y o hy => by
      rcases u.mem C.R.names y o hy with ⟨rfl, rfl⟩ | ⟨ne, hy⟩
      · exact .inl ⟨hk, fun q e => by cases e; exact ⟨v, by simp, vv k0 hv⟩⟩
      · rcases hvars y o hy with ⟨a, b⟩ | ⟨c, u', a, b, d, e⟩
        · exact .inl ⟨a, fun q e => let ⟨z, f, g⟩ := b q e; ⟨z, (if_neg ne).trans f, vv k0 g⟩⟩
        · exact .inr ⟨c, u', a, b, d.sameBut sb (Ne.symm (cellNe d)), fun q e' => let ⟨z, f, g⟩ := e q e'; ⟨z, f, vv k0 g⟩⟩⟩
    exact hQ h' _ a b c
  · rename_i hk
    obtain ⟨o, ho⟩ := u.has
    rcases hvars x o ho with ⟨a, _⟩ | ⟨c, u', _, hc, hcell, _⟩
    · rw [hk] at a; cases a
    · refine wpAny_storeName_cell C.E.kind hk hc hcell fun h' hc' sb => ?_
      have hcW := C.R.cel x c hk hc
      have k0 : KeepsOff W s.heap h' := fun b o hb e => sb.extBut b o (fun q => hb (q ▸ hcW)) e
      obtain ⟨a, b, d⟩ := key c h' hcW (let ⟨o, e, f⟩ := hcell; ⟨o, e, by unfold soft; rw [f]⟩) (let ⟨o, e, _⟩ := hc'; ⟨o, e⟩) sb ⟨m, hm.sameBut sb (cellNe hcell), fun y o hy => by
        rcases u.mem C.R.names y o hy with ⟨rfl, rfl⟩ | ⟨ne, hy⟩
        · exact .inr ⟨c, some v, .inl hk, hc, hc', fun q e => by cases e; exact ⟨v, rfl, vv k0 hv⟩⟩
        · rcases hvars y o hy with ⟨a, b⟩ | ⟨c', u', a, b, d, e⟩
          · exact .inl ⟨a, fun q e => let ⟨z, f, g⟩ := b q e; ⟨z, f, vv k0 g⟩⟩
          · exact .inr ⟨c', u', a, b, d.sameBut sb (fun q => ne (C.R.apart y x c (q ▸ b) hc)), fun q e' => let ⟨z, f, g⟩ := e q e'; ⟨z, f, vv k0 g⟩⟩⟩
      exact hQ h' s.toks a b d
  · cases hx

theorem After.pre {H W : List Addr} {h h₁ h' : Heap} {out : Out} {fl : Flow} (k : KeepsOff W h h₁) (af : After T h₀ env H W h₁ out fl h') : After T h₀ env H W h out fl h' := by
  cases out with
  | ret p => exact af
  | next σ₂ own₂ =>
    obtain ⟨e1, W'', w1', w2', C''⟩ := af
    refine ⟨e1, W'', w1', fun a q => ?_, C''⟩
    rcases w2' a q with r | r
    · exact .inl r
    · by_cases hw : a ∈ W
      · exact .inl hw
      · refine .inr ?_
        cases e2 : h.get? a with
        | none => rfl
        | some o => rw [show h₁.get? a = some o from k a o hw e2] at r; cases r

theorem Ex1_assign {x : Str} {pos pos' : Pos} {value : PySem.Expr} {p : PV} {σ' : Sto} (he : Ev prog w T h₀ n env σ value p) (u : Upd x p σ σ') (hx : Storable env x = true)
    (hs : swapsWith value (some (.Name x pos')) pos.line env = pure false) : Ex1 prog w T h₀ n env σ own (.Assign [.Name x pos'] value pos) (.next σ' own) := fun A H W s Q E rm C hQ =>
  wpAny_Assign_Name (hs := hs) (he A (W ++ H) s _ E rm C.E C.L fun v h' tk k hv => store_ (C.ext k) u hx hv fun h'' tk' k' _ C' => hQ .next h'' tk' (KeepsOff.trans (.ext k) k')
    ⟨rfl, W, fun _ q => q, fun _ q => .inl q, C'⟩)

theorem Exs_newlist {x : Str} {pos pos' lpos : Pos} {rest : List Stmt} {σ' : Addr → Sto} {out : Out} (hx : Storable env x = true) (u : ∀ a, Upd x (.raw (.ref a)) σ (σ' a))
    (hs : swapsWith (.List [] lpos) (some (.Name x pos')) pos.line env = pure false)
    (h : ∀ a, Exs prog w T h₀ n env (σ' a) ((a, []) :: own) rest out) : Exs prog w T h₀ n env σ own (.Assign [.Name x pos'] (.List [] lpos) pos :: rest) out := fun A H W s Q E rm C hQ => by
  refine wpAny_execs_cons (wpAny_Assign_Name (hs := hs) (List_ (Calls.spliced_nil (wpAny_newObj_type ?_ (Nat.zero_le _)))))
  have kx := Ext.push s.heap { cls := .type "list", data := .seq ([] : List Value).toArray }
  have C1 := C.ext kx
  have fr : s.heap.objs.size ∉ W ++ H := C.L.off
  have new : s.heap.get? s.heap.objs.size = none := by
    cases e : s.heap.get? s.heap.objs.size with
    | none => rfl
    | some o => exact absurd (Heap.lt_size e) (Nat.lt_irrefl _)
  have fresh' : ∀ {v : Value} {q : PV}, V (W ++ H) s.heap v q → V (s.heap.objs.size :: (W ++ H)) (s.heap.push { cls := .type "list", data := .seq ([] : List Value).toArray }) v q := fun z => (z.fresh (Nat.le_refl _)).ext kx
  have C2 : Ctx T h₀ H (s.heap.objs.size :: W) env σ ((s.heap.objs.size, []) :: own) (s.heap.push { cls := .type "list", data := .seq ([] : List Value).toArray }) := by
    obtain ⟨m, hm, hv⟩ := C.E.vars
    refine ⟨⟨C.E.kind, C.E.glb, C.E.blt, C.E.G, C.E.ext.trans kx, m, hm.keeps kx, fun y o hy => ?_⟩, fun a q => ?_, ⟨List.mem_cons_of_mem _ C.R.loc, fun y c a b => List.mem_cons_of_mem _ (C.R.cel y c a b), C.R.apart, fun a q => ?_, C.R.names⟩, fun q hq => ?_, ?_, fun a q => ?_, fun x c e => List.mem_cons_of_mem _ (C.C x c e), fun q hq x c e => ?_⟩
    · rcases hv y o hy with ⟨a, b⟩ | ⟨c, u', a, b, d, e⟩
      · exact .inl ⟨a, fun p q => let ⟨z, f, g⟩ := b p q; ⟨z, f, fresh' g⟩⟩
      · exact .inr ⟨c, u', a, b, d.keeps kx, fun p q => let ⟨z, f, g⟩ := e p q; ⟨z, f, fresh' g⟩⟩
    · rcases List.mem_cons.mp q with rfl | q
      · exact ⟨_, Heap.get?_push_size _ rfl⟩
      · exact C1.L a q
    · rcases List.mem_cons.mp q with rfl | q
      · cases e : h₀.get? s.heap.objs.size with
        | none => rfl
        | some o => have := C.E.ext _ _ e; rw [new] at this; cases this
      · exact C.R.new a q
    · rcases List.mem_cons.mp hq with rfl | hq
      · exact ⟨List.mem_cons_self, [], ⟨_, Heap.get?_push_size _ rfl⟩, .nil⟩
      · obtain ⟨a, vs, b, c⟩ := C.O q hq
        exact ⟨List.mem_cons_of_mem _ a, vs, b.at fun o e => kx _ _ e, (c.fresh (Nat.le_refl _)).ext kx⟩
    · rw [List.map_cons, List.nodup_cons]
      refine ⟨fun hm => ?_, C.N⟩
      obtain ⟨q, hq, e⟩ := List.mem_map.mp hm
      exact fr (List.mem_append_left _ (show s.heap.objs.size ∈ W from (show q.1 = s.heap.objs.size from e) ▸ (C.O q hq).1))
    · rcases List.mem_cons.mp q with rfl | q
      · exact fun z => fr (List.mem_append_right _ z)
      · exact C.D a q
    · rcases List.mem_cons.mp hq with rfl | hq
      · exact fun z => fr ((show c = s.heap.objs.size from z) ▸ C.C x c e)
      · exact C.X q hq x c e
  refine store_ C2 (u s.heap.objs.size) hx (.raw _) fun h' tk k _ C' => ?_
  have w2 : ∀ a ∈ s.heap.objs.size :: W, a ∈ W ∨ s.heap.get? a = none := fun a q => (List.mem_cons.mp q).elim (fun e => .inr (e ▸ new)) .inl
  have k1 : KeepsOff W s.heap h' := KeepsOff.seq (KeepsOff.ext kx) w2 k
  refine h s.heap.objs.size A H _ _ _ E rm C' fun fl h'' tk' k' af => hQ fl h'' tk' (k1.seq w2 k') ?_
  cases out with
  | ret p => exact af
  | next σ₂ own₂ =>
    obtain ⟨e1, W'', w1', w2', C''⟩ := af
    refine ⟨e1, W'', fun a q => w1' a (List.mem_cons_of_mem _ q), fun a q => ?_, C''⟩
    rcases w2' a q with r | r
    · exact w2 a r
    · by_cases hw : a ∈ W
      · exact .inl hw
      · refine .inr ?_
        cases e2 : s.heap.get? a with
        | none => rfl
        | some o => rw [show h'.get? a = some o from k1 a o hw e2] at r; cases r
end
end Mine
end

section
open PySem PySem.W PyProof.Rows
set_option Elab.async false
set_option maxRecDepth 100000
set_option linter.unusedVariables false
namespace Mine

theorem get_none {h : Heap} {c : Addr} (hc : h.objs.size ≤ c) : h.get? c = Option.none := by
  cases e : h.get? c with
  | none => rfl
  | some o => exact absurd (Heap.lt_size e) (Nat.not_lt.mpr hc)
theorem V.freshL {H : List Addr} {h : Heap} {W : List Addr} (hc : ∀ c ∈ W, h.get? c = Option.none) {v : Value} {p : PV} (x : V H h v p) : V (W ++ H) h v p := by
  have ne : ∀ {a : Addr} {o : Obj}, h.get? a = some o → a ∉ H → a ∉ W ++ H := fun e q z => (List.mem_append.mp z).elim (fun z => by rw [hc _ z] at e; cases e) q
  refine V.rec (motive_1 := fun v p _ => V (W ++ H) h v p) (motive_2 := fun vs ps _ => VL (W ++ H) h vs ps) .none .bool .int .str ?_ ?_ ?_ .raw ?_ .nil (fun _ _ a b => .cons a b) x
  · intro a vs l ha hl _ ih
    obtain ⟨o, ho⟩ := hl
    exact .list (ne ho ha) ⟨o, ho⟩ ih
  · intro a vs l ha hl _ ih
    obtain ⟨o, ho, r⟩ := hl
    exact .tup (ne ho ha) ⟨o, ho, r⟩ ih
  · intro r a b t u v ha hr
    exact .rng (ne hr ha) hr
  · intro b a ha hb
    exact .bnd (ne hb ha) hb
theorem VL.freshL {H : List Addr} {h : Heap} {W : List Addr} (hc : ∀ c ∈ W, h.get? c = Option.none) : ∀ {vs : List Value} {ps : List PV}, VL H h vs ps → VL (W ++ H) h vs ps
  | _, _, .nil => .nil
  | _, _, .cons a b => .cons (a.freshL hc) (b.freshL hc)

theorem cellsFrom_has : ∀ (names : List (Str × NameKind)) (n : Nat) (acc : List (Str × Addr)) (x : Str), (names.lookup x = some .cell ∨ (acc.lookup x).isSome = true) → ((cellsFrom n names acc).lookup x).isSome = true
  | [], n, acc, x, h => by
    rcases h with h | h
    · cases h
    · exact h
  | (y, k) :: r, n, acc, x, h => by
    unfold cellsFrom
    cases hxy : x == y with
    | true =>
      rw [List.lookup_cons, hxy] at h
      split
      · exact cellsFrom_has r _ _ x (.inr (by rw [List.lookup_cons, hxy]; rfl))
      · rename_i hk
        rcases h with h | h
        · cases h; exact absurd rfl hk
        · exact cellsFrom_has r _ _ x (.inr h)
    | false =>
      rw [List.lookup_cons, hxy] at h
      split
      · exact cellsFrom_has r _ _ x (h.imp id fun h => by rw [List.lookup_cons, hxy]; exact h)
      · exact cellsFrom_has r _ _ x h

theorem cellsFrom_name : ∀ (names : List (Str × NameKind)) (n : Nat) (acc : List (Str × Addr)) (x : Str) (c : Addr), (x, c) ∈ cellsFrom n names acc → (x, c) ∉ acc → x ∈ names.map Prod.fst
  | [], n, acc, x, c, h, k => absurd h k
  | (y, kd) :: r, n, acc, x, c, h, k => by
    unfold cellsFrom at h
    rw [List.map_cons]
    by_cases e : x = y
    · exact e ▸ List.mem_cons_self
    · refine List.mem_cons_of_mem _ ?_
      split at h
      · exact cellsFrom_name r _ _ x c h (fun q => (List.mem_cons.mp q).elim (fun z => e (Prod.mk.inj z).1) k)
      · exact cellsFrom_name r _ _ x c h k
theorem bindL_skip {kindOf : Str → Option NameKind} : ∀ {binds : List (Str × Value)} {m : Str → Option Value} {x : Str}, x ∉ binds.map Prod.fst → bindL kindOf binds m x = m x
  | [], m, x, _ => rfl
  | (y, u) :: r, m, x, h => by
    rw [List.map_cons, List.mem_cons, not_or] at h
    unfold bindL
    rw [bindL_skip h.2]
    split
    · exact if_neg h.1
    · rfl
theorem bindL_at {kindOf : Str → Option NameKind} : ∀ {binds : List (Str × Value)} {m : Str → Option Value} {x : Str} {v : Value}, (binds.map Prod.fst).Nodup → (x, v) ∈ binds → kindOf x = some .local → bindL kindOf binds m x = some v
  | (y, u) :: r, m, x, v, nd, h, hk => by
    rw [List.map_cons, List.nodup_cons] at nd
    unfold bindL
    rcases List.mem_cons.mp h with e | h
    · cases e
      rw [bindL_skip nd.1, if_pos hk]
      exact if_pos rfl
    · exact bindL_at nd.2 h hk
theorem bindC_skip {kindOf : Str → Option NameKind} : ∀ {binds : List (Str × Value)} {m : Str → Option Value} {x : Str}, x ∉ binds.map Prod.fst → bindC kindOf binds m x = m x
  | [], m, x, _ => rfl
  | (y, u) :: r, m, x, h => by
    rw [List.map_cons, List.mem_cons, not_or] at h
    unfold bindC
    rw [bindC_skip h.2]
    split
    · rfl
    · exact if_neg h.1
theorem bindC_at {kindOf : Str → Option NameKind} : ∀ {binds : List (Str × Value)} {m : Str → Option Value} {x : Str} {v : Value}, (binds.map Prod.fst).Nodup → (x, v) ∈ binds → kindOf x = some .cell → bindC kindOf binds m x = some v
  | (y, u) :: r, m, x, v, nd, h, hk => by
    rw [List.map_cons, List.nodup_cons] at nd
    unfold bindC
    rcases List.mem_cons.mp h with e | h
    · cases e
      rw [bindC_skip nd.1, if_neg (by rw [hk]; decide)]
      exact if_pos rfl
    · exact bindC_at nd.2 h hk

def sto0 (names : List Str) (vs : List PV) (rest : List Str) : Sto := (names.zip vs).map (fun q => (q.1, some q.2)) ++ rest.map fun x => (x, none)

theorem Room.deeper {n : Nat} {A : Around} {env : Env} (r : Room (n + 1) A) : Room n (A.deeper env) := ⟨r.hh, by have := r.depth; show A.depth + 1 + n < _; omega, by have := r.units; show A.units + 3 + 8 * n + 100 < _; omega⟩

section
variable {prog : Program} {w : World} {T : Tabs} {h₀ : Heap} {n : Nat}

theorem nodup_zip {α β : Type} : ∀ {l : List α} {r : List β}, l.Nodup → ((l.zip r).map Prod.fst).Nodup
  | [], _, _ => by simp
  | _ :: _, [], _ => by simp
  | a :: l, b :: r, h => by
    rw [List.nodup_cons] at h
    rw [List.zip_cons_cons, List.map_cons, List.nodup_cons]
    refine ⟨fun q => ?_, nodup_zip h.2⟩
    obtain ⟨x, hx, e⟩ := List.mem_map.mp q
    exact h.1 ((show x.1 = a from e) ▸ (List.of_mem_zip hx).1)
theorem VL.zip {H : List Addr} {h : Heap} : ∀ {us : List Value} {ps : List PV} {names : List Str}, VL H h us ps → ∀ {x : Str} {p : PV}, (x, p) ∈ names.zip ps → ∃ v, (x, v) ∈ names.zip us ∧ V H h v p
  | _, _, [], _, x, p, e => by simp at e
  | _, _, _ :: _, .nil, x, p, e => by simp at e
  | _, _, y :: names, .cons (v := v) (p := q) a r, x, p, e => by
    rw [List.zip_cons_cons] at e ⊢
    rcases List.mem_cons.mp e with e | e
    · cases e; exact ⟨v, List.mem_cons_self, a⟩
    · obtain ⟨u, h1, h2⟩ := r.zip e
      exact ⟨u, List.mem_cons_of_mem _ h1, h2⟩

theorem enter {A : Around} {H : List Addr} {s s₁ : Shared} {a : Addr} {fd : FuncData} {names rest : List Str} {us : List Value} {vs : List PV} (G : Gl T h₀) (ext : Ext h₀ s.heap) (lv : Live H s.heap)
    (hglob : fd.globals = mainGlobals) (hblt : fd.builtins = builtinsNs) (hk : fd.scope.kind = .function) (hv : VL H s.heap us vs) (hn : names.length = vs.length)
    (hnames : ∀ x ∈ names ++ rest, fd.scope.names.lookup x = some .local ∨ fd.scope.names.lookup x = some .cell) (nd : (names ++ rest).Nodup) (hclo : fd.closure = [])
    (X : InCallC s (callEnvC fd s.heap.objs.size a).locals (bindL (callEnvC fd s.heap.objs.size a).kindOf (names.zip us) fun _ => none) (callEnvC fd s.heap.objs.size a).cells
        (bindC (callEnvC fd s.heap.objs.size a).kindOf (names.zip us) fun _ => none) s₁) :
    ∃ W, (∀ b ∈ W, s.heap.get? b = none) ∧ Ctx T h₀ H W (callEnvC fd s.heap.objs.size a) (sto0 names vs rest) [] s₁.heap := by
  obtain ⟨⟨_, hns, hkeep, _⟩, hcell, hapart, habove⟩ := X
  have hkeep' : Ext s.heap s₁.heap := fun b o e => hkeep b o e
  generalize hE : callEnvC fd s.heap.objs.size a = env at *
  have hL : env.locals = s.heap.objs.size := by rw [← hE]; rfl
  have hkind : ∀ x, env.kindOf x = fd.scope.names.lookup x := fun x => by rw [← hE]; rfl
  have hW : ∀ b ∈ env.locals :: (fd.scope.names.map Prod.fst).filterMap (fun x => env.cells.lookup x), s.heap.get? b = none ∧ ∃ o, s₁.heap.get? b = some o := by
    intro b hb
    rcases List.mem_cons.mp hb with rfl | hb
    · exact ⟨get_none (by rw [hL]; exact Nat.le_refl _), let ⟨o, _, _, q, _⟩ := hns; ⟨o, q⟩⟩
    · obtain ⟨x, _, hx⟩ := List.mem_filterMap.mp hb
      have := habove x b (mem_of_lookup hx)
      exact ⟨get_none (by rw [hL] at this; exact Nat.le_of_lt this), let ⟨o, q, _⟩ := hcell x b hx; ⟨o, q⟩⟩
  refine ⟨env.locals :: (fd.scope.names.map Prod.fst).filterMap (fun x => env.cells.lookup x), fun b hb => (hW b hb).1, ?_⟩
  have inW : ∀ x c, env.kindOf x = some .cell → env.cells.lookup x = some c → c ∈ env.locals :: (fd.scope.names.map Prod.fst).filterMap (fun x => env.cells.lookup x) := fun x c a b => by
    rw [hkind] at a
    exact List.mem_cons_of_mem _ (List.mem_filterMap.mpr ⟨x, List.mem_map.mpr ⟨_, mem_of_lookup a, rfl⟩, b⟩)
  refine ⟨⟨by rw [← hE]; exact hk, by rw [← hE]; exact hglob, by rw [← hE]; exact hblt, G, ext.trans hkeep', _, hns, fun x o hx => ?_⟩, fun b hb => ?_, ⟨List.mem_cons_self, inW, fun x y c p q => name_of_addr hapart (mem_of_lookup p) (mem_of_lookup q), fun b hb => ?_, ?_⟩, fun q hq => (nomatch hq), .nil, fun b hb => ?_, fun x c e => ?_, fun q hq => (nomatch hq)⟩
  · have mem : x ∈ names ++ rest := by
      rcases List.mem_append.mp (show (x, o) ∈ sto0 names vs rest from hx) with q | q
      · obtain ⟨y, hy, e⟩ := List.mem_map.mp q
        cases e
        exact List.mem_append_left _ (List.of_mem_zip hy).1
      · obtain ⟨y, hy, e⟩ := List.mem_map.mp q
        cases e
        exact List.mem_append_right _ hy
    have arg : ∀ p, o = some p → ∃ v, (x, v) ∈ names.zip us ∧ V H s.heap v p := by
      rintro p rfl
      rcases List.mem_append.mp (show (x, some p) ∈ sto0 names vs rest from hx) with q | q
      · obtain ⟨y, hy, e⟩ := List.mem_map.mp q
        cases e
        exact hv.zip hy
      · obtain ⟨y, hy, e⟩ := List.mem_map.mp q
        cases e
    have ndz : ((names.zip us).map Prod.fst).Nodup := nodup_zip (List.nodup_append.mp nd).1
    have up : ∀ {v : Value} {p : PV}, V H s.heap v p → V ((env.locals :: (fd.scope.names.map Prod.fst).filterMap (fun x => env.cells.lookup x)) ++ H) s₁.heap v p := fun z => (z.freshL fun c q => (hW c q).1).ext hkeep'
    rcases hnames x mem with k | k
    · refine .inl ⟨by rw [hkind]; exact k, fun p e => ?_⟩
      obtain ⟨v, h1, h2⟩ := arg p e
      exact ⟨v, bindL_at ndz h1 (by rw [hkind]; exact k), up h2⟩
    · obtain ⟨c, hc⟩ := Option.isSome_iff_exists.mp (cellsFrom_has fd.scope.names (s.heap.objs.size + 1) [] x (.inl k))
      have hc' : env.cells.lookup x = some c := by rw [← hE]; exact hc
      refine .inr ⟨c, _, .inl (by rw [hkind]; exact k), hc', hcell x c hc', fun p e => ?_⟩
      obtain ⟨v, h1, h2⟩ := arg p e
      exact ⟨v, bindC_at ndz h1 (by rw [hkind]; exact k), up h2⟩
  · rcases List.mem_append.mp hb with hb | hb
    · exact (hW b hb).2
    · obtain ⟨o, e⟩ := lv b hb; exact ⟨o, hkeep' b o e⟩
  · cases e : h₀.get? b with
    | none => rfl
    | some o => have := ext b o e; rw [(hW b hb).1] at this; cases this
  · have e : (sto0 names vs rest).map Prod.fst = names ++ rest := by
      unfold sto0
      rw [List.map_append, List.map_map, List.map_map]
      congr 1
      · rw [show (Prod.fst ∘ fun q : Str × PV => (q.1, some q.2)) = Prod.fst from rfl, List.map_fst_zip (by omega)]
      · rw [show (Prod.fst ∘ fun x : Str => (x, (none : Option PV))) = id from rfl, List.map_id]
    rw [e]; exact nd
  · intro q
    obtain ⟨o, e⟩ := lv b q
    rw [(hW b hb).1] at e
    cases e
  · refine List.mem_append_left _ (List.mem_cons_of_mem _ (List.mem_filterMap.mpr ⟨x, ?_, e⟩))
    have e' : (cellsFrom (s.heap.objs.size + 1) fd.scope.names []).lookup x = some c := by rw [← hE] at e; exact e
    exact cellsFrom_name fd.scope.names _ [] x c (mem_of_lookup e') (by simp)

theorem Pur_call {a : Addr} {o : Obj} {fd : FuncData} {body : List Stmt} {names rest : List Str} {vs vs' : List PV} {p : PV} (G : Gl T h₀) (ho : h₀.get? a = some o) (hd : o.data = .func fd) (hcd : h₀.CodeRec fd.code fd.qualname) (hbody : fd.body = .stmts body)
    (hclo : fd.closure = []) (hglob : fd.globals = mainGlobals) (hblt : fd.builtins = builtinsNs)
    (hbind : ∀ H h us, Ext h₀ h → VL H h us vs → ∃ us', bindArgs fd ⟨us, []⟩ = pure (names.zip us') ∧ VL H h us' vs') (hn : names.length = vs'.length)
    (hnames : ∀ x ∈ names ++ rest, fd.scope.names.lookup x = some .local ∨ fd.scope.names.lookup x = some .cell) (nd : (names ++ rest).Nodup)
    (h : ∀ L, Exs prog w T h₀ n (callEnvC fd L a) (sto0 names vs' rest) [] body (.ret p))
    (hco : fd.scope.isCoroutine = false := by rfl) (hgen : fd.scope.isGenerator = false := by rfl) (hk : fd.scope.kind = .function := by rfl) :
    Pur prog w h₀ (n + 1) vs (fun us => call (.ref a) us) p := fun A H s us Q E rm ext hv lv hQ => by
  obtain ⟨us', hb, hv'⟩ := hbind H s.heap us ext hv
  refine wpAny_call (codeAny_call_cells (fd := fd) (body := body) (binds := names.zip us') (by have := rm.depth; omega) (ext _ _ ho) hd (G.ext ext).nolimit (hcd.keeps ext) hbody hb hclo ?_ (fun s₁ X => ?_) hco hgen hk)
  · intro x hx
    have hx' : x.1 ∈ names ++ rest := List.mem_append_left _ (List.of_mem_zip hx).1
    exact (hnames x.1 hx').imp id fun k => ⟨k, cellsFrom_has _ _ _ _ (.inl k)⟩
  · obtain ⟨W, w1, C⟩ := enter (a := a) (A := A) G ext lv hglob hblt hk hv' hn hnames nd hclo X
    have hkeep := X.toInCall.keep
    obtain ⟨h₁, tk₁, rfl, _⟩ := X.done
    refine h s.heap.objs.size (A.deeper _) H W _ _ _ rm.deeper C fun fl h' tk k af => ?_
    obtain ⟨v, rfl, hV⟩ := af
    exact hQ v h' tk (fun b o e => k b o (fun q => by rw [w1 b q] at e; cases e) (hkeep b o e)) hV
end
end Mine
end

section
open PySem PySem.W PyProof.Rows
set_option Elab.async false
set_option maxRecDepth 100000
set_option linter.unusedVariables false
namespace Mine

theorem V.wide {H H' : List Addr} {h : Heap} (hc : ∀ c ∈ H', c ∈ H ∨ h.get? c = Option.none) {v : Value} {p : PV} (x : V H h v p) : V H' h v p := by
  have ne : ∀ {a : Addr} {o : Obj}, h.get? a = some o → a ∉ H → a ∉ H' := fun e q z => (hc _ z).elim q (fun z => by rw [z] at e; cases e)
  refine V.rec (motive_1 := fun v p _ => V H' h v p) (motive_2 := fun vs ps _ => VL H' h vs ps) .none .bool .int .str ?_ ?_ ?_ .raw ?_ .nil (fun _ _ a b => .cons a b) x
  · intro a vs l ha hl _ ih
    obtain ⟨o, ho⟩ := hl
    exact .list (ne ho ha) ⟨o, ho⟩ ih
  · intro a vs l ha hl _ ih
    obtain ⟨o, ho, r⟩ := hl
    exact .tup (ne ho ha) ⟨o, ho, r⟩ ih
  · intro r a b t u v ha hr
    exact .rng (ne hr ha) hr
  · intro b a ha hb
    exact .bnd (ne hb ha) hb
theorem VL.wide {H H' : List Addr} {h : Heap} (hc : ∀ c ∈ H', c ∈ H ∨ h.get? c = Option.none) : ∀ {vs : List Value} {ps : List PV}, VL H h vs ps → VL H' h vs ps
  | _, _, .nil => .nil
  | _, _, .cons a b => .cons (a.wide hc) (b.wide hc)

section
variable {prog : Program} {w : World} {T : Tabs} {h₀ : Heap} {n : Nat} {env : Env} {σ : Sto} {own : Own}

theorem CtxE.wide {H H' : List Addr} {h : Heap} (C : CtxE T h₀ H env σ h) (hc : ∀ c ∈ H', c ∈ H ∨ h.get? c = none) : CtxE T h₀ H' env σ h := by
  obtain ⟨m, a, b⟩ := C.vars
  refine ⟨C.kind, C.glb, C.blt, C.G, C.ext, m, a, fun x o e => ?_⟩
  rcases b x o e with ⟨k, r⟩ | ⟨c, u, k, l, d, r⟩
  · exact .inl ⟨k, fun p q => let ⟨v, y, z⟩ := r p q; ⟨v, y, z.wide hc⟩⟩
  · exact .inr ⟨c, u, k, l, d, fun p q => let ⟨v, y, z⟩ := r p q; ⟨v, y, z.wide hc⟩⟩

abbrev ItOK (prog : Program) (w : World) (A : Around) (H : List Addr) (h : Heap) (I : Addr) (ps : List PV) : Prop :=
  ∃ fp P St, Walks prog w A I fp [I] ps.length P St ∧ St 0 h ∧ (∀ b ∈ fp, b = I ∨ b ∉ H) ∧ (∀ b ∈ fp, ∃ o, h.get? b = some o) ∧ (∃ o, h.get? I = some o) ∧ (∀ i h', St i h' → ∃ o, h'.get? I = some o) ∧ ∀ i v, P i v → ∃ p, ps[i]? = some p ∧ V (I :: H) h v p
def EvI (prog : Program) (w : World) (T : Tabs) (h₀ : Heap) (n : Nat) (env : Env) (σ : Sto) (e : PySem.Expr) (ps : List PV) : Prop :=
  ∀ (A : Around) (H : List Addr) (s : Shared) (Q : Value → Shared → Prop) (E : Value → Shared → Prop), Room n A → CtxE T h₀ H env σ s.heap → Live H s.heap →
    (∀ I h' tk, Ext s.heap h' → s.heap.get? I = none → ItOK prog w A H h' I ps → Q (.ref I) { s with heap := h', toks := tk }) → wpAny (model prog w) A (eval e env) (fun x s₁ => wpAny (model prog w) A (pyIter x) Q E s₁) E s

theorem EvI_list {e : PySem.Expr} {ps : List PV} (he : Ev prog w T h₀ n env σ e (.list ps)) : EvI prog w T h₀ n env σ e ps := fun A H s Q E rm C l hQ =>
  he A H s _ E rm C l fun v h1 t1 k1 v1 => by
    obtain ⟨a, vs, rfl, ha, pl, lv⟩ := v1.list_inv
    have e1 : h1.get? h1.objs.size = none := get_none (Nat.le_refl _)
    have na : a ≠ h1.objs.size := fun q => by obtain ⟨k, z⟩ := pl; rw [q, e1] at z; cases z
    have k2 := Ext.push h1 { cls := .type "list_iterator", data := .fields #[.ref a, .int 0 0] }
    have hw := Walks.list (prog := prog) (w := w) (A := A) rm.hh h1.objs.size a na vs.toArray
    rw [show vs.toArray.size = ps.length by rw [List.size_toArray, lv.length]] at hw
    refine wpAny_pyIter_list pl.isList (hQ h1.objs.size _ t1 (k1.trans k2) ?_ ⟨_, _, _, hw, ⟨⟨_, Heap.get?_push_size _ rfl, rfl, rfl⟩, (pl.at fun o e => k2 _ _ e).isList⟩, ?_, ?_, ⟨_, Heap.get?_push_size _ rfl⟩, (fun i h' st => let ⟨o, e, _⟩ := st.1; ⟨o, e⟩), ?_⟩)
    · cases e2 : s.heap.get? h1.objs.size with
      | none => rfl
      | some o => have := k1 _ _ e2; rw [e1] at this; cases this
    · intro b hb
      simp at hb
      rcases hb with rfl | rfl
      · exact .inl rfl
      · exact .inr ha
    · intro b hb
      simp at hb
      rcases hb with rfl | rfl
      · exact ⟨_, Heap.get?_push_size _ rfl⟩
      · obtain ⟨k, z⟩ := pl; exact ⟨_, k2 _ _ z⟩
    · intro i v hv
      obtain ⟨p, h1, h2⟩ := lv.get' (by simpa using hv)
      exact ⟨p, h1, (h2.wide (H' := _ :: H) fun c q => (List.mem_cons.mp q).elim (fun z => .inr (z ▸ e1)) .inl).ext k2⟩
def rngL (a b : Int) : List PV := (List.range (b - a).toNat).map fun i => .int (a + (i : Nat))
theorem rngL_length {a b : Int} : (rngL a b).length = (b - a).toNat := by unfold rngL; simp
theorem EvI_rng {e : PySem.Expr} {a b : Int} (he : Ev prog w T h₀ n env σ e (.rng a b)) (hs : Builtin.Range.small a b 1 = true) : EvI prog w T h₀ n env σ e (rngL a b) := fun A H s Q E rm C l hQ =>
  he A H s _ E rm C l fun v h1 t1 k1 v1 => by
    obtain ⟨r, t, u, y, rfl, hr, hr'⟩ := v1.rng_inv
    have e1 : h1.get? h1.objs.size = none := get_none (Nat.le_refl _)
    have k2 := Ext.push h1 { cls := .type "range_iterator", data := .fields #[rawInt a, rawInt (Builtin.Range.rangeSize a b 1), rawInt 1] }
    have hsize : Builtin.Range.rangeSize a b 1 = ((rngL a b).length : Int) := by
      rw [rngL_length]
      unfold Builtin.Range.rangeSize
      simp
      split <;> omega
    refine wpAny_pyIter_range hr' hs (hQ h1.objs.size _ t1 (k1.trans k2) ?_ ⟨_, _, _, (Walks.range rm.hh _ a 1 _).bound, ?_, ?_, ?_, ⟨_, Heap.get?_push_size _ rfl⟩, (fun i h' st => ⟨_, st⟩), ?_⟩)
    · cases e2 : s.heap.get? h1.objs.size with
      | none => rfl
      | some o => have := k1 _ _ e2; rw [e1] at this; cases this
    · show IsRangeIter _ _ _ _ _
      rw [hsize]
      simpa using Heap.get?_push_size _ rfl
    · intro b hb
      exact .inl (List.mem_singleton.mp hb)
    · intro b hb
      exact ⟨_, (List.mem_singleton.mp hb) ▸ Heap.get?_push_size _ rfl⟩
    · rintro i v ⟨hi, t, rfl⟩
      refine ⟨.int (a + (i : Nat) * 1), ?_, .int _ _⟩
      rw [rngL_length] at hi
      unfold rngL
      rw [List.getElem?_map, List.getElem?_range hi, Int.mul_one]
      rfl
end
end Mine
end

section
open PySem PySem.W PyProof.Rows
set_option Elab.async false
set_option maxRecDepth 100000
set_option linter.unusedVariables false
namespace Mine
section
variable {prog : Program} {w : World} {T : Tabs} {h₀ : Heap} {n : Nat} {env : Env} {σ : Sto} {own : Own}

theorem Ctx.wideI {H W : List Addr} {h h' : Heap} {I : Addr} (C : Ctx T h₀ H W env σ own h) (fr : h.get? I = none) (k : Ext h h') (lv : ∃ o, h'.get? I = some o) : Ctx T h₀ (I :: H) W env σ own h' := by
  have nI : I ∉ W ++ H := fun q => let ⟨o, e⟩ := C.L I q; by rw [fr] at e; cases e
  have sub : ∀ c ∈ W ++ I :: H, c ∈ W ++ H ∨ h.get? c = none := fun c q => by
    rcases List.mem_append.mp q with q | q
    · exact .inl (List.mem_append_left _ q)
    · rcases List.mem_cons.mp q with rfl | q
      · exact .inr fr
      · exact .inl (List.mem_append_right _ q)
  refine ⟨(C.E.wide sub).ext' k, fun a q => ?_, C.R, fun q hq => ?_, C.N, fun a q z => ?_, fun x c e => ?_, C.X⟩
  · rcases sub a q with q' | q'
    · exact (C.L.ext k) a q'
    · rcases List.mem_append.mp q with r | r
      · exact (C.L.ext k) a (List.mem_append_left _ r)
      · rcases List.mem_cons.mp r with rfl | r
        · exact lv
        · exact (C.L.ext k) a (List.mem_append_right _ r)
  · obtain ⟨a, vs, b, c⟩ := C.O q hq
    exact ⟨a, vs, b.at fun o e => k _ _ e, (c.wide sub).ext k⟩
  · rcases List.mem_cons.mp z with rfl | z
    · exact nI (List.mem_append_left _ q)
    · exact C.D a q z
  · rcases List.mem_append.mp (C.C x c e) with q | q
    · exact List.mem_append_left _ q
    · exact List.mem_append_right _ (List.mem_cons_of_mem _ q)
theorem Ctx.offI {H W : List Addr} {h h' : Heap} {I : Addr} (C : Ctx T h₀ (I :: H) W env σ own h) (hI : h₀.get? I = none) (hc : ∀ x c, env.cells.lookup x = some c → c ≠ I) (k : KeepsOff [I] h h') (lv : ∃ o, h'.get? I = some o) : Ctx T h₀ (I :: H) W env σ own h' := by
  have nW : I ∉ W := fun q => C.D I q List.mem_cons_self
  have k1 : ∀ b o, b ≠ I → h.get? b = some o → h'.get? b = some o := fun b o q e => k b o (fun z => q (List.mem_singleton.mp z)) e
  have kk : KeepsOff (W ++ I :: H) h h' := fun b o q e => k1 b o (fun z => q (List.mem_append_right _ (z ▸ List.mem_cons_self))) e
  obtain ⟨m, hm, hv⟩ := C.E.vars
  refine ⟨⟨C.E.kind, C.E.glb, C.E.blt, C.E.G, fun b o e => k1 b o (fun z => by rw [z, hI] at e; cases e) (C.E.ext b o e), m, ?_, fun x o e => ?_⟩, fun a q => ?_, C.R, fun q hq => ?_, C.N, C.D, C.C, C.X⟩
  · obtain ⟨o, es, ep, a, r⟩ := hm
    exact ⟨o, es, ep, k1 _ _ (fun z => nW (z ▸ C.R.loc)) a, r⟩
  · rcases hv x o e with ⟨a, b⟩ | ⟨c, u, a, b, d, r⟩
    · exact .inl ⟨a, fun p q => let ⟨v, y, z⟩ := b p q; ⟨v, y, z.mono kk⟩⟩
    · exact .inr ⟨c, u, a, b, let ⟨o', e1, e2⟩ := d; ⟨o', k1 _ _ (hc x c b) e1, e2⟩, fun p q => let ⟨v, y, z⟩ := r p q; ⟨v, y, z.mono kk⟩⟩
  · by_cases e : a = I
    · exact e ▸ lv
    · obtain ⟨o, ho⟩ := C.L a q
      exact ⟨o, k1 a o e ho⟩
  · obtain ⟨a, vs, ⟨kz, b⟩, c⟩ := C.O q hq
    exact ⟨a, vs, ⟨kz, k1 _ _ (fun z => nW (z ▸ a)) b⟩, c.mono kk⟩
theorem Ctx.unI {H W : List Addr} {h : Heap} {I : Addr} (C : Ctx T h₀ (I :: H) W env σ own h) (hc : ∀ x c, env.cells.lookup x = some c → c ≠ I) : Ctx T h₀ H W env σ own h := by
  have sub : ∀ c ∈ W ++ H, c ∈ W ++ I :: H := fun c q => (List.mem_append.mp q).elim (List.mem_append_left _) fun q => List.mem_append_right _ (List.mem_cons_of_mem _ q)
  refine ⟨C.E.weak sub, fun a q => C.L a (sub a q), C.R, fun q hq => let ⟨a, vs, b, c⟩ := C.O q hq; ⟨a, vs, b, c.weak sub⟩, C.N, fun a q z => C.D a q (List.mem_cons_of_mem _ z), fun x c e => ?_, C.X⟩
  rcases List.mem_append.mp (C.C x c e) with q | q
  · exact List.mem_append_left _ q
  · rcases List.mem_cons.mp q with q | q
    · exact absurd q (hc x c e)
    · exact List.mem_append_right _ q

theorem Ex1_for {x : Str} {px pos : Pos} {iter : PySem.Expr} {body : List Stmt} {ps : List PV} (σs : Nat → Sto) (owns : Nat → Own) (hi : EvI prog w T h₀ n env (σs 0) iter ps) (hx : Storable env x = true)
    (turn : ∀ i p, ps[i]? = some p → ∃ σ₁, Upd x p (σs i) σ₁ ∧ Exs prog w T h₀ n env σ₁ (owns i) body (.next (σs (i + 1)) (owns (i + 1))))
    (hf : ∀ v, foldedSetIterable iter env v = pure v := by intro _; rfl) :
    Ex1 prog w T h₀ n env (σs 0) (owns 0) (.For (.Name x px) iter body [] pos) (.next (σs ps.length) (owns ps.length)) := fun A H W s Q E rm C hQ => by
  refine wpAny_For (hs := hf) (hi A (W ++ H) s _ E rm C.E C.L fun I h1 t1 k1 fr ok => ?_)
  obtain ⟨fp, P, St, wk, st0, hfp, hfl, hIl, hSt, items⟩ := ok
  have hI0 : h₀.get? I = none := by
    cases e : h₀.get? I with
    | none => rfl
    | some o => have := C.E.ext _ _ e; rw [fr] at this; cases this
  have hcI : ∀ x c, env.cells.lookup x = some c → c ≠ I := fun x c e z => by
    obtain ⟨o, e2⟩ := C.L c (C.C x c e)
    rw [z, fr] at e2; cases e2
  refine codeAny_forLoop (fun k s' => ∃ i W' h' tk, s' = { s with heap := h', toks := tk } ∧ k = ps.length - i ∧ i ≤ ps.length ∧ (∀ a ∈ W, a ∈ W') ∧ (∀ a ∈ W', a ∈ W ∨ h1.get? a = none) ∧ Ctx T h₀ (I :: H) W' env (σs i) (owns i) h' ∧
      St i h' ∧ KeepsOff (W ++ [I]) h1 h') ?_ ps.length ⟨0, W, h1, t1, rfl, rfl, Nat.zero_le _, fun _ q => q, fun _ q => .inl q, C.wideI fr k1 hIl, st0, fun _ _ _ e => e⟩
  rintro k s' ⟨i, W', h', tk, rfl, rfl, hiN, w1, w2, C', st, kp⟩
  have nI : I ∉ W' := fun q => C'.D I q List.mem_cons_self
  have nIW : I ∉ W := fun q => nI (w1 I q)
  by_cases hlt : i < ps.length
  · refine wk.item i _ _ _ hlt st fun v h2 tk2 hP st2 k2 => ?_
    obtain ⟨p, hp, hV⟩ := items i v hP
    obtain ⟨σ₁, u, ex⟩ := turn i p hp
    have C2 := C'.offI hI0 hcI k2 (hSt _ _ st2)
    have kp2 : KeepsOff (W ++ [I]) h1 h2 := fun b o q e => k2 b o (fun z => q (List.mem_append_right _ z)) (kp b o q e)
    have hV2 : V (W' ++ I :: H) h2 v p := by
      refine (hV.wide (H' := W' ++ I :: H) fun c q => ?_).mono fun b o q e => kp2 b o (fun z => q ?_) e
      · rcases List.mem_append.mp q with q | q
        · exact (w2 c q).imp (fun z => List.mem_cons_of_mem _ (List.mem_append_left _ z)) id
        · rcases List.mem_cons.mp q with rfl | q
          · exact .inl List.mem_cons_self
          · exact .inl (List.mem_cons_of_mem _ (List.mem_append_right _ q))
      · rcases List.mem_append.mp z with z | z
        · exact List.mem_append_left _ (w1 b z)
        · exact List.mem_append_right _ (List.mem_singleton.mp z ▸ List.mem_cons_self)
    refine wpAny_assign_Name (store_ C2 u hx hV2 fun h3 tk3 k3 _ C3 => ?_)
    refine ex A (I :: H) W' _ _ _ rm C3 fun fl h4 tk4 k4 af => ?_
    obtain ⟨rfl, W'', w1', w2', C4⟩ := af
    have kw : KeepsOff W' h2 h4 := k3.trans k4
    have lf : ∀ b ∈ W'', b ∈ W ∨ h1.get? b = none := fun b q => by
      rcases w2' b q with r | r
      · exact w2 b r
      · by_cases hb : b ∈ W
        · exact .inl hb
        · refine .inr ?_
          cases e : h1.get? b with
          | none => rfl
          | some o =>
            exfalso
            by_cases hbI : b = I
            · subst hbI
              obtain ⟨o', e'⟩ := C3.L b (List.mem_append_right _ List.mem_cons_self)
              have r' : h3.get? b = none := r
              rw [e'] at r'; cases r'
            · have e2 := kp2 b o (fun z => (List.mem_append.mp z).elim hb fun z => hbI (List.mem_singleton.mp z)) e
              have hbW' : b ∉ W' := fun z => (w2 b z).elim hb fun z => by rw [z] at e; cases e
              have e3 : h3.get? b = some o := k3 b o hbW' e2
              have r' : h3.get? b = none := r
              rw [e3] at r'; cases r'
    refine ⟨ps.length - (i + 1), by omega, i + 1, W'', h4, tk4, rfl, rfl, hlt, fun a q => w1' a (w1 a q), lf, C4, ?_, fun b o q e => ?_⟩
    · refine wk.frame _ _ _ st2 fun b hb o e => kw b o (fun z => ?_) e
      rcases hfp b hb with rfl | hb'
      · exact nI z
      · obtain ⟨o', e'⟩ := hfl b hb
        exact (w2 b z).elim (fun z => hb' (List.mem_append_left _ z)) fun z => by rw [z] at e'; cases e'
    · exact kw b o (fun z => (w2 b z).elim (fun z => q (List.mem_append_left _ z)) fun z => by rw [z] at e; cases e) (kp2 b o q e)
  · obtain rfl : i = ps.length := by omega
    refine wk.done _ _ _ st fun h2 tk2 k2 => ?_
    have kall : KeepsOff W s.heap h2 := fun b o q e => by
      have hbI : b ≠ I := fun z => by rw [z, fr] at e; cases e
      exact k2 b o (fun z => hbI (List.mem_singleton.mp z)) (kp b o (fun z => (List.mem_append.mp z).elim q fun z => hbI (List.mem_singleton.mp z)) (k1 b o e))
    refine wpAny_execs_nil (hQ .next h2 tk2 kall ⟨rfl, W', w1, fun a q => ?_, ?_⟩)
    · rcases w2 a q with r | r
      · exact .inl r
      · refine .inr ?_
        cases e : s.heap.get? a with
        | none => rfl
        | some o => rw [k1 a o e] at r; cases r
    · -- the iterator is let go
      have C5 := C'.unI hcI
      have nH : I ∉ W' ++ H := fun q => (List.mem_append.mp q).elim nI fun q => by
        obtain ⟨o, e⟩ := C.L I (List.mem_append_right _ q); rw [fr] at e; cases e
      have kk : KeepsOff (W' ++ I :: H) h' h2 := fun b o q e => k2 b o (fun z => q (List.mem_append_right _ (List.mem_singleton.mp z ▸ List.mem_cons_self))) e
      have k2' : ∀ b o, b ≠ I → h'.get? b = some o → h2.get? b = some o := fun b o q e => k2 b o (fun z => q (List.mem_singleton.mp z)) e
      have sub : ∀ c ∈ W' ++ H, c ∈ W' ++ I :: H := fun c q => (List.mem_append.mp q).elim (List.mem_append_left _) fun q => List.mem_append_right _ (List.mem_cons_of_mem _ q)
      obtain ⟨m, hm, hv⟩ := C'.E.vars
      refine ⟨⟨C'.E.kind, C'.E.glb, C'.E.blt, C'.E.G, fun b o e => k2' b o (fun z => by rw [z, hI0] at e; cases e) (C'.E.ext b o e), m, ?_, fun x o e => ?_⟩, fun a q => ?_, C'.R, fun q hq => ?_, C'.N, C5.D, C5.C, C5.X⟩
      · obtain ⟨o, es, ep, a, r⟩ := hm
        exact ⟨o, es, ep, k2' _ _ (fun z => nI (z ▸ C'.R.loc)) a, r⟩
      · rcases hv x o e with ⟨a, b⟩ | ⟨c, u, a, b, d, r⟩
        · exact .inl ⟨a, fun p q => let ⟨v, y, z⟩ := b p q; ⟨v, y, (z.mono kk).weak sub⟩⟩
        · exact .inr ⟨c, u, a, b, let ⟨o', e1, e2⟩ := d; ⟨o', k2' _ _ (hcI x c b) e1, e2⟩, fun p q => let ⟨v, y, z⟩ := r p q; ⟨v, y, (z.mono kk).weak sub⟩⟩
      · obtain ⟨o, ho⟩ := C5.L a q
        exact ⟨o, k2' a o (fun z => nH (z ▸ q)) ho⟩
      · obtain ⟨a, vs, ⟨kz, b⟩, c⟩ := C'.O q hq
        exact ⟨a, vs, ⟨kz, k2' _ _ (fun z => nI (z ▸ a)) b⟩, (c.mono kk).weak sub⟩

theorem Ex1_while {test : PySem.Expr} {body : List Stmt} {pos : Pos} (N : Nat) (σs : Nat → Sto) (owns : Nat → Own)
    (turn : ∀ i, i < N → EvB prog w T h₀ n env (σs i) test true ∧ Exs prog w T h₀ n env (σs i) (owns i) body (.next (σs (i + 1)) (owns (i + 1)))) (hend : EvB prog w T h₀ n env (σs N) test false) :
    Ex1 prog w T h₀ n env (σs 0) (owns 0) (.While test body [] pos) (.next (σs N) (owns N)) := fun A H W s Q E rm C hQ => by
  refine wpAny_While (codeAny_whileLoop (fun k s' => ∃ i W' h' tk, s' = { s with heap := h', toks := tk } ∧ k = N - i ∧ i ≤ N ∧ (∀ a ∈ W, a ∈ W') ∧ (∀ a ∈ W', a ∈ W ∨ s.heap.get? a = none) ∧ Ctx T h₀ H W' env (σs i) (owns i) h' ∧ KeepsOff W s.heap h') ?_ N
    ⟨0, W, s.heap, s.toks, rfl, rfl, Nat.zero_le _, fun _ q => q, fun _ q => .inl q, C, .refl _ _⟩)
  rintro k s' ⟨i, W', h', tk, rfl, rfl, hiN, w1, w2, C', kp⟩
  by_cases hlt : i < N
  · obtain ⟨t1, t2⟩ := turn i hlt
    refine t1 A (W' ++ H) _ _ _ rm C'.E C'.L fun h2 tk2 k2 => ?_
    rw [if_pos rfl]
    refine t2 A H W' _ _ _ rm (C'.ext k2) fun fl h4 tk4 k4 af => ?_
    obtain ⟨rfl, W'', w1', w2', C4⟩ := af.pre (KeepsOff.ext k2)
    have kw : KeepsOff W' h' h4 := KeepsOff.trans (.ext k2) k4
    refine ⟨N - (i + 1), by omega, i + 1, W'', h4, tk4, rfl, rfl, hlt, fun a q => w1' a (w1 a q), fun a q => ?_, C4, kp.seq w2 kw⟩
    rcases w2' a q with r | r
    · exact w2 a r
    · by_cases hw : a ∈ W
      · exact .inl hw
      · refine .inr ?_
        cases e : s.heap.get? a with
        | none => rfl
        | some o =>
          have := kp a o hw e
          have r' : h'.get? a = none := r
          rw [this] at r'; cases r'
  · obtain rfl : i = N := by omega
    refine hend A (W' ++ H) _ _ _ rm C'.E C'.L fun h2 tk2 k2 => ?_
    rw [if_neg (by decide)]
    exact wpAny_execs_nil (hQ .next h2 tk2 (kp.seq w2 (.ext k2)) ⟨rfl, W', w1, w2, C'.ext k2⟩)
end
end Mine
end

section
open PySem PySem.W PyProof.Rows
set_option Elab.async false
set_option maxRecDepth 100000
set_option linter.unusedVariables false
namespace Mine
section
variable {prog : Program} {w : World} {T : Tabs} {h₀ : Heap} {n : Nat} {env : Env} {σ : Sto} {own : Own}

theorem Ctx.letGo {H W : List Addr} {h h' : Heap} {I : Addr} (C : Ctx T h₀ (I :: H) W env σ own h) (nH : I ∉ H) (hI : h₀.get? I = none) (hc : ∀ x c, env.cells.lookup x = some c → c ≠ I) (k : KeepsOff [I] h h') : Ctx T h₀ H W env σ own h' := by
  have nW : I ∉ W := fun q => C.D I q List.mem_cons_self
  have C5 := C.unI hc
  have kk : KeepsOff (W ++ I :: H) h h' := fun b o q e => k b o (fun z => q (List.mem_append_right _ (List.mem_singleton.mp z ▸ List.mem_cons_self))) e
  have k2' : ∀ b o, b ≠ I → h.get? b = some o → h'.get? b = some o := fun b o q e => k b o (fun z => q (List.mem_singleton.mp z)) e
  have sub : ∀ c ∈ W ++ H, c ∈ W ++ I :: H := fun c q => (List.mem_append.mp q).elim (List.mem_append_left _) fun q => List.mem_append_right _ (List.mem_cons_of_mem _ q)
  have nWH : I ∉ W ++ H := fun q => (List.mem_append.mp q).elim nW nH
  obtain ⟨m, hm, hv⟩ := C.E.vars
  refine ⟨⟨C.E.kind, C.E.glb, C.E.blt, C.E.G, fun b o e => k2' b o (fun z => by rw [z, hI] at e; cases e) (C.E.ext b o e), m, ?_, fun x o e => ?_⟩, fun a q => ?_, C.R, fun q hq => ?_, C.N, C5.D, C5.C, C5.X⟩
  · obtain ⟨o, es, ep, a, r⟩ := hm
    exact ⟨o, es, ep, k2' _ _ (fun z => nW (z ▸ C.R.loc)) a, r⟩
  · rcases hv x o e with ⟨a, b⟩ | ⟨c, u, a, b, d, r⟩
    · exact .inl ⟨a, fun p q => let ⟨v, y, z⟩ := b p q; ⟨v, y, (z.mono kk).weak sub⟩⟩
    · exact .inr ⟨c, u, a, b, let ⟨o', e1, e2⟩ := d; ⟨o', k2' _ _ (hc x c b) e1, e2⟩, fun p q => let ⟨v, y, z⟩ := r p q; ⟨v, y, (z.mono kk).weak sub⟩⟩
  · obtain ⟨o, ho⟩ := C5.L a q
    exact ⟨o, k2' a o (fun z => nWH (z ▸ q)) ho⟩
  · obtain ⟨a, vs, ⟨kz, b⟩, c⟩ := C.O q hq
    exact ⟨a, vs, ⟨kz, k2' _ _ (fun z => nW (z ▸ a)) b⟩, (c.mono kk).weak sub⟩

def closF (env : Env) : List (Str × NameKind) → List (Str × Addr) → List (Str × Addr)
  | [], acc => acc
  | (y, k) :: r, acc => if k == .free then closF env r ((y, (env.cells.lookup y).getD 0) :: acc) else closF env r acc
theorem closureFor_is {env : Env} (names : List (Str × NameKind)) (h : ∀ x ∈ names, x.2 = .free → (env.cells.lookup x.1).isSome = true) (acc : List (Str × Addr)) :
    (forIn names acc fun (x : Str × NameKind) (r : List (Str × Addr)) => (if x.2 == .free then do let c ← cellOf env x.1; pure (ForInStep.yield ((x.1, c) :: r)) else pure (ForInStep.yield r) : Sem (ForInStep (List (Str × Addr))))) = pure (closF env names acc) := by
  induction names generalizing acc with
  | nil => rfl
  | cons x r ih =>
    obtain ⟨y, k⟩ := x
    rw [List.forIn_cons]
    dsimp only
    have h' := h (y, k) List.mem_cons_self
    have hr : ∀ x ∈ r, x.2 = .free → (env.cells.lookup x.1).isSome = true := fun x hx => h x (List.mem_cons_of_mem _ hx)
    unfold closF
    cases hk : k == NameKind.free with
    | true =>
      obtain ⟨c, hc⟩ := Option.isSome_iff_exists.mp (h' (by simpa using hk))
      have e : cellOf env y = pure c := by unfold cellOf; rw [show env.cells.lookup y = some c from hc]
      have e2 : (env.cells.lookup y).getD 0 = c := by rw [show env.cells.lookup y = some c from hc]; rfl
      rw [e2]
      simp only [e, if_true, pure_bind]
      exact ih hr _
    | false =>
      simp only [Bool.false_eq_true, if_false, pure_bind]
      exact ih hr _
theorem closure_ok {scope : Scope} (h : ∀ x ∈ scope.names, x.2 = .free → (env.cells.lookup x.1).isSome = true) : closureFor scope env = pure (closF env scope.names []) := by
  have e := closureFor_is scope.names h []
  unfold closureFor
  refine Eq.trans ?_ ((congrArg (fun z : Sem (List (Str × Addr)) => z >>= fun r => pure r) e).trans (by rw [pure_bind]))
  rfl
theorem closF_mem {y : Str} {c : Addr} : ∀ (names : List (Str × NameKind)) (acc : List (Str × Addr)), (∀ q ∈ acc, env.cells.lookup q.1 = some q.2) → (∀ x ∈ names, x.2 = .free → (env.cells.lookup x.1).isSome = true) → (y, c) ∈ closF env names acc → env.cells.lookup y = some c
  | [], acc, h, _, e => h _ e
  | (z, k) :: r, acc, h, hs, e => by
    unfold closF at e
    have hr : ∀ x ∈ r, x.2 = .free → (env.cells.lookup x.1).isSome = true := fun x hx => hs x (List.mem_cons_of_mem _ hx)
    split at e
    · rename_i hk
      obtain ⟨d, hd⟩ := Option.isSome_iff_exists.mp (hs (z, k) List.mem_cons_self (by simpa using hk))
      refine closF_mem r _ (fun q hq => ?_) hr e
      rcases List.mem_cons.mp hq with rfl | hq
      · rw [show env.cells.lookup z = some d from hd]; rfl
      · exact h q hq
    · exact closF_mem r _ h hr e
theorem closF_has {y : Str} : ∀ (names : List (Str × NameKind)) (acc : List (Str × Addr)), ((y, .free) ∈ names ∨ (acc.lookup y).isSome = true) → ((closF env names acc).lookup y).isSome = true
  | [], acc, h => by
    rcases h with h | h
    · cases h
    · exact h
  | (z, k) :: r, acc, h => by
    unfold closF
    split
    · refine closF_has r _ ?_
      by_cases hz : y == z
      · exact .inr (by rw [List.lookup_cons, hz]; rfl)
      · rcases h with h | h
        · rcases List.mem_cons.mp h with h | h
          · cases h; exact absurd (beq_self_eq_true y) hz
          · exact .inl h
        · exact .inr (by rw [List.lookup_cons, (Bool.not_eq_true _).mp hz]; exact h)
    · rename_i hk
      refine closF_has r _ ?_
      rcases h with h | h
      · rcases List.mem_cons.mp h with h | h
        · cases h; exact absurd (beq_self_eq_true _) hk
        · exact .inl h
      · exact .inr h

def EvT (prog : Program) (w : World) (T : Tabs) (h₀ : Heap) (n : Nat) (env : Env) (σ : Sto) (ifs : List PySem.Expr) (b : Bool) : Prop :=
  ∀ (A : Around) (H : List Addr) (s : Shared) (Q : Bool → Shared → Prop) (E : Value → Shared → Prop), Room n A → CtxE T h₀ H env σ s.heap → Live H s.heap →
    (∀ h' tk, Ext s.heap h' → Q b { s with heap := h', toks := tk }) →
      wpAny (model prog w) A (forIn ifs true fun c r => if r = true then do let ok ← isTrue c env (eval c env); pure (ForInStep.yield ok) else pure (ForInStep.yield r)) Q E s
theorem EvT_nil : EvT prog w T h₀ n env σ [] true := fun A H s Q E rm C l hQ => wpAny_tests_nil (hQ s.heap s.toks (.refl _))
theorem EvT_one {c : PySem.Expr} {b : Bool} (h : EvB prog w T h₀ n env σ c b) : EvT prog w T h₀ n env σ [c] b := fun A H s Q E rm C l hQ => wpAny_tests_one (h A H s Q E rm C l hQ)

structure CompOk (env : Env) (scope : Scope) (σ fv : Sto) (x : Str) : Prop where
  cell : ∀ y ∈ scope.names, y.2 ≠ .cell
  kind : scope.kind = .function
  names : ∀ y ∈ scope.names, y.2 = .local → scope.names.lookup y.1 = some .local
  x : scope.names.lookup x = some .local
  free : ∀ y ∈ scope.names, y.2 = .free → ∃ o, List.Mem (y.1, o) σ ∧ env.kindOf y.1 ≠ some .local
  fv : ∀ q, List.Mem q fv → List.Mem q σ ∧ (q.1, .free) ∈ scope.names ∧ ((relabel scope env).names.lookup q.1 = some .cell)

theorem comp_core {A : Around} {H : List Addr} {s₂ : Shared} {I : Addr} {elt iter : PySem.Expr} {x : Str} {px : Pos} {ifs : List PySem.Expr} {scope : Scope} {pos : Pos} {ps : List PV} {b : PV → Bool} {f : PV → PV} {fv : Sto} {E : Value → Shared → Prop}
    {RR : Value → Addr → Result → Shared → Prop} (rm : Room n A) (C : CtxE T h₀ (I :: H) env σ s₂.heap) (lv : Live (I :: H) s₂.heap) (hIf : I ∉ H) (hI0 : h₀.get? I = none) (hIc : ∀ y o c, List.Mem (y, o) σ → env.kindOf y ≠ some .local → env.cells.lookup y = some c → c ≠ I)
    (ok : ItOK prog w A H s₂.heap I ps) (hsz : ps.length ≤ sizeLine) (co : CompOk env scope σ fv x)
    (ev : ∀ p ∈ ps, ∀ cl C, EvT prog w T h₀ n (compEnvC scope cl C env) ((x, some p) :: fv) ifs (b p) ∧ (b p = true → Ev prog w T h₀ n (compEnvC scope cl C env) ((x, some p) :: fv) elt (f p)))
    (hRR : ∀ D C h' tk m', s₂.heap.get? D = none → s₂.heap.get? C = none → D ≠ C → h'.Ns C m' → V (C :: H) h' (.ref D) (.list ((ps.filter b).map f)) → (∀ b o, b ≠ I → s₂.heap.get? b = some o → h'.get? b = some o) → RR (.ref D) C (.ok .next) { s₂ with heap := h', toks := tk }) :
    wpAny (model prog w) A (newList []) (fun acc s₃ => wpAny (model prog w) A (newFunctionEnv scope env.globals (closF env scope.names []) [] env.qual none .none (some env)) (fun cenv s₄ =>
      codeAny (model prog w) A (.compStart (.ListComp elt [⟨.Name x px, iter, ifs, 0⟩] scope pos) 0 (.ref I) acc { cenv with scope := relabel scope env }) (RR acc cenv.locals) s₄) E s₃) E s₂ := by
  obtain ⟨fp, P, St, wk, st0, hfp, hfl, hIl, hSt, items⟩ := ok
  refine wpAny_newObj_type (wpAny_newFunctionEnv co.cell (by intro y hy; simp at hy) (fun h₁ hns₁ hsb₁ => ?_) co.kind)
  dsimp only at hns₁ hsb₁ ⊢
  generalize hH2 : s₂.heap.push { cls := .type "list", dict := none, data := .seq ([] : List Value).toArray } = H2 at hns₁ hsb₁ ⊢
  have hC : H2.objs.size = s₂.heap.objs.size + 1 := by rw [← hH2, Heap.size_push]
  have hDC : s₂.heap.objs.size ≠ H2.objs.size := by rw [hC]; exact Nat.ne_of_lt (Nat.lt_succ_self _)
  have frD : s₂.heap.get? s₂.heap.objs.size = none := get_none (Nat.le_refl _)
  have frC : s₂.heap.get? H2.objs.size = none := get_none (by rw [hC]; exact Nat.le_succ _)
  have neD : ∀ {c : Addr} {o : Obj}, s₂.heap.get? c = some o → c ≠ s₂.heap.objs.size := fun e z => by rw [z, frD] at e; cases e
  have neC : ∀ {c : Addr} {o : Obj}, s₂.heap.get? c = some o → c ≠ H2.objs.size := fun e z => by rw [z, frC] at e; cases e
  have old : Ext s₂.heap h₁ := fun c o e => hsb₁.extBut c o (neC e) (Heap.get?_push_of_some _ (hH2 ▸ Heap.get?_push_of_some _ e))
  have hacc : h₁.PlainList s₂.heap.objs.size ([] : List Value).toArray := ⟨_, hsb₁.extBut _ _ hDC (Heap.get?_push_of_some _ (hH2 ▸ Heap.get?_push_size _ rfl))⟩
  have hst₁ : St 0 h₁ := wk.frame _ _ _ st0 fun c _ o e => old c o e
  generalize hD : s₂.heap.objs.size = D at *
  generalize hCc : H2.objs.size = Ca at *
  have hfpC : ∀ c ∈ fp, c ≠ D ∧ c ≠ Ca := fun c q => let ⟨o, e⟩ := hfl c q; ⟨neD e, neC e⟩
  have loop : ∀ s₃ : Shared, s₃ = { s₂ with heap := h₁, toks := s₂.toks + ([] : List (Str × Value)).length } →
      codeAny (model prog w) A (.compLoop (.ListComp elt [⟨.Name x px, iter, ifs, 0⟩] scope pos) 0 (.ref I) (.ref D) (compEnvC scope (closF env scope.names []) Ca env)) (RR (.ref D) Ca) s₃ := by
    rintro s₃ rfl
    refine codeAny_compLoop_tests (fun k s' => ∃ i h' tk ys m', s' = { s₂ with heap := h', toks := tk } ∧ i ≤ ps.length ∧ k = ps.length - i ∧ St i h' ∧ h'.PlainList D (List.toArray ys) ∧ h'.Ns Ca m' ∧
      VL (D :: Ca :: I :: H) h' ys (((ps.take i).filter b).map f) ∧ (∀ c o, c ≠ I → s₂.heap.get? c = some o → h'.get? c = some o)) ?_ ps.length
      ⟨0, h₁, _, [], _, rfl, Nat.zero_le _, rfl, hst₁, hacc, hns₁, by simpa using VL.nil, fun c o _ e => old c o e⟩
    rintro k s' ⟨i, h', tk, ys, m', rfl, hiN, rfl, st, hpl, hns, hvl, kp⟩
    by_cases hlt : i < ps.length
    · refine wk.item i _ _ _ hlt st fun v h2 tk2 hP st2 k2 => ?_
      obtain ⟨p, hp, hV⟩ := items i v hP
      have hIo : ∃ o, s₂.heap.get? I = some o := hIl
      have nID : D ≠ I := fun z => by obtain ⟨o, e⟩ := hIo; exact neD e z.symm
      have nIC : Ca ≠ I := fun z => by obtain ⟨o, e⟩ := hIo; exact neC e z.symm
      have k2' : ∀ c o, c ≠ I → h'.get? c = some o → h2.get? c = some o := fun c o q e => k2 c o (fun z => q (List.mem_singleton.mp z)) e
      have hns2 : h2.Ns Ca m' := let ⟨o, es, ep, a, r⟩ := hns; ⟨o, es, ep, k2' _ _ nIC a, r⟩
      refine wpAny_assign_Name (wpAny_storeName_local (lookup_relabel_local co.x) hns2 (fun h3 hns3 hsb3 => ?_) (by show (scope.kind == .class || (scope.kind == .module && _)) = false; rw [co.kind]; rfl))
      have k3 : ∀ c o, c ≠ Ca → h2.get? c = some o → h3.get? c = some o := fun c o q e => hsb3.extBut c o q e
      have kp3 : ∀ c o, c ≠ I → s₂.heap.get? c = some o → h3.get? c = some o := fun c o q e => k3 c o (neC e) (k2' c o q (kp c o q e))
      have st3 : St (i + 1) h3 := wk.frame _ _ _ st2 fun c q o e => k3 c o (hfpC c q).2 e
      have live3 : Live (D :: Ca :: I :: H) h3 := fun c q => by
        rcases List.mem_cons.mp q with rfl | q
        · obtain ⟨kz, e⟩ := hpl
          exact ⟨_, k3 _ _ hDC (k2' _ _ nID e)⟩
        · rcases List.mem_cons.mp q with rfl | q
          · exact let ⟨o, _, _, e, _⟩ := hns3; ⟨o, e⟩
          · rcases List.mem_cons.mp q with rfl | q
            · exact hSt _ _ st3
            · obtain ⟨o, e⟩ := lv c (List.mem_cons_of_mem _ q)
              exact ⟨o, kp3 c o (fun z => hIf (z ▸ q)) e⟩
      have vmono : ∀ {u : Value} {y : PV}, V H s₂.heap u y → (∀ c ∈ [I], c ∈ H ∨ s₂.heap.get? c = none) → True := fun _ _ => trivial
      have hV3 : V (D :: Ca :: I :: H) h3 v p := (hV.wide (H' := D :: Ca :: I :: H) fun c q => by
        rcases List.mem_cons.mp q with rfl | q
        · exact .inr frD
        · rcases List.mem_cons.mp q with rfl | q
          · exact .inr frC
          · exact .inl q).mono fun c o q e => kp3 c o (fun z => q (by rw [z]; simp)) e
      have CE : CtxE T h₀ (D :: Ca :: I :: H) (compEnvC scope (closF env scope.names []) Ca env) ((x, some p) :: fv) h3 := by
        obtain ⟨m0, hm0, hv0⟩ := C.vars
        have hlook : ∀ y ∈ scope.names, y.2 = .free → (env.cells.lookup y.1).isSome = true := fun y hy hf => by
          obtain ⟨o, ho, hk⟩ := co.free y hy hf
          rcases hv0 y.1 o ho with ⟨a, _⟩ | ⟨c, u, _, a, _⟩
          · exact absurd a hk
          · rw [a]; rfl
        refine ⟨co.kind, C.glb, C.blt, C.G, fun c o e => kp3 c o (fun z => by rw [z, hI0] at e; cases e) (C.ext c o e), _, hns3, fun y o hy => ?_⟩
        cases hy with
        | head => exact .inl ⟨lookup_relabel_local co.x, fun q e => by cases e; exact ⟨v, by simp, hV3⟩⟩
        | tail _ hy =>
          obtain ⟨hyσ, hyf, hyk⟩ := co.fv (y, o) hy
          obtain ⟨o2, ho2, hk2⟩ := co.free (y, .free) hyf rfl
          rcases hv0 y o hyσ with ⟨a, _⟩ | ⟨c, u, a1, a2, a3, a4⟩
          · exact absurd a hk2
          · obtain ⟨c', hc'⟩ := Option.isSome_iff_exists.mp (closF_has (env := env) (y := y) scope.names [] (.inl hyf))
            have hcc := closF_mem scope.names [] (by simp) hlook (mem_of_lookup hc')
            have hcc' : env.cells.lookup y = some c' := hcc
            rw [a2] at hcc'
            cases hcc'
            refine .inr ⟨c, u, .inl hyk, hc', let ⟨oc, e1, e2⟩ := a3; ⟨oc, kp3 c oc (hIc y o c hyσ hk2 a2) e1, e2⟩, fun q e => ?_⟩
            obtain ⟨z, f1, f2⟩ := a4 q e
            refine ⟨z, f1, (f2.wide (H' := D :: Ca :: I :: H) fun c q => ?_).mono fun c o q e => kp3 c o (fun z => q (by rw [z]; simp)) e⟩
            rcases List.mem_cons.mp q with rfl | q
            · exact .inr frD
            · rcases List.mem_cons.mp q with rfl | q
              · exact .inr frC
              · exact .inl q
      have hvl3 : VL (D :: Ca :: I :: H) h3 ys (((ps.take i).filter b).map f) := hvl.mono fun c o q e => k3 c o (fun z => q (by rw [z]; simp)) (k2' c o (fun z => q (by rw [z]; simp)) e)
      have hpl3 : h3.PlainList D ys.toArray := hpl.at fun o e => k3 _ o hDC (k2' _ o nID e)
      have tk1 : ps.take (i + 1) = ps.take i ++ [p] := by rw [List.take_add_one, hp]; rfl
      obtain ⟨evT, evE⟩ := ev p (List.mem_of_getElem? hp) (closF env scope.names []) Ca
      refine evT A _ _ _ _ rm CE live3 fun h4 tk4 k4 => ?_
      cases hb : b p with
      | false =>
        rw [if_neg (by simp)]
        refine ⟨ps.length - (i + 1), by omega, i + 1, h4, tk4, ys, _, rfl, hlt, rfl, wk.frame _ _ _ st3 fun c _ o e => k4 c o e, hpl3.at fun o e => k4 _ o e, hns3.keeps k4, ?_, fun c o q e => k4 c o (kp3 c o q e)⟩
        rw [tk1, List.filter_append, List.map_append]
        simpa [hb] using hvl3.ext k4
      | true =>
        rw [if_pos rfl]
        refine evE hb A _ _ _ _ rm (CE.ext' k4) (live3.ext k4) fun u h5 tk5 k5 hu => ?_
        have k35 : Ext h3 h5 := k4.trans k5
        have hlen := hvl3.length
        have hsz' : ys.toArray.size ≤ sizeLine := by
          rw [List.size_toArray, hlen, List.length_map]
          have e1 : ((ps.take i).filter b).length ≤ (ps.take i).length := List.length_filter_le _ _
          have e2 : (ps.take i).length ≤ ps.length := by rw [List.length_take]; omega
          omega
        refine wpAny_list_append_plain (hsz := hsz') (hpl3.at fun o e => k35 _ o e) fun h6 hpl6 hsb6 => ?_
        have k6 : ∀ c o, c ≠ D → h5.get? c = some o → h6.get? c = some o := fun c o q e => hsb6.extBut c o q e
        refine ⟨ps.length - (i + 1), by omega, i + 1, h6, tk5, ys ++ [u], _, rfl, hlt, rfl, wk.frame _ _ _ st3 fun c q o e => k6 c o (hfpC c q).1 (k35 c o e), ?_, (hns3.keeps k35).sameBut hsb6 (Ne.symm hDC), ?_, fun c o q e => k6 c o (neD e) (k35 c o (kp3 c o q e))⟩
        · simpa using hpl6
        · rw [tk1, List.filter_append, List.map_append]
          simp only [List.filter_cons, hb, if_true, List.filter_nil, List.map_cons, List.map_nil]
          exact ((hvl3.ext k35).append (.cons hu .nil)).mono fun c o q e => k6 c o (fun z => q (by rw [z]; simp)) e
    · obtain rfl : i = ps.length := by omega
      refine wk.done _ _ _ st fun h2 tk2 k2 => ?_
      have hIo : ∃ o, s₂.heap.get? I = some o := hIl
      have nID : D ≠ I := fun z => by obtain ⟨o, e⟩ := hIo; exact neD e z.symm
      have nIC : Ca ≠ I := fun z => by obtain ⟨o, e⟩ := hIo; exact neC e z.symm
      have k2' : ∀ c o, c ≠ I → h'.get? c = some o → h2.get? c = some o := fun c o q e => k2 c o (fun z => q (List.mem_singleton.mp z)) e
      rw [List.take_length] at hvl
      refine hRR D Ca h2 tk2 m' frD frC hDC (let ⟨o, es, ep, a, r⟩ := hns; ⟨o, es, ep, k2' _ _ nIC a, r⟩) (.list (fun q => ?_) (hpl.at fun o e => k2' _ o nID e) ((hvl.mono fun c o q e => k2' c o (fun z => q (by rw [z]; simp)) e).weak fun c q => ?_)) fun c o q e => k2' c o q (kp c o q e)
      · rcases List.mem_cons.mp q with q | q
        · exact hDC q
        · obtain ⟨o, e⟩ := lv D (List.mem_cons_of_mem _ q); rw [frD] at e; cases e
      · rcases List.mem_cons.mp q with rfl | q
        · simp
        · simp [q]
  exact codeAny_compStart_list (loop _ rfl) (wk.self 0 _ _ _ hst₁ (loop _ rfl))

theorem EvI_core {H : List Addr} {s : Shared} {h' : Heap} {I : Addr} (C : CtxE T h₀ H env σ s.heap) (l : Live H s.heap) (k : Ext s.heap h') (fr : s.heap.get? I = none) (lv : ∃ o, h'.get? I = some o) :
    CtxE T h₀ (I :: H) env σ h' ∧ Live (I :: H) h' ∧ I ∉ H ∧ h₀.get? I = none ∧ ∀ y o c, List.Mem (y, o) σ → env.kindOf y ≠ some .local → env.cells.lookup y = some c → c ≠ I := by
  obtain ⟨m, hm, hv⟩ := C.vars
  refine ⟨(C.wide (H' := I :: H) fun c q => (List.mem_cons.mp q).elim (fun z => .inr (z ▸ fr)) .inl).ext' k, fun a q => ?_, fun q => ?_, ?_, fun y o c hy hk hc z => ?_⟩
  · rcases List.mem_cons.mp q with rfl | q
    · exact lv
    · exact l.ext k a q
  · obtain ⟨o, e⟩ := l I q; rw [fr] at e; cases e
  · cases e : h₀.get? I with
    | none => rfl
    | some o => have := C.ext _ _ e; rw [fr] at this; cases this
  · rcases hv y o hy with ⟨a, _⟩ | ⟨c', u, _, a2, ⟨oc, e1, _⟩, _⟩
    · exact hk a
    · rw [a2] at hc
      cases hc
      rw [z, fr] at e1
      cases e1

theorem comp_free {H : List Addr} {s : Shared} {scope : Scope} {fv : Sto} {x : Str} (C : CtxE T h₀ H env σ s.heap) (co : CompOk env scope σ fv x) : closureFor scope env = pure (closF env scope.names []) := by
  obtain ⟨m, hm, hv⟩ := C.vars
  refine closure_ok fun y hy hf => ?_
  obtain ⟨o, ho, hk⟩ := co.free y hy hf
  rcases hv y.1 o ho with ⟨a, _⟩ | ⟨c, u, _, a, _⟩
  · exact absurd a hk
  · rw [a]; rfl

theorem Ev_comp {elt iter : PySem.Expr} {x : Str} {px : Pos} {ifs : List PySem.Expr} {scope : Scope} {pos : Pos} {ps : List PV} {b : PV → Bool} {f : PV → PV} (fv : Sto) (hi : EvI prog w T h₀ n env σ iter ps) (hsz : ps.length ≤ sizeLine)
    (co : CompOk env scope σ fv x) (ev : ∀ p ∈ ps, ∀ cl C, EvT prog w T h₀ n (compEnvC scope cl C env) ((x, some p) :: fv) ifs (b p) ∧ (b p = true → Ev prog w T h₀ n (compEnvC scope cl C env) ((x, some p) :: fv) elt (f p)))
    (hf : ∀ v, foldedSetIterable iter env v = pure v := by intro _; rfl) :
    Ev prog w T h₀ n env σ (.ListComp elt [⟨.Name x px, iter, ifs, 0⟩] scope pos) (.list ((ps.filter b).map f)) := fun A H s Q E rm C l hQ => by
  rw [eval_ListComp]
  refine wpAny_comprehension_free (use := none) rfl hf (comp_free C co) co.kind co.names (hi A H s _ E rm C l fun I h1 t1 k1 fr ok => ?_)
  obtain ⟨C1, l1, a1, a2, a3⟩ := EvI_core C l k1 fr (let ⟨fp, P, St, wk, st0, hfp, hfl, hIl, _⟩ := ok; hIl)
  refine comp_core (RR := fun acc C => compPost (model prog w) A E none Q acc C) rm C1 l1 a1 a2 a3 ok hsz co ev ?_
  intro D Ca h' tk m' hD hC hDC hns hV kp
  refine ⟨m', hns, fun h'' hs'' => hQ (.ref D) h'' tk (fun c o e => ?_) ?_⟩
  · have hcI : c ≠ I := fun z => by rw [z, fr] at e; cases e
    have e1 := k1 c o e
    exact hs''.extBut c o (fun z => by rw [z] at e1; dsimp only at hC; rw [hC] at e1; cases e1) (kp c o hcI e1)
  · exact (hV.mono fun c o q e => hs''.extBut c o (fun z => q (by rw [z]; simp)) e).weak fun c q => List.mem_cons_of_mem _ q

theorem Ex1_assign_comp {y : Str} {py spos : Pos} {elt iter : PySem.Expr} {x : Str} {px : Pos} {ifs : List PySem.Expr} {scope : Scope} {pos : Pos} {ps : List PV} {b : PV → Bool} {f : PV → PV} {σ' : Sto} (fv : Sto)
    (hi : EvI prog w T h₀ n env σ iter ps) (hsz : ps.length ≤ sizeLine)
    (co : CompOk env scope σ fv x) (ev : ∀ p ∈ ps, ∀ cl C, EvT prog w T h₀ n (compEnvC scope cl C env) ((x, some p) :: fv) ifs (b p) ∧ (b p = true → Ev prog w T h₀ n (compEnvC scope cl C env) ((x, some p) :: fv) elt (f p)))
    (u : Upd y (.list ((ps.filter b).map f)) σ σ') (hy : Storable env y = true)
    (hsw : swapsWith (.ListComp elt [⟨.Name x px, iter, ifs, 0⟩] scope pos) (some (.Name y py)) spos.line env = pure true)
    (hf : ∀ v, foldedSetIterable iter env v = pure v := by intro _; rfl) :
    Ex1 prog w T h₀ n env σ own (.Assign [.Name y py] (.ListComp elt [⟨.Name x px, iter, ifs, 0⟩] scope pos) spos) (.next σ' own) := fun A H W s Q E rm C hQ => by
  rw [exec_Assign_Name_used _ _ _ _ hsw]
  refine wpAny_bind (wpAny_standAt (wpAny_bind ?_))
  show wpAny _ A (do let _ ← comprehension (.ListComp elt [⟨.Name x px, iter, ifs, 0⟩] scope pos) scope env _ (newList []) false (eval iter env) (some (assign (.Name y py) env))) _ _ s
  refine wpAny_bind (wpAny_mono (wpAny_comprehension_free (use := some (assign (.Name y py) env)) (Q := fun _ s' => Q .next s') rfl hf (comp_free C.E co) co.kind co.names
    (hi A (W ++ H) s _ E rm C.E C.L fun I h1 t1 k1 fr ok => ?_)) (fun _ s' hq => wpAny_pure (wpAny_pure hq)) fun _ _ e => e)
  obtain ⟨C1, l1, a1, a2, a3⟩ := EvI_core C.E C.L k1 fr (let ⟨fp, P, St, wk, st0, hfp, hfl, hIl, _⟩ := ok; hIl)
  refine comp_core (RR := fun acc C => compPost (model prog w) A E (some (assign (.Name y py) env)) (fun _ s' => Q .next s') acc C) rm C1 l1 a1 a2 a3 ok hsz co ev ?_
  intro D Ca h' tk m' hD hC hDC hns hV kp
  have frC : s.heap.get? Ca = none := by
    cases e : s.heap.get? Ca with
    | none => rfl
    | some o => have := k1 _ _ e; dsimp only at hC; rw [hC] at this; cases this
  have kx : Ext s.heap h' := fun c o e => kp c o (fun z => by rw [z, fr] at e; cases e) (k1 c o e)
  have CC : Ctx T h₀ (Ca :: H) W env σ own h' := C.wideI frC kx (let ⟨o, _, _, e, _⟩ := hns; ⟨o, e⟩)
  have nCW : Ca ∉ W := fun q => CC.D Ca q List.mem_cons_self
  have nCH : Ca ∉ H := fun q => by obtain ⟨o, e⟩ := C.L Ca (List.mem_append_right _ q); rw [frC] at e; cases e
  have hcC : ∀ z c, env.cells.lookup z = some c → c ≠ Ca := fun z c e q => by
    obtain ⟨o, e2⟩ := C.L c (C.C z c e); rw [q, frC] at e2; cases e2
  have hC0 : h₀.get? Ca = none := by
    cases e : h₀.get? Ca with
    | none => rfl
    | some o => have := C.E.ext _ _ e; rw [frC] at this; cases this
  have hV' : V (W ++ Ca :: H) h' (.ref D) (.list ((ps.filter b).map f)) := hV.weak fun c q => by
    rcases List.mem_append.mp q with q | q
    · exact List.mem_cons_of_mem _ (List.mem_append_left _ q)
    · rcases List.mem_cons.mp q with rfl | q
      · exact List.mem_cons_self
      · exact List.mem_cons_of_mem _ (List.mem_append_right _ q)
  show wpAny _ A (assign (.Name y py) env (.ref D)) _ _ _
  refine wpAny_assign_Name (store_ CC u hy hV' fun h2 tk2 k2 _ C2 => ?_)
  refine ⟨m', let ⟨o, es, ep, a, r⟩ := hns; ⟨o, es, ep, k2 _ _ nCW a, r⟩, fun h3 hs3 => ?_⟩
  have k3 : KeepsOff [Ca] h2 h3 := fun c o q e => hs3.extBut c o (fun z => q (by rw [z]; simp)) e
  refine hQ .next h3 _ (fun c o q e => k3 c o (fun z => ?_) (k2 c o q (kx c o e))) ⟨rfl, W, fun _ q => q, fun _ q => .inl q, C2.letGo nCH hC0 hcC k3⟩
  rw [List.mem_singleton.mp z, frC] at e
  cases e
end
end Mine
end

section
open PySem PySem.W PyProof.Rows
set_option Elab.async false
set_option maxRecDepth 100000
set_option linter.unusedVariables false
namespace Mine
section
variable {prog : Program} {w : World} {T : Tabs} {h₀ : Heap} {n : Nat} {env : Env} {σ : Sto} {own : Own}

theorem VL.of {H : List Addr} {h : Heap} : ∀ {vs : List Value} {ps : List PV}, vs.length = ps.length → (∀ (j : Nat) (v : Value), vs[j]? = some v → ∃ p : PV, ps[j]? = some p ∧ V H h v p) → VL H h vs ps
  | [], [], _, _ => .nil
  | [], _ :: _, e, _ => by simp at e
  | _ :: _, [], e, _ => by simp at e
  | v :: vs, p :: ps, e, f => by
    obtain ⟨q, h1, h2⟩ := f 0 v rfl
    simp only [List.getElem?_cons_zero, Option.some.injEq] at h1
    subst h1
    exact .cons h2 (VL.of (by simpa using e) fun j u hj => f (j + 1) u (by simpa using hj))
inductive Truth : PV → Bool → Prop
  | bool (b : Bool) : Truth (.bool b) b
  | int (i : Int) : Truth (.int i) (i != 0)
  | str (x : Str) (h : x.length < 2 ^ 62) : Truth (.str x) (x.length != 0)
  | list (l : List PV) (h : l.length < 2 ^ 62) : Truth (.list l) (!l.isEmpty)
theorem truthy_ {A : Around} {H : List Addr} {s : Shared} {v : Value} {p : PV} {b : Bool} {Q : Bool → Shared → Prop} {E : Value → Shared → Prop} (hv : V H s.heap v p) (t : Truth p b) (hQ : ∀ tk, Q b { s with toks := tk }) : wpAny (model prog w) A (truthy v) Q E s := by
  cases t with
  | bool b => obtain rfl := hv.bool_inv; exact wpAny_truthy_bool (hQ s.toks)
  | int i => obtain ⟨t, rfl⟩ := hv.int_inv; exact P.truthy_int (hQ s.toks)
  | str x h =>
    obtain ⟨t, rfl⟩ := hv.str_inv
    refine P.truthy_str (by omega) ?_
    rw [show ((x.length : Int) != 0) = (x.length != 0) by rw [Bool.eq_iff_iff, bne_iff_ne, bne_iff_ne]; omega]
    exact hQ _
  | list l h =>
    obtain ⟨a, vs, rfl, _, pl, lv⟩ := hv.list_inv
    refine wpAny_truthy_list pl.isList (by rw [List.size_toArray, lv.length]; omega) ?_
    have e := lv.length
    rw [show (!vs.toArray.isEmpty) = (!l.isEmpty) by cases vs <;> cases l <;> simp_all]
    exact hQ _
theorem EvB_val {e : PySem.Expr} {p : PV} {b : Bool} (he : Ev prog w T h₀ n env σ e p) (t : Truth p b) (hw : ∀ whole, isTrue e env whole = (do let v ← whole; standAt e.pos; holding [v] (truthy v)) := by intro _; rfl) : EvB prog w T h₀ n env σ e b := fun A H s Q E rm C l hQ =>
  wpAny_isTrue_value (he A H s _ E rm C l fun v h1 t1 k1 v1 => truthy_ v1 t fun tk => hQ h1 tk k1) (hw _)
theorem EvB_not {e : PySem.Expr} {pos : Pos} {b : Bool} (he : EvB prog w T h₀ n env σ e b) : EvB prog w T h₀ n env σ (.UnaryOp .Not e pos) (!b) := fun A H s Q E rm C l hQ => wpAny_isTrue_Not (he A H s _ E rm C l fun h1 t1 k1 => hQ h1 t1 k1)
def EvA (prog : Program) (w : World) (T : Tabs) (h₀ : Heap) (n : Nat) (env : Env) (σ : Sto) (op : BoolOp) (es : List PySem.Expr) (b : Bool) : Prop :=
  ∀ (A : Around) (H : List Addr) (s : Shared) (Q : Bool → Shared → Prop) (E : Value → Shared → Prop), Room n A → CtxE T h₀ H env σ s.heap → Live H s.heap →
    (∀ h' tk, Ext s.heap h' → Q b { s with heap := h', toks := tk }) → wpAny (model prog w) A (allTrue op es env) Q E s
theorem EvA_and_nil : EvA prog w T h₀ n env σ .And [] true := fun A H s Q E rm C l hQ => wpAny_allTrue_And_nil (hQ _ s.toks (.refl _))
theorem EvA_or_nil : EvA prog w T h₀ n env σ .Or [] false := fun A H s Q E rm C l hQ => wpAny_allTrue_Or_nil (hQ _ s.toks (.refl _))
theorem EvA_and {e : PySem.Expr} {es : List PySem.Expr} {b c : Bool} (he : EvB prog w T h₀ n env σ e b) (hr : b = true → EvA prog w T h₀ n env σ .And es c) (hc : b = false → c = false) : EvA prog w T h₀ n env σ .And (e :: es) c := fun A H s Q E rm C l hQ =>
  wpAny_allTrue_And_cons (he A H s _ E rm C l fun h1 t1 k1 => by
    cases b with
    | true => exact hr rfl A H _ _ _ rm (C.ext' k1) (l.ext k1) fun h2 t2 k2 => hQ h2 t2 (k1.trans k2)
    | false => have := hc rfl; subst this; exact hQ h1 t1 k1)
theorem EvA_or {e : PySem.Expr} {es : List PySem.Expr} {b c : Bool} (he : EvB prog w T h₀ n env σ e b) (hr : b = false → EvA prog w T h₀ n env σ .Or es c) (hc : b = true → c = true) : EvA prog w T h₀ n env σ .Or (e :: es) c := fun A H s Q E rm C l hQ =>
  wpAny_allTrue_Or_cons (he A H s _ E rm C l fun h1 t1 k1 => by
    cases b with
    | false => exact hr rfl A H _ _ _ rm (C.ext' k1) (l.ext k1) fun h2 t2 k2 => hQ h2 t2 (k1.trans k2)
    | true => have := hc rfl; subst this; exact hQ h1 t1 k1)
theorem EvB_op {op : BoolOp} {es : List PySem.Expr} {pos : Pos} {b : Bool} (h : EvA prog w T h₀ n env σ op es b) : EvB prog w T h₀ n env σ (.BoolOp op es pos) b := fun A H s Q E rm C l hQ => wpAny_isTrue_BoolOp (h A H s Q E rm C l hQ)
theorem Ev_if {test body orelse : PySem.Expr} {pos : Pos} {b : Bool} {p : PV} (ht : EvB prog w T h₀ n env σ test b) (h1 : b = true → Ev prog w T h₀ n env σ body p) (h2 : b = false → Ev prog w T h₀ n env σ orelse p) : Ev prog w T h₀ n env σ (.IfExp test body orelse pos) p := fun A H s Q E rm C l hQ =>
  wpAny_IfExp (ht A H s _ E rm C l fun h1' t1 k1 => by
    cases b with
    | true => exact h1 rfl A H _ _ _ rm (C.ext' k1) (l.ext k1) fun v h2' t2 k2 hv => hQ v h2' t2 (k1.trans k2) hv
    | false => exact h2 rfl A H _ _ _ rm (C.ext' k1) (l.ext k1) fun v h2' t2 k2 hv => hQ v h2' t2 (k1.trans k2) hv)
theorem Pur_len_list {l : List PV} (h : l.length < 2 ^ 62) : Pur prog w h₀ n [.list l] (fun us => call (.builtin "len") us) (.int l.length) := fun A H s us Q E rm _ hv lv hQ => by
  obtain ⟨_, rfl, v1⟩ := hv.one
  obtain ⟨a, vs, rfl, _, pl, l1⟩ := v1.list_inv
  refine Calls.call_len_list pl.isList (by rw [List.size_toArray, l1.length]; omega) ?_
  rw [show ((vs.toArray.size : Nat) : Int) = (l.length : Int) by rw [List.size_toArray, l1.length]]
  exact hQ _ _ _ (.refl _) (.int _ _)
theorem Pur_len_str {x : Str} (h : x.length < 2 ^ 62) : Pur prog w h₀ n [.str x] (fun us => call (.builtin "len") us) (.int x.length) := fun A H s us Q E rm _ hv lv hQ => by
  obtain ⟨_, rfl, v1⟩ := hv.one
  obtain ⟨t, rfl⟩ := v1.str_inv
  exact P.len_str (by omega) (hQ _ _ _ (.refl _) (.int _ _))
theorem Pur_chr {i : Int} (h : (decide (i < 0) || decide (i > 0x10FFFF)) = false) : Pur prog w h₀ n [.int i] (fun us => call (.builtin "chr") us) (.str ⟨#[i.toNat]⟩) := fun A H s us Q E rm _ hv lv hQ => by
  obtain ⟨_, rfl, v1⟩ := hv.one
  obtain ⟨t, rfl⟩ := v1.int_inv
  exact P.chr_of_int h (hQ _ _ _ (.refl _) (.str _ _))
theorem Pur_ord {c : Nat} : Pur prog w h₀ n [.str ⟨#[c]⟩] (fun us => call (.builtin "ord") us) (.int c) := fun A H s us Q E rm _ hv lv hQ => by
  obtain ⟨_, rfl, v1⟩ := hv.one
  obtain ⟨t, rfl⟩ := v1.str_inv
  exact P.ord_of_char (hQ _ _ _ (.refl _) (.int _ _))
theorem Pur_range1 {b : Int} : Pur prog w h₀ n [.int b] (fun us => call (.type "range") us) (.rng 0 b) := fun A H s us Q E rm _ hv lv hQ => by
  obtain ⟨_, rfl, v1⟩ := hv.one
  obtain ⟨t, rfl⟩ := v1.int_inv
  exact call_range_1 (hQ _ _ _ (Ext.push _ _) (.rng lv.off (IsRange.new ..)))
theorem Pur_range2 {a b : Int} : Pur prog w h₀ n [.int a, .int b] (fun us => call (.type "range") us) (.rng a b) := fun A H s us Q E rm _ hv lv hQ => by
  obtain ⟨_, _, rfl, v1, v2⟩ := hv.two
  obtain ⟨t, rfl⟩ := v1.int_inv
  obtain ⟨u, rfl⟩ := v2.int_inv
  exact call_range_2 (hQ _ _ _ (Ext.push _ _) (.rng lv.off (IsRange.new ..)))
theorem Pur_list_rng {a b : Int} (hs : Builtin.Range.small a b 1 = true) (hb : b - a ≤ 2 ^ 20) : Pur prog w h₀ n [.rng a b] (fun us => call (.type "list") us) (.list (rngL a b)) := fun A H s us Q E rm _ hv lv hQ => by
  obtain ⟨_, rfl, v1⟩ := hv.one
  obtain ⟨r, t, u, y, rfl, hr, hr'⟩ := v1.rng_inv
  have hsize : Builtin.Range.rangeSize a b 1 = ((rngL a b).length : Int) := by
    rw [rngL_length, rangeSize_one]
    split <;> omega
  refine call_list_range rm.hh hr' hs hsize (by rw [rngL_length]; omega) fun h' tk acc c' k ho hi => hQ _ _ _ (fun b o e => k b o e) (.list lv.off (vs := acc.toList) ⟨c', by rw [Array.toArray_toList]; exact ho⟩ ?_)
  refine VL.of (by rw [Array.length_toList, hi.1]) fun j v hj => ?_
  have hj' : acc[j]? = some v := by rw [← Array.getElem?_toList]; exact hj
  obtain ⟨t, rfl⟩ := hi.2 j v hj'
  have hlt : j < acc.size := by
    obtain ⟨z, _⟩ := Array.getElem?_eq_some_iff.mp hj'
    exact z
  rw [hi.1, rngL_length] at hlt
  refine ⟨.int (a + j * 1), ?_, .int _ _⟩
  unfold rngL
  rw [List.getElem?_map, List.getElem?_range hlt, Int.mul_one]
  rfl
theorem sum_preSum : ∀ (l : List (Int × Tok)), PySem.preSum (numAt l.toArray) l.length = (l.map (·.1)).sum := fun l => by
  have := preSum_eq l.toArray l.length
  rw [this, List.take_of_length_le (by simp)]
theorem VL.intsOf {H : List Addr} {h : Heap} : ∀ {vs : List Value} {l : List Int}, VL H h vs (l.map .int) → ∃ xs : List (Int × Tok), vs = xs.map (fun p => .int p.1 p.2) ∧ xs.map (·.1) = l
  | _, [], .nil => ⟨[], rfl, rfl⟩
  | _, i :: l, .cons a r => by
    obtain ⟨t, rfl⟩ := a.int_inv
    obtain ⟨xs, rfl, rfl⟩ := VL.intsOf r
    exact ⟨(i, t) :: xs, rfl, rfl⟩
theorem Pur_sum {l : List Int} : Pur prog w h₀ n [.list (l.map .int)] (fun us => call (.builtin "sum") us) (.int l.sum) := fun A H s us Q E rm _ hv lv hQ => by
  obtain ⟨_, rfl, v1⟩ := hv.one
  obtain ⟨a, vs, rfl, _, pl, l1⟩ := v1.list_inv
  obtain ⟨xs, rfl, rfl⟩ := l1.intsOf
  have e : (xs.map (fun p => Value.int p.1 p.2)).toArray = intItems xs.toArray := by simp [intItems]
  refine sum_intListG rm.hh (e ▸ pl.isList) fun h' tk t' k => ?_
  rw [List.size_toArray, sum_preSum]
  exact hQ _ _ _ (fun b o e => k b o e) (.int _ _)
theorem Pur_divmod {a b : Int} (hb : b ≠ 0) (hp : Builtin.divisionGoesByPylong a b = false) : Pur prog w h₀ n [.int a, .int b] (fun us => call (.builtin "divmod") us) (.tup [.int (a.fdiv b), .int (a.fmod b)]) := fun A H s us Q E rm _ hv lv hQ => by
  obtain ⟨_, _, rfl, v1, v2⟩ := hv.two
  obtain ⟨t, rfl⟩ := v1.int_inv
  obtain ⟨u, rfl⟩ := v2.int_inv
  refine divmod_int (hp := .inl hp) hb (hQ _ _ _ (Ext.push _ _) (.tup lv.off ⟨_, Heap.get?_push_size _ rfl, rfl, _, rfl⟩ (.cons (.int _ _) (.cons (.int _ _) .nil))))

theorem VL.strsOf {H : List Addr} {h : Heap} : ∀ {vs : List Value} {l : List Str}, VL H h vs (l.map .str) → ∃ xs : List (Str × Tok), vs = strValues xs ∧ xs.map (·.1) = l
  | _, [], .nil => ⟨[], rfl, rfl⟩
  | _, i :: l, .cons a r => by
    obtain ⟨t, rfl⟩ := a.str_inv
    obtain ⟨xs, rfl, rfl⟩ := VL.strsOf r
    exact ⟨(i, t) :: xs, rfl, rfl⟩
theorem Ev_join {o e : PySem.Expr} {apos pos : Pos} {x : Str} {l : List Str} (ho : Ev prog w T h₀ n env σ o (.str x)) (he : Ev prog w T h₀ n env σ e (.list (l.map .str))) (hj : JoinOk x l = true)
    (hbase : attributeBase o (Str.ofString "join") env (eval o env) = eval o env) (hs : starEach [e] env = [(false, eval e env)]) (hline : (apos.endLine == pos.line) = true) :
    Ev prog w T h₀ n env σ (.Call (.Attribute o (Str.ofString "join") apos) [e] [] pos) (.str (Txt.join x l)) := fun A H s Q E rm C lv hQ =>
  Call_method1 hbase hs hline (ho A H s _ E rm C lv fun v h1 t1 k1 v1 => by
    obtain ⟨t, rfl⟩ := v1.str_inv
    refine SB.join (he A H _ _ E rm (C.ext' k1) (lv.ext k1) fun u h2 t2 k2 v2 => ?_)
    obtain ⟨a, vs, rfl, _, pl, l1⟩ := v2.list_inv
    obtain ⟨xs, rfl, rfl⟩ := l1.strsOf
    exact ⟨a, xs, rfl, pl.isList, _, rfl, hj, fun t' k => hQ _ _ _ (k1.trans k2) (.str _ _)⟩)
theorem Ev_bitlen {o : PySem.Expr} {apos pos : Pos} {i : Int} (ho : Ev prog w T h₀ n env σ o (.int i))
    (hbase : attributeBase o (Str.ofString "bit_length") env (eval o env) = eval o env) (hline : (apos.endLine == pos.line) = true) :
    Ev prog w T h₀ n env σ (.Call (.Attribute o (Str.ofString "bit_length") apos) [] [] pos) (.int (Builtin.Int.intBits i : Nat)) := fun A H s Q E rm C lv hQ =>
  Call_method0 hbase hline (ho A H s _ E rm C lv fun v h1 t1 k1 v1 => by
    obtain ⟨t, rfl⟩ := v1.int_inv
    exact ⟨"int", _, F.plainAttrs_int, F.slot_int_bit_length, F.type_int_bit_length, typeIs_int _ _ _, (fun _ e => nomatch e), method0_gives F.slot_int_bit_length F.entry_int_bit_length (typeIs_int _ _ _) (F.args_int_bit_length_1 _) (AutoIntG2.int_bit_length_int_0 i t) (hQ _ _ _ k1 (.int _ _))⟩)
end
end Mine
end

section
open PySem PySem.W PyProof.Rows
set_option Elab.async false
set_option maxRecDepth 100000
namespace Mine
abbrev P0 : Program := PySem.Challenge.pw_ku0017_01
def body0 : List Stmt := behindTheImports P0
def benv : Env := { scope := P0.main.scope, locals := mainNs, globals := mainNs, cells := [], code := .ref 13, frame := some 14 }
def bcode : Code := .body body0 benv
abbrev pos0 : Pos := { line := 0, col := 0, endLine := 0, endCol := 0 }
abbrev B0 : List Frame := [topFrame pos0]
abbrev ann0 : Option Value := some (.ref 6)

open PySem.W.Fast in
noncomputable abbrev goT := tw10295753902157049106
open PySem.W.Fast in
noncomputable abbrev runT := tw10110043849684766642
open PySem.W.Fast in
noncomputable abbrev tabT := tw14364793385576792824

noncomputable def stOf : Option (SharedT × Thread) → SharedT
  | some (s, _) => s
  | none => ⟨.nil, 0, default, #[], boot_drawn, 0, default⟩
noncomputable def thOf : Option (SharedT × Thread) → Thread
  | some (_, t) => t
  | none => topStub P0
noncomputable def os0 : OsState := (start (opening P0)).1.os
noncomputable def wOf (P : Params) : World := ⟨fun _ _ => 0, P⟩
noncomputable abbrev wf (P : Params) : World := ((wOf P).withFollow "comprehension-iter-twice" false).withFollow "special-get-raises" false

noncomputable def preOut (P : Params) : Option (Shared × Thread) := PySem.W.Fast.tw15667345088766844465 tabT P0 (wOf P) 11 ann0 12 ⟨boot_heap P, #[], boot_drawn, boot_toks, os0⟩ (topStub P0)
noncomputable def preHeap (P : Params) : Heap := match preOut P with | some (s, _) => s.heap | none => boot_heap P
def treeN (f : Nat → Obj) (n : Nat) : Nat → Nat → Nat → BT
  | 0, _, _ => .nil
  | k + 1, a, b => match Nat.blt b n with
    | true => .node (f b) (treeN f n k (2 * a) (a + b)) (treeN f n k (2 * a) (2 * a + b))
    | false => .nil
noncomputable def sA (P : Params) (os : OsState) : SharedT := { tree := treeN (fun i => (preHeap P).objs.toList.getD i { cls := .none }) 15 6 1 0, n := 15, life := (preHeap P).life, gens := #[], drawn := boot_drawn, toks := 187, os := os }
noncomputable def tA : Thread := piecesOf body0 benv bcode pos0 B0

noncomputable def r1 (P : Params) : Option (SharedT × Thread) := goT tabT P0 (wf P) 11 ann0 1 107 (sA P os0) tA
noncomputable def b1 (P : Params) : Nat → Obj := fun i => ((stOf (r1 P)).tree.get i).getD { cls := .none }
def hexD (n : Nat) : Nat := match Nat.blt n 10 with | true => 48 + n | false => 55 + n
def hexS (j : Nat) : Str := ⟨#[61, hexD (j / 16), hexD (j % 16)]⟩
def hexV (j : Nat) : Value := .str (hexS j) (194 + 4 * j + 3)
def hexF : Nat → Nat → List Value
  | 0, _ => []
  | n + 1, j => hexV j :: hexF n (j + 1)
def cObj (b : Nat → Obj) (i : Nat) (j : Nat) : Obj := match Nat.beq j 16 with
  | true => { cls := .type "range_iterator", data := .fields #[.int (Int.ofNat i) 0, .int (Int.ofNat (256 - i)) 0, .int 1 0] }
  | false => match Nat.beq j 17 with
    | true => { cls := .type "list", data := .seq ⟨hexF i 0⟩ i }
    | false => match Nat.beq j 18 with
      | true => match b 18 with
        | { cls := c, dict := d, data := .dict ⟨e :: _⟩ n, slots := s } => { cls := c, dict := d, data := .dict ⟨[{ e with val := .int (Int.ofNat (i - 1)) (194 + 4 * (i - 1)) }]⟩ n, slots := s }
        | o => o
      | false => b j
noncomputable def cS (P : Params) (os : OsState) (i : Nat) : SharedT := { tree := treeN (cObj (b1 P) i) 19 6 1 0, n := 19, life := (stOf (r1 P)).life, gens := #[], drawn := boot_drawn, toks := 194 + 4 * i, os := os }
noncomputable def cT (P : Params) : Thread := thOf (r1 P)

def Q1false (w : World) : Prop := ∀ os : OsState, goT tabT P0 (w.withFollow "comprehension-iter-twice" false) 11 ann0 1 107 (sA (w.withFollow "comprehension-iter-twice" false).params os) tA =
    some (cS (w.withFollow "comprehension-iter-twice" false).params os 1, cT (w.withFollow "comprehension-iter-twice" false).params)
theorem r1_false0 (w : World) : Q1false (w.withFollow "special-get-raises" false) := by
  intro os
  kernel_rfl
theorem r1_false1 (w : World) : Q1false (w.withFollow "special-get-raises" true) := by
  intro os
  kernel_rfl
theorem r1_false (w : World) : Q1false w := byRow2 "special-get-raises" (P := Q1false) r1_false0 r1_false1 w
def Q1true (w : World) : Prop := ∀ os : OsState, goT tabT P0 (w.withFollow "comprehension-iter-twice" true) 11 ann0 1 97 (sA (w.withFollow "comprehension-iter-twice" true).params os) tA =
    some (cS (w.withFollow "comprehension-iter-twice" true).params os 1, cT (w.withFollow "comprehension-iter-twice" true).params)
theorem r1_true0 (w : World) : Q1true (w.withFollow "special-get-raises" false) := by
  intro os
  kernel_rfl
theorem r1_true1 (w : World) : Q1true (w.withFollow "special-get-raises" true) := by
  intro os
  kernel_rfl
theorem r1_true (w : World) : Q1true w := byRow2 "special-get-raises" (P := Q1true) r1_true0 r1_true1 w
end Mine
end

section
open PySem PySem.W PyProof.Rows
set_option Elab.async false
set_option maxRecDepth 100000
namespace Mine
theorem cc1 (w : World) (os : OsState) : goT tabT P0 w 11 ann0 1 1184 (cS w.params os 1) (cT w.params) = some (cS w.params os 33, cT w.params) := by
  kernel_rfl
theorem cc33 (w : World) (os : OsState) : goT tabT P0 w 11 ann0 1 1184 (cS w.params os 33) (cT w.params) = some (cS w.params os 65, cT w.params) := by
  kernel_rfl
theorem cc65 (w : World) (os : OsState) : goT tabT P0 w 11 ann0 1 1184 (cS w.params os 65) (cT w.params) = some (cS w.params os 97, cT w.params) := by
  kernel_rfl
theorem cc97 (w : World) (os : OsState) : goT tabT P0 w 11 ann0 1 1184 (cS w.params os 97) (cT w.params) = some (cS w.params os 129, cT w.params) := by
  kernel_rfl
theorem cc129 (w : World) (os : OsState) : goT tabT P0 w 11 ann0 1 1184 (cS w.params os 129) (cT w.params) = some (cS w.params os 161, cT w.params) := by
  kernel_rfl
theorem cc161 (w : World) (os : OsState) : goT tabT P0 w 11 ann0 1 1184 (cS w.params os 161) (cT w.params) = some (cS w.params os 193, cT w.params) := by
  kernel_rfl
theorem cc193 (w : World) (os : OsState) : goT tabT P0 w 11 ann0 1 1184 (cS w.params os 193) (cT w.params) = some (cS w.params os 225, cT w.params) := by
  kernel_rfl
theorem cc225 (w : World) (os : OsState) : goT tabT P0 w 11 ann0 1 1147 (cS w.params os 225) (cT w.params) = some (cS w.params os 256, cT w.params) := by
  kernel_rfl
end Mine
end

section
open PySem PySem.W PyProof.Rows
set_option Elab.async false
set_option maxRecDepth 100000
namespace Mine
noncomputable def r2 (P : Params) : Option (SharedT × Thread) := goT tabT P0 (wf P) 11 ann0 1 224 (cS P os0 256) (cT P)
noncomputable def b2 (P : Params) : Nat → Obj := fun i => ((stOf (r2 P)).tree.get i).getD { cls := .none }
def setF (bs : List Nat) (k t : Nat) (i : Nat) : Value := match bs, k with
  | b :: r, k + 1 => match Nat.beq b i with
    | true => .str ⟨#[i]⟩ t
    | false => setF r k (t + 3) i
  | _, _ => hexV i
def setL (bs : List Nat) (k t : Nat) : Nat → Nat → List Value
  | 0, _ => []
  | n + 1, i => setF bs k t i :: setL bs k t n (i + 1)
def lastVal (v : Value) : List DictEntry → List DictEntry
  | [] => []
  | [e] => [{ e with val := v }]
  | e :: r => e :: lastVal v r
def atIx (i : Int) : Obj → Obj
  | { cls := c, dict := d, data := .fields ⟨x :: _⟩, slots := s } => { cls := c, dict := d, data := .fields ⟨[x, .int i 0]⟩, slots := s }
  | o => o
def withLast (v : Value) : Obj → Obj
  | { cls := c, dict := d, data := .dict ⟨es⟩ n, slots := s } => { cls := c, dict := d, data := .dict ⟨lastVal v es⟩ n, slots := s }
  | o => o
def fObj (b : Nat → Obj) (la ia : Nat) (bs : List Nat) (t k : Nat) (j : Nat) : Obj := match Nat.beq j 3 with
  | true => withLast (.int (Int.ofNat (bs.getD (k - 1) 0)) (t + 3 * (k - 1))) (b 3)
  | false => match Nat.beq j la with
    | true => { cls := .type "list", data := .seq ⟨setL bs k (t + 2) 256 0⟩ 0 }
    | false => match Nat.beq j ia with
      | true => atIx (Int.ofNat k) (b ia)
      | false => b j
def bs1 : List Nat := [45, 33, 42, 43, 47] ++ List.range' 97 26 ++ List.range' 65 26 ++ List.range' 48 10
noncomputable def fS (P : Params) (os : OsState) (k : Nat) : SharedT := { tree := treeN (fObj (b2 P) 22 25 bs1 1238 k) 26 6 1 0, n := 26, life := (stOf (r2 P)).life, gens := #[], drawn := boot_drawn, toks := 1238 + 3 * k, os := os }
noncomputable def fT (P : Params) : Thread := thOf (r2 P)
def Q2 (w : World) : Prop := ∀ os : OsState, goT tabT P0 w 11 ann0 1 224 (cS w.params os 256) (cT w.params) = some (fS w.params os 1, fT w.params)
theorem r2_0 (w : World) : Q2 (w.withFollow "special-get-raises" false) := by
  intro os
  kernel_rfl
theorem r2_1 (w : World) : Q2 (w.withFollow "special-get-raises" true) := by
  intro os
  kernel_rfl
theorem r2_at (w : World) : Q2 w := byRow2 "special-get-raises" (P := Q2) r2_0 r2_1 w
theorem ff1 (w : World) (os : OsState) : goT tabT P0 w 11 ann0 1 1485 (fS w.params os 1) (fT w.params) = some (fS w.params os 34, fT w.params) := by
  kernel_rfl
theorem ff34 (w : World) (os : OsState) : goT tabT P0 w 11 ann0 1 1485 (fS w.params os 34) (fT w.params) = some (fS w.params os 67, fT w.params) := by
  kernel_rfl
end Mine
end

section
open PySem PySem.W PyProof.Rows
set_option Elab.async false
set_option maxRecDepth 100000
namespace Mine
noncomputable def r3 (P : Params) : Option (SharedT × Thread) := goT tabT P0 (wf P) 11 ann0 1 96 (fS P os0 67) (fT P)
noncomputable def b3 (P : Params) : Nat → Obj := fun i => ((stOf (r3 P)).tree.get i).getD { cls := .none }
def bs2 : List Nat := [32, 33, 34, 35, 36, 37, 38, 39, 40, 41, 42, 43, 44, 45, 46, 47] ++ List.range' 48 10 ++ [58, 59, 60, 62, 63, 64] ++ List.range' 65 26 ++ [91, 92, 93, 94, 95, 96] ++ List.range' 97 26 ++ [123, 124, 125, 126, 9]
noncomputable def gS (P : Params) (os : OsState) (k : Nat) : SharedT := { tree := treeN (fObj (b3 P) 24 28 bs2 1443 k) 29 6 1 0, n := 29, life := (stOf (r3 P)).life, gens := #[], drawn := boot_drawn, toks := 1443 + 3 * k, os := os }
noncomputable def gT (P : Params) : Thread := thOf (r3 P)
def Q3 (w : World) : Prop := ∀ os : OsState, goT tabT P0 w 11 ann0 1 96 (fS w.params os 67) (fT w.params) = some (gS w.params os 1, gT w.params)
theorem r3_0 (w : World) : Q3 (w.withFollow "special-get-raises" false) := by
  intro os
  kernel_rfl
theorem r3_1 (w : World) : Q3 (w.withFollow "special-get-raises" true) := by
  intro os
  kernel_rfl
theorem r3_at (w : World) : Q3 w := byRow2 "special-get-raises" (P := Q3) r3_0 r3_1 w
theorem gg1 (w : World) (os : OsState) : goT tabT P0 w 11 ann0 1 1440 (gS w.params os 1) (gT w.params) = some (gS w.params os 33, gT w.params) := by
  kernel_rfl
theorem gg33 (w : World) (os : OsState) : goT tabT P0 w 11 ann0 1 1395 (gS w.params os 33) (gT w.params) = some (gS w.params os 64, gT w.params) := by
  kernel_rfl
theorem gg64 (w : World) (os : OsState) : goT tabT P0 w 11 ann0 1 1395 (gS w.params os 64) (gT w.params) = some (gS w.params os 95, gT w.params) := by
  kernel_rfl
end Mine
end

section
open PySem PySem.W PyProof.Rows
set_option Elab.async false
set_option maxRecDepth 100000
namespace Mine
noncomputable def r4 (P : Params) : Option (Flow × SharedT × Code × Pos) := runT tabT P0 (wf P) 11 ann0 1 760 (gS P os0 95) (gT P)
noncomputable def e4 (P : Params) : SharedT := match r4 P with | some (_, s, _, _) => s | none => ⟨.nil, 0, default, #[], boot_drawn, 0, default⟩
def posE : Pos := { line := 196, col := 0, endLine := 207, endCol := 118 }
noncomputable def eS (P : Params) (os : OsState) : SharedT := { tree := (e4 P).tree, n := 144, life := (e4 P).life, gens := #[], drawn := boot_drawn, toks := 1908, os := os }
def Q4 (w : World) : Prop := ∀ os : OsState, runT tabT P0 w 11 ann0 1 760 (gS w.params os 95) (gT w.params) = some (.next, eS w.params os, bcode, posE)
theorem r4_0 (w : World) : Q4 (w.withFollow "special-get-raises" false) := by
  intro os
  kernel_rfl
theorem r4_1 (w : World) : Q4 (w.withFollow "special-get-raises" true) := by
  intro os
  kernel_rfl
theorem r4_at (w : World) : Q4 w := byRow2 "special-get-raises" (P := Q4) r4_0 r4_1 w
end Mine
end

section
open PySem PySem.W PyProof.Rows
set_option Elab.async false
set_option maxRecDepth 100000
namespace Mine
theorem go_te : segGoT = goT := PySem.W.Fast.te10295753902157049106
theorem run_te : segRunT = runT := PySem.W.Fast.te10110043849684766642
theorem tab_te : treeTable = tabT := PySem.W.Fast.te14364793385576792824
theorem seg_of {n : Nat} {w : World} {s s' : SharedT} {t t' : Thread} (h : goT tabT P0 w 11 ann0 1 n s t = some (s', t')) : segGo treeTable P0 w 11 ann0 1 n s.abs t = some (s'.abs, t') := by
  rw [← go_te, ← tab_te] at h
  exact segGo_of h
theorem end_of {n : Nat} {w : World} {s s' : SharedT} {t : Thread} {f : Flow} {c : Code} {q : Pos} (h : runT tabT P0 w 11 ann0 1 n s t = some (f, s', c, q)) : segRun treeTable P0 w 11 ann0 1 n s.abs t = some (f, s'.abs, c, q) := by
  rw [← run_te, ← tab_te] at h
  exact segRun_of h

theorem seg_mono {tb : String → Option Builtin} {p : Program} {w : World} {n₀ : Nat} {ann : Option Value} {b : Nat} (k : Nat) : ∀ (n : Nat) (s : Shared) (t : Thread) (r : Flow × Shared × Code × Pos), segRun tb p w n₀ ann b n s t = some r → segRun tb p w n₀ ann b (n + k) s t = some r
  | 0, _, _, _, h => by simp [segRun] at h
  | n + 1, s, t, r, h => by
    rw [show n + 1 + k = n + k + 1 by omega]
    unfold segRun at h ⊢
    cases he : endAt b t with
    | some f => rw [he] at h; exact h
    | none =>
      rw [he] at h
      cases hk : stepOk n₀ ann t with
      | false => rw [hk] at h; cases h
      | true =>
        rw [hk] at h
        cases hs : step (denote tb) p w s t with
        | halt o s' => rw [hs] at h; cases h
        | go s' t' => rw [hs] at h; exact seg_mono k n s' t' r h
theorem behind1 (w : World) (os : OsState) : segRun treeTable P0 w 11 ann0 1 17800 (cS w.params os 1).abs (cT w.params) = some (.next, (eS w.params os).abs, bcode, posE) := by
  have z := end_of (r4_at w os)
  replace z := seg_go (seg_of (gg64 w os)) z
  replace z := seg_go (seg_of (gg33 w os)) z
  replace z := seg_go (seg_of (gg1 w os)) z
  replace z := seg_go (seg_of (r3_at w os)) z
  replace z := seg_go (seg_of (ff34 w os)) z
  replace z := seg_go (seg_of (ff1 w os)) z
  replace z := seg_go (seg_of (r2_at w os)) z
  replace z := seg_go (seg_of (cc225 w os)) z
  replace z := seg_go (seg_of (cc193 w os)) z
  replace z := seg_go (seg_of (cc161 w os)) z
  replace z := seg_go (seg_of (cc129 w os)) z
  replace z := seg_go (seg_of (cc97 w os)) z
  replace z := seg_go (seg_of (cc65 w os)) z
  replace z := seg_go (seg_of (cc33 w os)) z
  replace z := seg_go (seg_of (cc1 w os)) z
  exact seg_mono 85 17715 _ _ _ z
def Q5 (w : World) : Prop := ∀ os : OsState, segRun treeTable P0 w 11 ann0 1 18000 (sA w.params os).abs tA = some (.next, (eS w.params os).abs, bcode, posE)
theorem r5_0 (w : World) : Q5 (w.withFollow "comprehension-iter-twice" false) := fun os => seg_mono 93 (107 + 17800) _ _ _ (seg_go (seg_of (r1_false w os)) (behind1 _ os))
theorem r5_1 (w : World) : Q5 (w.withFollow "comprehension-iter-twice" true) := fun os => seg_mono 103 (97 + 17800) _ _ _ (seg_go (seg_of (r1_true w os)) (behind1 _ os))
theorem r5_at (w : World) : Q5 w := byRow2 "comprehension-iter-twice" (P := Q5) r5_0 r5_1 w

noncomputable def HE (P : Params) : Heap := absHeap (e4 P).tree 144 (e4 P).life
open PySem.W.Fast in
theorem pre_at (w : World) (os : OsState) : tw15667345088766844465 tabT P0 w 11 ann0 12 ⟨boot_heap w.params, #[], boot_drawn, boot_toks, os⟩ (topStub P0) = some ((sA w.params os).abs, ⟨tw11892475500146522536 tabT bcode, bcode, pos0, B0⟩) := by
  kernel_rfl
theorem block_at (w : World) (os : OsState) : runT tabT P0 w 11 ann0 1 1 (sA w.params os) (blockOf body0 benv bcode pos0 B0) = some (.next, sA w.params os, bcode, pos0) := by
  kernel_rfl
open PySem.W.Fast in
theorem fin_at (w : World) (os : OsState) : tw14082659384304107361 tabT P0 w 11 ann0 2 (eS w.params os).abs ⟨doneF .next, bcode, posE, B0⟩ = some ⟨HE w.params, #[], boot_drawn, 1908, os⟩ := by
  kernel_rfl
theorem run_at (w : World) (os : OsState) : topRun treeTable P0 w 11 ann0 (12 + (1 + (18000 + 2))) ⟨boot_heap w.params, #[], boot_drawn, boot_toks, os⟩ (topStub P0) = some ⟨HE w.params, #[], boot_drawn, 1908, os⟩ := by
  have h1 := pre_at w os
  rw [← PySem.W.Fast.te15667345088766844465, ← tab_te, ← PySem.W.Fast.te11892475500146522536] at h1
  refine go_top h1 (piece_block (end_of (block_at w os)) ?_)
  have h2 := fin_at w os
  rw [← PySem.W.Fast.te14082659384304107361, ← tab_te] at h2
  have h3 := piece_app (rest := []) (r5_at w os) (piece_nil h2)
  rw [List.append_nil] at h3
  exact h3
end Mine
end

section
open PySem PySem.W PyProof.Rows
set_option Elab.async false
set_option maxRecDepth 100000
namespace Mine
def q0 : Program := { P0 with main := { P0.main with body := [0, 1, 2, 3, 4, 5, 6, 7, 8, 13, 14, 19, 20, 21, 22, 23, 24, 25, 27, 28, 29, 30, 31, 32, 33, 34, 35].filterMap fun i => P0.main.body[i]? } }
def loose0 : List Str := ["_QUOPRI_MAP", "_QUOPRI_HEADER_MAP", "_QUOPRI_BODY_MAP", "ascii_letters", "_QUOPRI_BODY_ENCODE_MAP", "body_encode"]
theorem size_at (w : World) : ((boot_heap w.params).isNs mainGlobals && (#[] : Array GenState).size == 0, (boot_heap w.params).objs.size, (boot_heap w.params).nsMap mainGlobals "__annotations__") = (true, 11, ann0) := by
  kernel_rfl
theorem look1 (w : World) (os : OsState) : (staticsOk (importedModules P0.main.body) (boot_heap w.params) (HE w.params) && namesBound P0 (HE w.params) && gensDone ⟨HE w.params, #[], boot_drawn, 1908, os⟩ && laidKept (boot_heap w.params) (HE w.params)) = true := by
  kernel_rfl
open PySem.W.Fast in
theorem look2 (w : World) (os : OsState) : tw4187177175401517315 q0 loose0 (importedModules P0.main.body) (fun _ => true) true ⟨HE w.params, #[], boot_drawn, 1908, os⟩ = openGood q0 loose0 := by
  kernel_rfl
end Mine
end

section
open PySem PySem.W PyProof.Rows
set_option Elab.async false
set_option maxRecDepth 100000
namespace Mine
open PySem.W.Fast in
theorem boot_at (w : World) : Option.map (fun s : Shared => (s.heap, s.gens, s.drawn, s.toks)) (tw10274390034422433532 tabT (opening P0) w 600 (start (opening P0)).1 (start (opening P0)).2) = some (boot_heap w.params, Array.mk [], boot_drawn, boot_toks) := by kernel_rfl
theorem fence_at (s : Shared) : fenceModules? P0 s = some s := by kernel_rfl
theorem look2' (w : World) (os : OsState) : openSeen q0 loose0 (importedModules P0.main.body) (fun _ => true) true ⟨HE w.params, #[], boot_drawn, 1908, os⟩ = openGood q0 loose0 := by
  have h := look2 w os
  rw [← PySem.W.Fast.te4187177175401517315] at h
  exact h
theorem open_at (w : World) : (fencedOpening treeTable P0 w 20000).map (fun s => (s.heap, s.gens, s.drawn, s.toks)) = some (boot_heap w.params, Array.mk [], boot_drawn, boot_toks) := by
  have h0 := boot_at w
  rw [← PySem.W.Fast.te10274390034422433532, ← tab_te] at h0
  obtain ⟨s, hs, hv⟩ := Option.map_eq_some_iff.mp h0
  have m := importEnds_mono 19400 _ _ _ _ hs
  unfold fencedOpening
  rw [show (20000 : Nat) = 600 + 19400 from rfl, m]
  show ((fenceModules? P0 s)).map _ = _
  rw [fence_at s]
  exact congrArg some hv
theorem left0 : LeftO P0 q0 loose0 (fun _ => true) (fun s => s.heap) (fun w => HE w.params) 20000 :=
  LeftO.of_pieces (g0 := true) (H₀ := boot_heap) (H₁ := HE) open_at size_at run_at (by decide)
    (fun w => funext fun os => Prod.ext (look1 w os) (Prod.ext (look2' w os) rfl))
def dOf (n : Str) : DefRec := match defOf q0 n with
  | some (d, _) => d
  | none => { name := n, params := { posonlyargs := [], args := [], vararg := none, kwonlyargs := [], kw_defaults := [], kwarg := none, defaults := [] }, body := [], scope := P0.main.scope, pos := pos0 }
abbrev lawGoal : Prop := WalkX q0 loose0 (fun _ _ => True) (fun s => s.heap) (fun w => HE w.params) PySem.Challenge.rw_ku0017_01.row.toRowW (dOf "law") [] fun f vs => PySem.call f vs
theorem said0 : PySem.Challenge.rw_ku0017_01.wellSaid = true := by decide +kernel
theorem law_of (h : lawGoal) : PySem.Challenge.rw_ku0017_01.Holds := by
  w_on
  refine holds_law said0 fun said => ?_
  refine holds_openX (q := Mine.q0) (loose := Mine.loose0) (Xt := fun _ => true) (XP := fun _ _ => True) (Yf := fun s => s.heap) (Ya := fun w => Mine.HE w.params) (d := dOf "law") (kwd := []) (N := 20000)
    Mine.left0 (fun _ _ => trivial) (fun _ _ _ _ _ => trivial) (by rfl) (by rfl) (by rfl) (fun s e => recFacts_of (by rfl)) (by rfl) (by first | assumption | decide +kernel) (by decide +kernel) ⟨rfl, rfl, rfl, rfl, rfl, by decide +kernel⟩ ?hw h
  case hw => w_witness2
end Mine
end

section
open PySem PySem.W PyProof.Rows
set_option Elab.async false
set_option maxRecDepth 100000
set_option linter.unusedVariables false
namespace Mine

def FnAt (h₀ : Heap) (name : Str) (a : Addr) : Prop := ∃ o pm cd doc, h₀.get? a = some o ∧ o.data = .func (Calls.docDef (dOf name).name (dOf name).params (dOf name).body (dOf name).scope pm cd doc) ∧ h₀.CodeRec cd (dOf name).name
def okNames (scope : Scope) (l : List Str) : Bool := l.all fun x => scope.names.lookup x == some .local || scope.names.lookup x == some .cell
theorem okNames_spec {scope : Scope} {l : List Str} (h : okNames scope l = true) : ∀ x ∈ l, scope.names.lookup x = some .local ∨ scope.names.lookup x = some .cell := fun x hx => by
  have := List.all_eq_true.mp h x hx
  rcases Bool.or_eq_true_iff.mp this with e | e
  · exact .inl (eq_of_beq e)
  · exact .inr (eq_of_beq e)
section
variable {prog : Program} {w : World} {T : Tabs} {h₀ : Heap} {n : Nat} {env : Env} {σ : Sto} {own : Own}

def fdOf (name : Str) (pm cd doc : Value) : FuncData := Calls.docDef (dOf name).name (dOf name).params (dOf name).body (dOf name).scope pm cd doc
theorem Fn1 {name : Str} {a : Addr} {x : Str} (rest : Sto) {v1 p : PV} (G : Gl T h₀) (F : FnAt h₀ name a)
    (h : ∀ L pm cd doc, Exs prog w T h₀ n (callEnvC (fdOf name pm cd doc) L a) ((x, some v1) :: rest) [] (dOf name).body (.ret p))
    (hr : rest = (rest.map Prod.fst).map (fun x => (x, none)) := by rfl)
    (hbind : ∀ pm cd doc u1, bindArgs (fdOf name pm cd doc) ⟨[u1], []⟩ = pure [(x, u1)] := by intros; kernel_rfl)
    (hnames : okNames (dOf name).scope ([x] ++ rest.map Prod.fst) = true := by kernel_rfl) (nd : ([x] ++ rest.map Prod.fst).Nodup := by decide +kernel)
    (hco : (dOf name).scope.isCoroutine = false := by kernel_rfl) (hgen : (dOf name).scope.isGenerator = false := by kernel_rfl) (hk : (dOf name).scope.kind = .function := by kernel_rfl) :
    Pur prog w h₀ (n + 1) [v1] (fun us => call (.ref a) us) p := by
  obtain ⟨o, pm, cd, doc, ho, hd, hcd⟩ := F
  refine Pur_call (fd := fdOf name pm cd doc) (names := [x]) (rest := rest.map Prod.fst) (vs' := [v1]) G ho hd hcd rfl rfl rfl rfl (fun H h us _ hv => ?_) rfl (okNames_spec hnames) nd (fun L => ?_) hco hgen hk
  · obtain ⟨u1, rfl, _⟩ := hv.one
    exact ⟨[u1], hbind pm cd doc u1, hv⟩
  · have e := h L pm cd doc
    rw [hr] at e
    exact e
theorem Fn2 {name : Str} {a : Addr} {x1 x2 : Str} (rest : Sto) {v1 v2 p : PV} (G : Gl T h₀) (F : FnAt h₀ name a)
    (h : ∀ L pm cd doc, Exs prog w T h₀ n (callEnvC (fdOf name pm cd doc) L a) ((x1, some v1) :: (x2, some v2) :: rest) [] (dOf name).body (.ret p))
    (hr : rest = (rest.map Prod.fst).map (fun x => (x, none)) := by rfl)
    (hbind : ∀ pm cd doc u1 u2, bindArgs (fdOf name pm cd doc) ⟨[u1, u2], []⟩ = pure [(x1, u1), (x2, u2)] := by intros; kernel_rfl)
    (hnames : okNames (dOf name).scope ([x1, x2] ++ rest.map Prod.fst) = true := by kernel_rfl) (nd : ([x1, x2] ++ rest.map Prod.fst).Nodup := by decide +kernel)
    (hco : (dOf name).scope.isCoroutine = false := by kernel_rfl) (hgen : (dOf name).scope.isGenerator = false := by kernel_rfl) (hk : (dOf name).scope.kind = .function := by kernel_rfl) :
    Pur prog w h₀ (n + 1) [v1, v2] (fun us => call (.ref a) us) p := by
  obtain ⟨o, pm, cd, doc, ho, hd, hcd⟩ := F
  refine Pur_call (fd := fdOf name pm cd doc) (names := [x1, x2]) (rest := rest.map Prod.fst) (vs' := [v1, v2]) G ho hd hcd rfl rfl rfl rfl (fun H h us _ hv => ?_) rfl (okNames_spec hnames) nd (fun L => ?_) hco hgen hk
  · obtain ⟨u1, u2, rfl, _⟩ := hv.two
    exact ⟨[u1, u2], hbind pm cd doc u1 u2, hv⟩
  · have e := h L pm cd doc
    rw [hr] at e
    exact e
theorem Fn3 {name : Str} {a : Addr} {x1 x2 x3 : Str} (rest : Sto) {v1 v2 v3 p : PV} (G : Gl T h₀) (F : FnAt h₀ name a)
    (h : ∀ L pm cd doc, Exs prog w T h₀ n (callEnvC (fdOf name pm cd doc) L a) ((x1, some v1) :: (x2, some v2) :: (x3, some v3) :: rest) [] (dOf name).body (.ret p))
    (hr : rest = (rest.map Prod.fst).map (fun x => (x, none)) := by rfl)
    (hbind : ∀ pm cd doc u1 u2 u3, bindArgs (fdOf name pm cd doc) ⟨[u1, u2, u3], []⟩ = pure [(x1, u1), (x2, u2), (x3, u3)] := by intros; kernel_rfl)
    (hnames : okNames (dOf name).scope ([x1, x2, x3] ++ rest.map Prod.fst) = true := by kernel_rfl) (nd : ([x1, x2, x3] ++ rest.map Prod.fst).Nodup := by decide +kernel)
    (hco : (dOf name).scope.isCoroutine = false := by kernel_rfl) (hgen : (dOf name).scope.isGenerator = false := by kernel_rfl) (hk : (dOf name).scope.kind = .function := by kernel_rfl) :
    Pur prog w h₀ (n + 1) [v1, v2, v3] (fun us => call (.ref a) us) p := by
  obtain ⟨o, pm, cd, doc, ho, hd, hcd⟩ := F
  refine Pur_call (fd := fdOf name pm cd doc) (names := [x1, x2, x3]) (rest := rest.map Prod.fst) (vs' := [v1, v2, v3]) G ho hd hcd rfl rfl rfl rfl (fun H h us _ hv => ?_) rfl (okNames_spec hnames) nd (fun L => ?_) hco hgen hk
  · cases hv with | cons a r => cases r with | cons b r => cases r with | cons c r => cases r with | nil =>
    exact ⟨_, hbind pm cd doc _ _ _, .cons a (.cons b (.cons c .nil))⟩
  · have e := h L pm cd doc
    rw [hr] at e
    exact e
theorem Fn4 {name : Str} {a : Addr} {x1 x2 x3 x4 : Str} (rest : Sto) {v1 v2 v3 v4 p : PV} (G : Gl T h₀) (F : FnAt h₀ name a)
    (h : ∀ L pm cd doc, Exs prog w T h₀ n (callEnvC (fdOf name pm cd doc) L a) ((x1, some v1) :: (x2, some v2) :: (x3, some v3) :: (x4, some v4) :: rest) [] (dOf name).body (.ret p))
    (hr : rest = (rest.map Prod.fst).map (fun x => (x, none)) := by rfl)
    (hbind : ∀ pm cd doc u1 u2 u3 u4, bindArgs (fdOf name pm cd doc) ⟨[u1, u2, u3, u4], []⟩ = pure [(x1, u1), (x2, u2), (x3, u3), (x4, u4)] := by intros; kernel_rfl)
    (hnames : okNames (dOf name).scope ([x1, x2, x3, x4] ++ rest.map Prod.fst) = true := by kernel_rfl) (nd : ([x1, x2, x3, x4] ++ rest.map Prod.fst).Nodup := by decide +kernel)
    (hco : (dOf name).scope.isCoroutine = false := by kernel_rfl) (hgen : (dOf name).scope.isGenerator = false := by kernel_rfl) (hk : (dOf name).scope.kind = .function := by kernel_rfl) :
    Pur prog w h₀ (n + 1) [v1, v2, v3, v4] (fun us => call (.ref a) us) p := by
  obtain ⟨o, pm, cd, doc, ho, hd, hcd⟩ := F
  refine Pur_call (fd := fdOf name pm cd doc) (names := [x1, x2, x3, x4]) (rest := rest.map Prod.fst) (vs' := [v1, v2, v3, v4]) G ho hd hcd rfl rfl rfl rfl (fun H h us _ hv => ?_) rfl (okNames_spec hnames) nd (fun L => ?_) hco hgen hk
  · cases hv with | cons a r => cases r with | cons b r => cases r with | cons c r => cases r with | cons e r => cases r with | nil =>
    exact ⟨_, hbind pm cd doc _ _ _ _, .cons a (.cons b (.cons c (.cons e .nil)))⟩
  · have e := h L pm cd doc
    rw [hr] at e
    exact e

theorem Ev_fn {x : Str} {pos : Pos} {v : Value} (h : List.Mem (x, v) T.g) (hk : env.kindOf x = some .globalImplicit) (hd : (x == ("__debug__" : Str)) = false) : Ev prog w T h₀ n env σ (.Name x pos) (.raw v) := Ev_glob h hk (fun _ _ => .raw _) hd
theorem FnAt.callable {name : Str} {a : Addr} (F : FnAt h₀ name a) : Callable h₀ (.ref a) := let ⟨o, _, _, _, ho, hd, _⟩ := F; .inr (.inr ⟨a, o, _, rfl, ho, hd⟩)

theorem Sub_base {value slice : PySem.Expr} {a : Addr} {vs : List Value} {x : Str} {t : Tok} {i : Int} (hl : h₀.PlainList a vs.toArray) (h0 : 0 ≤ i) (h1 : i < 2 ^ 63) (hv : vs[i.toNat]? = some (.str x t)) (hs : ∀ o j, subscripted slice false o j = operate [o, j] (getItem o j)) :
    Pur prog w h₀ n [.raw (.ref a), .int i] (fun us => subscriptTail value slice (us.getD 0 .none) (us.getD 1 .none)) (.str x) := fun A H s us Q E rm ext hus lv hQ => by
  obtain ⟨_, _, rfl, v1, v2⟩ := hus.two
  obtain rfl := v1.raw_inv
  obtain ⟨u, rfl⟩ := v2.int_inv
  have pl : s.heap.PlainList a vs.toArray := hl.at fun o e => ext _ _ e
  exact tail_any pl.isList.typeIs slot_list_getitem.lookup (wpAny_getItem_list pl.isList h0 h1 (by simpa using hv) (hQ _ _ s.toks (.refl _) (.str _ _))) (hs _ _)

theorem hexF_get : ∀ (n j i : Nat), i < n → (hexF n j)[i]? = some (hexV (j + i))
  | 0, j, i, h => absurd h (Nat.not_lt_zero _)
  | n + 1, j, 0, _ => rfl
  | n + 1, j, i + 1, h => by
    unfold hexF
    rw [List.getElem?_cons_succ, hexF_get n (j + 1) i (by omega)]
    congr 2; omega

end
end Mine
end

section
open PySem PySem.W PyProof.Rows
set_option Elab.async false
set_option maxRecDepth 100000
set_option linter.unusedVariables false
namespace Mine
structure Adr where
  (quote enc d2 d3 i2d d2i dmp idm esc block cut letter letters clausen refused deflt law : Addr)
  (crlf nl : Tok)
abbrev bnames : List Str := ["len", "ord", "chr", "range", "list", "sum", "reversed", "divmod", "ValueError", "ZeroDivisionError"]
abbrev T0 (d : Adr) : Tabs := ⟨[("CRLF", .str ⟨#[13, 10]⟩ d.crlf), ("NL", .str ⟨#[10]⟩ d.nl), ("_QUOPRI_MAP", .ref 17), ("_QUOPRI_BODY_ENCODE_MAP", .ref 39), ("_DIV_LIMIT", .int 4000 1765), ("quote", .ref d.quote), ("body_encode", .ref d.enc), ("_div2n1n", .ref d.d2), ("_div3n2n", .ref d.d3),
  ("_int2digits", .ref d.i2d), ("_digits2int", .ref d.d2i), ("_divmod_pos", .ref d.dmp), ("int_divmod", .ref d.idm), ("_law_escape", .ref d.esc), ("_law_block", .ref d.block), ("_law_cut", .ref d.cut), ("_law_letter", .ref d.letter),
  ("_law_letters", .ref d.letters), ("_law_clausen", .ref d.clausen), ("_law_refused", .ref d.refused), ("_law_default", .ref d.deflt), ("law", .ref d.law)], bnames, []⟩
def bsE : List Nat := [13, 10] ++ ([32, 33, 34, 35, 36, 37, 38, 39, 40, 41, 42, 43, 44, 45, 46, 47] ++ List.range' 48 10 ++ [58, 59, 60, 62, 63, 64] ++ List.range' 65 26 ++ [91, 92, 93, 94, 95, 96] ++ List.range' 97 26 ++ [123, 124, 125, 126, 9])
def encM (c : Nat) : Str := if bsE.contains c then ⟨#[c]⟩ else hexS c
structure Top0 (d : Adr) (h₀ : Heap) : Prop where
  G : Gl (T0 d) h₀
  map : h₀.PlainList 17 (hexF 256 0).toArray
  quote : FnAt h₀ "quote" d.quote
  esc : FnAt h₀ "_law_escape" d.esc
  block : FnAt h₀ "_law_block" d.block
  letter : FnAt h₀ "_law_letter" d.letter
  refused : FnAt h₀ "_law_refused" d.refused
  deflt : FnAt h₀ "_law_default" d.deflt
  emap : ∃ vs : List Value, h₀.PlainList 39 vs.toArray ∧ ∀ c, c < 256 → ∃ t, vs[c]? = some (.str (encM c) t)

section
variable {prog : Program} {w : World} {d : Adr} {T : Tabs} {h₀ : Heap} {n : Nat} {env : Env} {σ : Sto} {own : Own}
theorem xvar {x : Str} {pos : Pos} {p : PV} (h : List.Mem (x, some p) σ := by with_reducible repeat (first | exact .head _ | apply List.Mem.tail)) (hd : (x == ("__debug__" : Str)) = false := by kernel_rfl) : Ev prog w T h₀ n env σ (.Name x pos) p := Ev_var h hd
theorem xfn {x : Str} {pos : Pos} {v : Value} (h : List.Mem (x, v) T.g := by with_reducible repeat (first | exact .head _ | apply List.Mem.tail)) (hk : env.kindOf x = some .globalImplicit := by kernel_rfl) (hd : (x == ("__debug__" : Str)) = false := by kernel_rfl) : Ev prog w T h₀ n env σ (.Name x pos) (.raw v) := Ev_fn h hk hd
theorem xgs {x y : Str} {t : Tok} {pos : Pos} (h : List.Mem (x, .str y t) T.g := by with_reducible repeat (first | exact .head _ | apply List.Mem.tail)) (hk : env.kindOf x = some .globalImplicit := by kernel_rfl) (hd : (x == ("__debug__" : Str)) = false := by kernel_rfl) : Ev prog w T h₀ n env σ (.Name x pos) (.str y) := Ev_glob h hk (fun _ _ => .str _ _) hd
theorem xbi {x : Str} {pos : Pos} (v : Value) (h : List.Mem x T.b := by with_reducible repeat (first | exact .head _ | apply List.Mem.tail)) (hv : bootBuiltins x = some v := by kernel_rfl) (hk : env.kindOf x = some .globalImplicit := by kernel_rfl) (hn : (x == ("__name__" : Str)) = false := by kernel_rfl)
    (hd : (x == ("__debug__" : Str)) = false := by kernel_rfl) : Ev prog w T h₀ n env σ (.Name x pos) (.raw v) := Ev_builtin h hv hk (fun e => by rw [e] at hn; simp at hn) hd
theorem xnil : EvL prog w T h₀ n env σ [] [] := EvL_nil
theorem xcons {e : PySem.Expr} {es : List PySem.Expr} {p : PV} {ps : List PV} (he : Ev prog w T h₀ n env σ e p) (hr : EvL prog w T h₀ n env σ es ps) (hs : starEach (e :: es) env = (false, eval e env) :: starEach es env := by kernel_rfl) :
    EvL prog w T h₀ n env σ (e :: es) (p :: ps) := EvL_cons he hr hs
theorem xcall {x : Str} {np pos : Pos} {args : List PySem.Expr} {f : Value} {ps : List PV} {y : PV} (hn : Ev prog w T h₀ n env σ (.Name x np) (.raw f)) (hf : Callable h₀ f) (ha : EvL prog w T h₀ n env σ args ps)
    (hp : Pur prog w h₀ n ps (fun us => call f us) y) (hs : (starEach args env).any (·.1) = false := by kernel_rfl) : Ev prog w T h₀ n env σ (.Call (.Name x np) args [] pos) y := Ev_call hn hf ha hp hs
theorem cbi {id : String} : Callable h₀ (.builtin id) := .inl ⟨_, rfl⟩
theorem cty {id : String} : Callable h₀ (.type id) := .inr (.inl ⟨_, rfl⟩)
theorem xassign {x : Str} {pos pos' : Pos} {value : PySem.Expr} {p : PV} {σ' : Sto} (he : Ev prog w T h₀ n env σ value p) (u : Upd x p σ σ' := by with_reducible repeat (first | exact .head | apply Upd.tail)) (hx : Storable env x = true := by kernel_rfl)
    (hs : swapsWith value (some (.Name x pos')) pos.line env = pure false := by kernel_rfl) : Ex1 prog w T h₀ n env σ own (.Assign [.Name x pos'] value pos) (.next σ' own) := Ex1_assign he u hx hs
theorem xcmp {l r : PySem.Expr} {op : CmpOp} {pos : Pos} {p q : PV} {y : Bool} (hl : Ev prog w T h₀ n env σ l p) (hr : Ev prog w T h₀ n env σ r q)
    (hp : Pur prog w h₀ n [p, q] (fun us => compareOp op (us.getD 0 .none) (us.getD 1 .none)) (.bool y)) (hm : behindInMarks op r = false := by kernel_rfl) : EvB prog w T h₀ n env σ (.Compare l [op] [r] pos) y := EvB_cmp hl hr hp hm

theorem quote_pur (t : Top0 d h₀) {c : Nat} (hc : c < 256) : Pur prog w h₀ (n + 1) [.str ⟨#[c]⟩] (fun us => call (.ref d.quote) us) (.str (hexS c)) :=
  Fn1 (x := "c") [] t.G t.quote fun L pm cd doc => Exs_stop (Ex1_ret (Ev_sub xfn (xcall (xbi (.builtin "ord")) cbi (xcons xvar xnil) Pur_ord) (Sub_base t.map (by omega) (by omega) (hexF_get 256 0 c hc |>.trans (by rw [Nat.zero_add]; rfl)) (by intros; rfl))))
end
end Mine
end

section
open PySem PySem.W PyProof.Rows
set_option Elab.async false
set_option maxRecDepth 100000
set_option linter.unusedVariables false
namespace Mine
section
variable {prog : Program} {w : World} {T : Tabs} {h₀ : Heap} {n : Nat} {env : Env} {σ : Sto} {own : Own}

theorem VL.three {H : List Addr} {h : Heap} {us : List Value} {p q r : PV} (x : VL H h us [p, q, r]) : ∃ v u z, us = [v, u, z] ∧ V H h v p ∧ V H h u q ∧ V H h z r := by
  cases x with | cons a x => cases x with | cons b x => cases x with | cons c x => cases x with | nil => exact ⟨_, _, _, rfl, a, b, c⟩
theorem keep_up {W H : List Addr} {h h' : Heap} (k : KeepsOff W h h') : KeepsOff (W ++ H) h h' := fun b o q e => k b o (fun z => q (List.mem_append_left _ z)) e
theorem Ex1_tup2 {x1 x2 : Str} {q1 q2 tpos pos : Pos} {k : Nat} {value : PySem.Expr} {p1 p2 : PV} {σ1 σ2 : Sto} (he : Ev prog w T h₀ n env σ value (.tup [p1, p2])) (u1 : Upd x1 p1 σ σ1 := by with_reducible repeat (first | exact .head | apply Upd.tail)) (u2 : Upd x2 p2 σ1 σ2 := by with_reducible repeat (first | exact .head | apply Upd.tail))
    (h1 : Storable env x1 = true := by kernel_rfl) (h2 : Storable env x2 = true := by kernel_rfl)
    (hs : swapsWithSole [.Tuple [.Name x1 q1, .Name x2 q2] k tpos] value pos.line env = pure false := by kernel_rfl) (hw : swappedStores [.Tuple [.Name x1 q1, .Name x2 q2] k tpos] value env = pure none := by kernel_rfl) :
    Ex1 prog w T h₀ n env σ own (.Assign [.Tuple [.Name x1 q1, .Name x2 q2] k tpos] value pos) (.next σ2 own) := fun A H W s Q E rm C hQ =>
  Assign_Tuple (hs := hs) (hw := hw) (he A (W ++ H) s _ E rm C.E C.L fun v h1' t1 k1 v1 => by
    obtain ⟨a, vs, rfl, ha, pt, lv⟩ := v1.tup_inv
    obtain ⟨v, u, rfl, e1, e2⟩ := lv.two
    refine assign_Tuple_tuple rm.hh pt rfl rfl fun h2' ke => ?_
    have k2 : Ext h1' h2' := fun b o e => ke b o (fun z => by rw [z] at e; exact absurd (Heap.lt_size e) (Nat.lt_irrefl _)) e
    refine assignInOrder_cons (assign_Name (store_ ((C.ext k1).ext k2) u1 h1 (e1.ext k2) fun h3 t3 k3 _ C3 => ?_))
    refine assignInOrder_cons (assign_Name (store_ C3 u2 h2 ((e2.ext k2).mono (keep_up k3)) fun h4 t4 k4 _ C4 => ?_))
    exact assignInOrder_nil (hQ .next h4 t4 (fun b o q e => k4 b o q (k3 b o q (k2 b o (k1 b o e)))) ⟨rfl, W, fun _ q => q, fun _ q => .inl q, C4⟩))
theorem Ex1_swap2 {x1 x2 : Str} {q1 q2 tpos pos : Pos} {k : Nat} {value : PySem.Expr} {p1 p2 : PV} {σ1 σ2 : Sto} (he : Ev prog w T h₀ n env σ value (.tup [p1, p2])) (u2 : Upd x2 p2 σ σ1 := by with_reducible repeat (first | exact .head | apply Upd.tail)) (u1 : Upd x1 p1 σ1 σ2 := by with_reducible repeat (first | exact .head | apply Upd.tail))
    (h1 : Storable env x1 = true := by kernel_rfl) (h2 : Storable env x2 = true := by kernel_rfl)
    (hs : swapsWithSole [.Tuple [.Name x1 q1, .Name x2 q2] k tpos] value pos.line env = pure false := by kernel_rfl) (hw : swappedStores [.Tuple [.Name x1 q1, .Name x2 q2] k tpos] value env = pure (some [x1, x2]) := by kernel_rfl) :
    Ex1 prog w T h₀ n env σ own (.Assign [.Tuple [.Name x1 q1, .Name x2 q2] k tpos] value pos) (.next σ2 own) := fun A H W s Q E rm C hQ =>
  Assign_Tuple_swapped (names := [x1, x2]) (hs := hs) (hw := hw) (he A (W ++ H) s _ E rm C.E C.L fun v h1' t1 k1 v1 => by
    obtain ⟨a, vs, rfl, ha, pt, lv⟩ := v1.tup_inv
    obtain ⟨v, u, rfl, e1, e2⟩ := lv.two
    refine unpackItems_tuple (items := [v, u].toArray) rm.hh pt fun h2' ke => ?_
    have k2 : Ext h1' h2' := fun b o e => ke b o (fun z => by rw [z] at e; exact absurd (Heap.lt_size e) (Nat.lt_irrefl _)) e
    show wpAny _ A (assignInOrder [bindName env x2, bindName env x1] [u, v]) _ _ _
    refine assignInOrder_cons (bindName_ (store_ ((C.ext k1).ext k2) u2 h2 (e2.ext k2) fun h3 t3 k3 _ C3 => ?_))
    refine assignInOrder_cons (bindName_ (store_ C3 u1 h1 (V.mono (keep_up k3) (e1.ext k2)) fun h4 t4 k4 _ C4 => ?_))
    exact assignInOrder_nil (hQ .next h4 t4 (fun b o q e => k4 b o q (k3 b o q (k2 b o (k1 b o e)))) ⟨rfl, W, fun _ q => q, fun _ q => .inl q, C4⟩))

theorem Ev_to {e : PySem.Expr} {p q : PV} (h : Ev prog w T h₀ n env σ e p) (hpq : p = q) : Ev prog w T h₀ n env σ e q := hpq ▸ h
end
section
variable {prog : Program} {w : World} {d : Adr} {h₀ : Heap} {n : Nat}

theorem size_of {m : Nat} (h : m ≤ 1000000) : m ≤ sizeLine := by rw [sizeLine_eq]; omega
theorem fits_small {i : Int} (h0 : -1000000 ≤ i) (h1 : i ≤ 1000000) : fitsSsize i = true := by
  unfold fitsSsize
  rw [decide_eq_false (by omega), decide_eq_false (by omega)]
  rfl
theorem slen (x y : Str) : (x ++ y).length = x.length + y.length := Str.length_append x y
theorem noP {a b : Int} (h : b.natAbs < 1073741824) : ¬Builtin.divisionGoesByPylong a b = true := by rw [PyProof.noPylong_small h]; decide
section
variable {T : Tabs} {env : Env} {σ : Sto}
theorem xsubs {value slice : PySem.Expr} {pos : Pos} {x : Str} {i : Int} (hv : Ev prog w T h₀ n env σ value (.str x)) (hi : Ev prog w T h₀ n env σ slice (.int i)) (h0 : -(x.length : Int) ≤ i) (h1 : i < x.length) (hl : x.length ≤ 1000000)
    (hs : ∀ o j, subscripted slice false o j = operate [o, j] (getItem o j) := by intros; rfl) : Ev prog w T h₀ n env σ (.Subscript value slice pos) (.str (Txt.item x i)) :=
  Ev_sub hv hi (Sub_str (fits_small (by omega) (by omega)) h0 h1 hs)
theorem xsubl {value slice : PySem.Expr} {pos : Pos} {l : List PV} {i : Int} {p : PV} (hv : Ev prog w T h₀ n env σ value (.list l)) (hi : Ev prog w T h₀ n env σ slice (.int i)) (h0 : 0 ≤ i) (h1 : i ≤ 1000000) (hp : l[i.toNat]? = some p)
    (hs : ∀ o j, subscripted slice false o j = operate [o, j] (getItem o j) := by intros; rfl) : Ev prog w T h₀ n env σ (.Subscript value slice pos) p :=
  Ev_sub hv hi (Sub_list h0 (by omega) hp hs)
theorem xsubt {value slice : PySem.Expr} {pos : Pos} {l : List PV} {i : Nat} {p : PV} (hv : Ev prog w T h₀ n env σ value (.tup l)) (hi : Ev prog w T h₀ n env σ slice (.int (i : Nat))) (h1 : i ≤ 1000) (hp : l[i]? = some p)
    (hs : ∀ o j, subscripted slice false o j = operate [o, j] (getItem o j) := by intros; rfl) : Ev prog w T h₀ n env σ (.Subscript value slice pos) p :=
  Ev_sub hv hi (Sub_tup (by omega) (by omega) (j := i) (by
    obtain ⟨hlt, _⟩ := List.getElem?_eq_some_iff.mp hp
    have hn : ¬ ((i : Int) < 0) := by omega
    unfold seqIndex?
    simp [hn, hlt]) hp hs)
theorem xcat {l r : PySem.Expr} {pos : Pos} {x y : Str} (hl : Ev prog w T h₀ n env σ l (.str x)) (hr : Ev prog w T h₀ n env σ r (.str y)) (h : x.length + y.length ≤ 1000000) : Ev prog w T h₀ n env σ (.BinOp l .Add r pos) (.str (x ++ y)) := Ev_bin hl hr (Bin_cat (size_of h))
theorem xadd {l r : PySem.Expr} {pos : Pos} {a b : Int} (hl : Ev prog w T h₀ n env σ l (.int a)) (hr : Ev prog w T h₀ n env σ r (.int b)) : Ev prog w T h₀ n env σ (.BinOp l .Add r pos) (.int (a + b)) := Ev_bin hl hr Bin_add
theorem xsubi {l r : PySem.Expr} {pos : Pos} {a b : Int} (hl : Ev prog w T h₀ n env σ l (.int a)) (hr : Ev prog w T h₀ n env σ r (.int b)) : Ev prog w T h₀ n env σ (.BinOp l .Sub r pos) (.int (a - b)) := Ev_bin hl hr Bin_sub
theorem xdiv {l r : PySem.Expr} {pos : Pos} {a b : Int} (hl : Ev prog w T h₀ n env σ l (.int a)) (hr : Ev prog w T h₀ n env σ r (.int b)) (h0 : (b == 0) = false) (h1 : b.natAbs < 1073741824) : Ev prog w T h₀ n env σ (.BinOp l .FloorDiv r pos) (.int (a.fdiv b)) := Ev_bin hl hr (Bin_fdiv (by rw [h0]; decide) (noP h1))
theorem xmod {l r : PySem.Expr} {pos : Pos} {a b : Int} (hl : Ev prog w T h₀ n env σ l (.int a)) (hr : Ev prog w T h₀ n env σ r (.int b)) (h0 : (b == 0) = false) : Ev prog w T h₀ n env σ (.BinOp l .Mod r pos) (.int (a.fmod b)) := Ev_bin hl hr (Bin_mod (by rw [h0]; decide))
end

def hexDigits : Str := "0123456789ABCDEF"
theorem esc_value : ∀ c : Nat, c < 256 → ("=" : Str) ++ Txt.item hexDigits ((c : Int).fdiv 16) ++ Txt.item hexDigits ((c : Int).fmod 16) = hexS c := by decide +kernel
theorem esc_len : ∀ c : Nat, c < 256 → (Txt.item hexDigits ((c : Int).fdiv 16)).length = 1 ∧ (Txt.item hexDigits ((c : Int).fmod 16)).length = 1 := by decide +kernel
theorem esc_rng : ∀ c : Nat, c < 256 → (-16 ≤ (c : Int).fdiv 16 ∧ (c : Int).fdiv 16 < 16) ∧ (-16 ≤ (c : Int).fmod 16 ∧ (c : Int).fmod 16 < 16) := by decide +kernel
theorem esc_pur (t : Top0 d h₀) {c : Nat} (hc : c < 256) : Pur prog w h₀ (n + 1) [.int c] (fun us => call (.ref d.esc) us) (.str (hexS c)) := by
  have hl : hexDigits.length = 16 := by decide +kernel
  have h1 : ("=" : Str).length = 1 := by decide +kernel
  have h2 := esc_len c hc
  have h3 := esc_rng c hc
  exact Fn1 (x := "octet") [] t.G t.esc fun L pm cd doc => Exs_stop (Ex1_ret (Ev_to (xcat (xcat Ev_str (xsubs (x := hexDigits) Ev_str (xdiv xvar Ev_int rfl (by decide)) (by rw [hl]; omega) (by rw [hl]; omega) (by rw [hl]; omega)) (by rw [h1, h2.1]; omega))
    (xsubs (x := hexDigits) Ev_str (xmod xvar Ev_int rfl) (by rw [hl]; omega) (by rw [hl]; omega) (by rw [hl]; omega)) (by rw [slen, h1, h2.1, h2.2]; omega)) (congrArg PV.str (esc_value c hc))))
end
end Mine
end

section
open PySem PySem.W PyProof.Rows
set_option Elab.async false
set_option maxRecDepth 100000
set_option maxHeartbeats 4000000
set_option linter.unusedVariables false
namespace Mine
section
variable {prog : Program} {w : World} {T : Tabs} {h₀ : Heap} {n : Nat} {env : Env} {σ : Sto} {own : Own}
theorem xladd {l r : PySem.Expr} {pos : Pos} {a b : List PV} (hl : Ev prog w T h₀ n env σ l (.list a)) (hr : Ev prog w T h₀ n env σ r (.list b)) (h : a.length + b.length ≤ 1000000) : Ev prog w T h₀ n env σ (.BinOp l .Add r pos) (.list (a ++ b)) := Ev_bin hl hr (Bin_ladd (size_of h))
theorem small_rng {a b : Int} (h1 : -1000000 ≤ a) (h2 : a ≤ 1000000) (h3 : -1000000 ≤ b) (h4 : b ≤ 1000000) : Builtin.Range.small a b 1 = true := small_one (by omega) (by omega) (by omega) (by omega)
theorem xrange1 {np pos : Pos} {e : PySem.Expr} {b : Int} (he : Ev prog w T h₀ n env σ e (.int b)) (hn : Ev prog w T h₀ n env σ (.Name (Str.ofString "range") np) (.raw (.type "range"))) (hs : starEach [e] env = [(false, eval e env)] := by kernel_rfl) : Ev prog w T h₀ n env σ (.Call (.Name (Str.ofString "range") np) [e] [] pos) (.rng 0 b) :=
  xcall hn cty (EvL_cons he xnil hs) Pur_range1 (by rw [hs]; rfl)
theorem xrange2 {np pos : Pos} {e u : PySem.Expr} {a b : Int} (he : Ev prog w T h₀ n env σ e (.int a)) (hu : Ev prog w T h₀ n env σ u (.int b)) (hn : Ev prog w T h₀ n env σ (.Name (Str.ofString "range") np) (.raw (.type "range"))) (hs : starEach [e, u] env = [(false, eval e env), (false, eval u env)] := by kernel_rfl) (hs' : starEach [u] env = [(false, eval u env)] := by kernel_rfl) : Ev prog w T h₀ n env σ (.Call (.Name (Str.ofString "range") np) [e, u] [] pos) (.rng a b) :=
  xcall hn cty (EvL_cons he (EvL_cons hu xnil hs') (by rw [hs, hs'])) Pur_range2 (by rw [hs]; rfl)
theorem xlist {np pos : Pos} {e : PySem.Expr} {a b : Int} (he : Ev prog w T h₀ n env σ e (.rng a b)) (hn : Ev prog w T h₀ n env σ (.Name (Str.ofString "list") np) (.raw (.type "list"))) (h1 : -1000000 ≤ a) (h2 : a ≤ 1000000) (h3 : b ≤ 1000) (h4 : -1000 ≤ b) (h5 : -1000 ≤ a) (hs : starEach [e] env = [(false, eval e env)] := by kernel_rfl) :
    Ev prog w T h₀ n env σ (.Call (.Name (Str.ofString "list") np) [e] [] pos) (.list (rngL a b)) :=
  xcall hn cty (EvL_cons he xnil hs) (Pur_list_rng (small_rng h1 h2 (by omega) (by omega)) (by omega)) (by rw [hs]; rfl)
theorem joinOk_of {sep : Str} {texts : List Str} (h : (texts.map (·.length)).sum + texts.length * sep.length ≤ 1000000) : JoinOk sep texts = true := by
  unfold JoinOk
  rw [StrLaws.joinTotal, Bool.not_eq_true']
  unfold Builtin.Str.tooLong
  rw [decide_eq_false]
  rw [sizeLine_eq]
  omega
theorem txt_join_len (sep : Str) (l : List Str) : (Txt.join sep l).length ≤ (l.map (·.length)).sum + l.length * sep.length := by
  show (Builtin.Str.glued sep l).length ≤ _
  rw [StrLaws.glued_eq_join]
  exact StrLaws.join_length_le sep l
theorem le_add {a b c e : Nat} (h1 : a ≤ c) (h2 : b ≤ e) (h : c + e ≤ 1000000) : a + b ≤ 1000000 := by omega
theorem xjoin {o e : PySem.Expr} {apos pos : Pos} {x : Str} {l : List Str} (ho : Ev prog w T h₀ n env σ o (.str x)) (he : Ev prog w T h₀ n env σ e (.list (l.map .str))) (hj : (l.map (·.length)).sum + l.length * x.length ≤ 1000000)
    (hbase : attributeBase o (Str.ofString "join") env (eval o env) = eval o env := by kernel_rfl) (hs : starEach [e] env = [(false, eval e env)] := by kernel_rfl) (hline : (apos.endLine == pos.line) = true := by kernel_rfl) :
    Ev prog w T h₀ n env σ (.Call (.Attribute o (Str.ofString "join") apos) [e] [] pos) (.str (Txt.join x l)) := Ev_join ho he (joinOk_of hj) hbase hs hline
end

section
variable {prog : Program} {w : World} {T : Tabs} {h₀ : Heap} {n : Nat} {env : Env} {σ : Sto} {own : Own}
theorem xtup2 {e1 e2 : PySem.Expr} {k : Nat} {pos : Pos} {p q : PV} (h1 : Ev prog w T h₀ n env σ e1 p) (h2 : Ev prog w T h₀ n env σ e2 q) (hs : starEach [e1, e2] env = [(false, eval e1 env), (false, eval e2 env)] := by kernel_rfl) (hs' : starEach [e2] env = [(false, eval e2 env)] := by kernel_rfl) :
    Ev prog w T h₀ n env σ (.Tuple [e1, e2] k pos) (.tup [p, q]) := Ev_tuple (EvL_cons h1 (EvL_cons h2 xnil hs') (by rw [hs, hs'])) (size_of (by decide : 2 ≤ 1000000))
end
inductive SubL : Sto → Sto → Prop
  | nil {b : Sto} : SubL [] b
  | keep {q : Str × Option PV} {a b : Sto} : SubL a b → SubL (q :: a) (q :: b)
  | skip {q : Str × Option PV} {a b : Sto} : SubL a b → SubL a (q :: b)
theorem SubL.mem {a b : Sto} (s : SubL a b) : ∀ q, List.Mem q a → List.Mem q b := by
  induction s with
  | nil => intro q h; cases h
  | keep _ ih =>
    intro q h
    cases h with
    | head => exact .head _
    | tail _ h => exact .tail _ (ih q h)
  | skip _ ih => exact fun q h => .tail _ (ih q h)
def compOkB (env : Env) (scope : Scope) (σn fvn : List Str) (x : Str) : Bool :=
  scope.names.all (fun y => y.2 != .cell) && scope.kind == .function && scope.names.all (fun y => y.2 != .local || scope.names.lookup y.1 == some .local) && scope.names.lookup x == some .local &&
  scope.names.all (fun y => y.2 != .free || (σn.contains y.1 && env.kindOf y.1 != some .local)) && fvn.all (fun q => scope.names.contains (q, .free) && (relabel scope env).names.lookup q == some .cell)
theorem compOk {env : Env} {scope : Scope} {σ fv : Sto} {x : Str} (h : compOkB env scope (σ.map Prod.fst) (fv.map Prod.fst) x = true) (s : SubL fv σ) : CompOk env scope σ fv x := by
  unfold compOkB at h
  simp only [Bool.and_eq_true, List.all_eq_true, bne_iff_ne, beq_iff_eq, Bool.or_eq_true, List.contains_iff_mem] at h
  obtain ⟨⟨⟨⟨⟨a, b⟩, c⟩, d⟩, e⟩, f⟩ := h
  refine ⟨a, b, fun y hy hl => (c y hy).elim (fun z => absurd hl z) id, d, fun y hy hf => ?_, fun q hq => ?_⟩
  · rcases e y hy with z | ⟨z1, z2⟩
    · exact absurd hf z
    · obtain ⟨⟨y', o⟩, ho, e1⟩ := List.mem_map.mp z1
      exact ⟨o, by rw [← e1]; exact ho, z2⟩
  · have z := f q.1 (List.mem_map.mpr ⟨q, hq, rfl⟩)
    exact ⟨s.mem q hq, z.1, z.2⟩
section
variable {prog : Program} {w : World} {T : Tabs} {h₀ : Heap} {n : Nat} {env : Env} {σ : Sto} {own : Own}
theorem xcomp {elt iter : PySem.Expr} {x : Str} {px : Pos} {ifs : List PySem.Expr} {scope : Scope} {pos : Pos} {ps : List PV} (fv : Sto) (b : PV → Bool) (f : PV → PV) {rs : List PV} (hi : EvI prog w T h₀ n env σ iter ps) (hsz : ps.length ≤ 1000000)
    (ev : ∀ p ∈ ps, ∀ cl C, EvT prog w T h₀ n (compEnvC scope cl C env) ((x, some p) :: fv) ifs (b p) ∧ (b p = true → Ev prog w T h₀ n (compEnvC scope cl C env) ((x, some p) :: fv) elt (f p))) (hr : (ps.filter b).map f = rs)
    (sub : SubL fv σ := by with_reducible repeat (first | exact .nil | apply SubL.keep | apply SubL.skip)) (co : compOkB env scope (σ.map Prod.fst) (fv.map Prod.fst) x = true := by kernel_rfl)
    (hf : ∀ v, foldedSetIterable iter env v = pure v := by intro _; rfl) : Ev prog w T h₀ n env σ (.ListComp elt [⟨.Name x px, iter, ifs, 0⟩] scope pos) (.list rs) := hr ▸ Ev_comp fv hi (size_of hsz) (compOk co sub) ev hf
theorem xcompA {y : Str} {py spos : Pos} {elt iter : PySem.Expr} {x : Str} {px : Pos} {ifs : List PySem.Expr} {scope : Scope} {pos : Pos} {ps : List PV} (fv : Sto) (b : PV → Bool) (f : PV → PV) {rs : List PV} {σ' : Sto} (hi : EvI prog w T h₀ n env σ iter ps) (hsz : ps.length ≤ 1000000)
    (ev : ∀ p ∈ ps, ∀ cl C, EvT prog w T h₀ n (compEnvC scope cl C env) ((x, some p) :: fv) ifs (b p) ∧ (b p = true → Ev prog w T h₀ n (compEnvC scope cl C env) ((x, some p) :: fv) elt (f p))) (hr : (ps.filter b).map f = rs)
    (u : Upd y (.list rs) σ σ' := by with_reducible repeat (first | exact .head | apply Upd.tail)) (hy : Storable env y = true := by kernel_rfl)
    (hsw : swapsWith (.ListComp elt [⟨.Name x px, iter, ifs, 0⟩] scope pos) (some (.Name y py)) spos.line env = pure true := by kernel_rfl)
    (sub : SubL fv σ := by with_reducible repeat (first | exact .nil | apply SubL.keep | apply SubL.skip)) (co : compOkB env scope (σ.map Prod.fst) (fv.map Prod.fst) x = true := by kernel_rfl)
    (hf : ∀ v, foldedSetIterable iter env v = pure v := by intro _; rfl) : Ex1 prog w T h₀ n env σ own (.Assign [.Name y py] (.ListComp elt [⟨.Name x px, iter, ifs, 0⟩] scope pos) spos) (.next σ' own) :=
  Ex1_assign_comp fv hi (size_of hsz) (compOk co sub) ev (hr ▸ u) hy hsw hf
theorem xrng {e : PySem.Expr} {a b : Int} (he : Ev prog w T h₀ n env σ e (.rng a b)) (h1 : -1000000 ≤ a) (h2 : a ≤ 1000000) (h3 : -1000000 ≤ b) (h4 : b ≤ 1000000) : EvI prog w T h₀ n env σ e (rngL a b) := EvI_rng he (small_rng h1 h2 h3 h4)
end
theorem filter_tt {α : Type} (l : List α) : l.filter (fun _ => true) = l := List.filter_eq_self.mpr fun _ _ => rfl
def farL : List Nat := List.range 9 ++ [11, 12] ++ List.range' 14 18 ++ [61] ++ List.range' 127 129
def plainL : List Nat := [9] ++ List.range' 32 29 ++ List.range' 62 65
def intP (i : Nat) : PV := .int (i : Int)
theorem far_is : (((rngL 0 9 ++ [.int 11, .int 12]) ++ rngL 14 32) ++ [.int 61]) ++ rngL 127 256 = farL.map intP := by kernel_rfl
theorem plain_is : ([.int 9] ++ rngL 32 61) ++ rngL 62 127 = plainL.map intP := by kernel_rfl
theorem far_len : farL.length = 159 := by decide +kernel
theorem plain_len : plainL.length = 95 := by decide +kernel
def farN (i : Int) : Nat := farL.getD (i.fmod 159).toNat 0
def plainN (i : Int) : Nat := plainL.getD (i.fmod 95).toNat 0
theorem far_lt : ∀ x ∈ farL, x < 256 := by decide +kernel
theorem plain_lt : ∀ x ∈ plainL, x < 256 := by decide +kernel
theorem fmod_rng {a b : Int} (h : 0 < b) : 0 ≤ a.fmod b ∧ a.fmod b < b := ⟨Int.fmod_nonneg_of_pos _ h, Int.fmod_lt_of_pos _ h⟩
theorem far_get (i : Int) : (farL.map intP)[(i.fmod 159).toNat]? = some (.int (farN i : Nat)) ∧ farN i < 256 ∧ farN i ∈ farL := by
  have h := fmod_rng (a := i) (b := 159) (by decide)
  have hl : (i.fmod 159).toNat < farL.length := by rw [far_len]; omega
  have e : farN i = farL[(i.fmod 159).toNat] := by unfold farN; rw [List.getD_eq_getElem?_getD, List.getElem?_eq_getElem hl]; rfl
  refine ⟨?_, ?_, ?_⟩
  · rw [List.getElem?_map, List.getElem?_eq_getElem hl, e]; rfl
  · rw [e]; exact far_lt _ (List.getElem_mem hl)
  · rw [e]; exact List.getElem_mem hl
theorem plain_get (i : Int) : (plainL.map intP)[(i.fmod 95).toNat]? = some (.int (plainN i : Nat)) ∧ plainN i < 256 ∧ plainN i ∈ plainL := by
  have h := fmod_rng (a := i) (b := 95) (by decide)
  have hl : (i.fmod 95).toNat < plainL.length := by rw [plain_len]; omega
  have e : plainN i = plainL[(i.fmod 95).toNat] := by unfold plainN; rw [List.getD_eq_getElem?_getD, List.getElem?_eq_getElem hl]; rfl
  refine ⟨?_, ?_, ?_⟩
  · rw [List.getElem?_map, List.getElem?_eq_getElem hl, e]; rfl
  · rw [e]; exact plain_lt _ (List.getElem_mem hl)
  · rw [e]; exact List.getElem_mem hl
def chrS (c : Nat) : Str := ⟨#[c]⟩
def signsL (rest : Int) (k : Int) : List Str := (List.range k.toNat).map fun i => chrS (plainN (rest + (i : Nat)))
def blockA (x size : Int) : Str := if size == 6 && (x.fdiv 159).fmod 2 == 1 then chrS (farN x) ++ chrS (farN ((x.fdiv 159).fdiv 2)) else chrS (farN x) ++ Txt.join "" (signsL (x.fdiv 159) (size - 3))
def blockB (x size : Int) : Str := if size == 6 && (x.fdiv 159).fmod 2 == 1 then hexS (farN x) ++ hexS (farN ((x.fdiv 159).fdiv 2)) else hexS (farN x) ++ Txt.join "" (signsL (x.fdiv 159) (size - 3))

section
variable {prog : Program} {w : World} {d : Adr} {h₀ : Heap} {n : Nat}
theorem hexS_len (c : Nat) : (hexS c).length = 3 := rfl
theorem chrS_len (c : Nat) : (chrS c).length = 1 := rfl
theorem signs_lens (rest k : Int) : ((signsL rest k).map (·.length)).sum = k.toNat ∧ (signsL rest k).length = k.toNat := by
  unfold signsL
  refine ⟨?_, by simp⟩
  rw [List.map_map]
  have : ((fun x : Str => x.length) ∘ fun i : Nat => chrS (plainN (rest + (i : Nat)))) = fun _ => 1 := by funext i; rfl
  rw [this, List.map_const', List.sum_replicate_nat, List.length_range, Nat.mul_one]
theorem xchr {T : Tabs} {env : Env} {σ : Sto} {np pos : Pos} {e : PySem.Expr} {c : Nat} (he : Ev prog w T h₀ n env σ e (.int c)) (hc : c < 256) (hn : Ev prog w T h₀ n env σ (.Name (Str.ofString "chr") np) (.raw (.builtin "chr"))) (hs : starEach [e] env = [(false, eval e env)] := by kernel_rfl) :
    Ev prog w T h₀ n env σ (.Call (.Name (Str.ofString "chr") np) [e] [] pos) (.str (chrS c)) :=
  xcall hn cbi (EvL_cons he xnil hs) (Pur_chr (by rw [decide_eq_false (by omega), decide_eq_false (by omega)]; rfl)) (by rw [hs]; rfl)
theorem block_pur (t : Top0 d h₀) {x size : Int} (h3 : 3 ≤ size) (h6 : size ≤ 6) : Pur prog w h₀ (n + 2) [.int x, .int size] (fun us => call (.ref d.block) us) (.tup [.str (blockA x size), .str (blockB x size)]) := by
  refine Fn2 (x1 := "number") (x2 := "size") [("far", none), ("plain", none), ("head", none), ("rest", none), ("tail", none), ("signs", none)] t.G t.block fun L pm cd doc => ?_
  refine Exs_cons (xassign (p := .list (farL.map intP)) (Ev_to (xladd (xladd (xladd (xladd (xlist (xrange1 Ev_int (xbi _)) (xbi _) ?_ ?_ ?_ ?_ ?_) (Ev_list (xcons Ev_int (xcons Ev_int xnil)) ?_) ?_) (xlist (xrange2 Ev_int Ev_int (xbi _)) (xbi _) ?_ ?_ ?_ ?_ ?_) ?_) (Ev_list (xcons Ev_int xnil) ?_) ?_) (xlist (xrange2 Ev_int Ev_int (xbi _)) (xbi _) ?_ ?_ ?_ ?_ ?_) ?_) (congrArg PV.list far_is))) ?_
  any_goals decide +kernel
  refine Exs_cons (xassign (p := .list (plainL.map intP)) (Ev_to (xladd (xladd (Ev_list (xcons Ev_int xnil) ?_) (xlist (xrange2 Ev_int Ev_int (xbi _)) (xbi _) ?_ ?_ ?_ ?_ ?_) ?_) (xlist (xrange2 Ev_int Ev_int (xbi _)) (xbi _) ?_ ?_ ?_ ?_ ?_) ?_) (congrArg PV.list plain_is))) ?_
  any_goals decide +kernel
  have hx := fmod_rng (a := x) (b := 159) (by decide)
  have hf := far_get x
  refine Exs_cons (Ex1_tup2 (p1 := .int (farN x : Nat)) (p2 := .int (x.fdiv 159)) (xtup2 (xsubl xvar (xmod xvar Ev_int rfl) hx.1 (by omega) hf.1) (xdiv xvar Ev_int rfl (by decide)))) ?_
  by_cases hc : (size == 6 && (x.fdiv 159).fmod 2 == 1) = true
  · have hg := far_get ((x.fdiv 159).fdiv 2)
    have hgr := fmod_rng (a := (x.fdiv 159).fdiv 2) (b := 159) (by decide)
    rw [show blockA x size = chrS (farN x) ++ chrS (farN ((x.fdiv 159).fdiv 2)) by unfold blockA; rw [if_pos hc], show blockB x size = hexS (farN x) ++ hexS (farN ((x.fdiv 159).fdiv 2)) by unfold blockB; rw [if_pos hc]]
    rw [Bool.and_eq_true] at hc
    refine Exs_stop (Ex1_if_t (EvB_op (EvA_and (b := true) (xcmp xvar Ev_int (hc.1 ▸ Cmp_eq)) (fun _ => EvA_and (b := true) (xcmp (xmod xvar Ev_int rfl) Ev_int (hc.2 ▸ Cmp_eq)) (fun _ => EvA_and_nil) (fun e => nomatch e)) (fun e => nomatch e))) ?_)
    refine Exs_cons (xassign (xsubl xvar (xmod (xdiv xvar Ev_int rfl (by decide)) Ev_int rfl) hgr.1 (by omega) hg.1)) ?_
    refine Exs_stop (Ex1_ret (xtup2 (xcat (xchr xvar hf.2.1 (xbi _)) (xchr xvar hg.2.1 (xbi _)) (by rw [chrS_len, chrS_len]; omega)) (xcat (xcall xfn t.esc.callable (xcons xvar xnil) (esc_pur t hf.2.1)) (xcall xfn t.esc.callable (xcons xvar xnil) (esc_pur t hg.2.1)) (by rw [hexS_len, hexS_len]; omega))))
  · rw [show blockA x size = chrS (farN x) ++ Txt.join "" (signsL (x.fdiv 159) (size - 3)) by unfold blockA; rw [if_neg hc], show blockB x size = hexS (farN x) ++ Txt.join "" (signsL (x.fdiv 159) (size - 3)) by unfold blockB; rw [if_neg hc]]
    refine Exs_cons (Ex1_if_f (EvB_op ?_) Exs_nil) ?_
    · by_cases h6' : (size == 6) = true
      · have h7 : ((x.fdiv 159).fmod 2 == 1) = false := by
          cases e : ((x.fdiv 159).fmod 2 == 1) with
          | false => rfl
          | true => exact absurd (by rw [h6', e]; rfl) hc
        exact EvA_and (b := true) (xcmp xvar Ev_int (h6' ▸ Cmp_eq)) (fun _ => EvA_and (b := false) (xcmp (xmod xvar Ev_int rfl) Ev_int (h7 ▸ Cmp_eq)) (fun e => nomatch e) (fun _ => rfl)) (fun e => nomatch e)
      · exact EvA_and (b := false) (xcmp xvar Ev_int (((Bool.not_eq_true _).mp h6') ▸ Cmp_eq)) (fun e => nomatch e) (fun _ => rfl)
    · have hl := signs_lens (x.fdiv 159) (size - 3)
      have hj : (Txt.join "" (signsL (x.fdiv 159) (size - 3))).length ≤ 3 := by
        refine Nat.le_trans (txt_join_len _ _) ?_
        rw [hl.1, hl.2, show ("" : Str).length = 0 from by decide +kernel]
        omega
      generalize hJ : Txt.join "" (signsL (x.fdiv 159) (size - 3)) = J at hj ⊢
      refine Exs_cons (xassign (p := .str J) (Ev_to (xjoin (x := "") (l := signsL (x.fdiv 159) (size - 3)) Ev_str (xcomp [("plain", some (.list (plainL.map intP))), ("rest", some (.int (x.fdiv 159)))] (fun _ => true) (fun p => match p with | .int j => .str (chrS (plainN (x.fdiv 159 + j))) | p => p)
        (xrng (xrange1 (xsubi xvar Ev_int) (xbi _)) (by omega) (by omega) (by omega) (by omega)) ?_ ?_ ?_) ?_) (congrArg PV.str hJ))) ?_
      · rw [rngL_length]; omega
      · intro p hp cl Ca
        obtain ⟨i, _, rfl⟩ := List.mem_map.mp hp
        have hpl := plain_get (x.fdiv 159 + (0 + (i : Nat)))
        have hpr := fmod_rng (a := x.fdiv 159 + (0 + (i : Nat))) (b := 95) (by decide)
        exact ⟨EvT_nil, fun _ => xchr (xsubl xvar (xmod (xadd xvar xvar) Ev_int rfl) hpr.1 (by omega) hpl.1) hpl.2.1 (xbi _)⟩
      · unfold signsL rngL
        rw [filter_tt, List.map_map, List.map_map, Int.sub_zero]
        refine List.map_congr_left fun i _ => ?_
        simp
      · rw [hl.1, hl.2, show ("" : Str).length = 0 from by decide +kernel]; omega
      · exact Exs_stop (Ex1_ret (xtup2 (xcat (xchr xvar hf.2.1 (xbi _)) xvar (le_add (Nat.le_of_eq (chrS_len _)) hj (by decide))) (xcat (xcall xfn t.esc.callable (xcons xvar xnil) (esc_pur t hf.2.1)) xvar (le_add (Nat.le_of_eq (hexS_len _)) hj (by decide)))))
end
end Mine
end

section
open PySem PySem.W PyProof.Rows
set_option Elab.async false
set_option maxRecDepth 100000
set_option maxHeartbeats 4000000
set_option linter.unusedVariables false
namespace Mine
theorem lk_append : typeLookup (.type "list") "append" = pure (some (.builtin "list.append")) := by rw [typeLookup_type, builtinLookup_eq_fast]; kernel_rfl
theorem ty_append : typeOf (.builtin "list.append") = pure (.type "method_descriptor") := by show builtinType _ = _; rw [builtinType_eq_fast]; kernel_rfl
theorem slot_md : Slot "method_descriptor" "__get__" "method_descriptor.__get__" :=
  .of (owner := "method_descriptor") (n := "__get__") (by rw [typeLookup_type, builtinLookup_eq_fast]; kernel_rfl) (by decide +kernel) (by decide +kernel) (by decide +kernel)
    (by first | exact .inl (by decide +kernel) | exact .inr (by decide +kernel)) (by rw [isSubtype_type]; kernel_rfl)
theorem entry_md : entryFor table "method_descriptor.__get__" = some Builtin.«method_descriptor.__get__» := entryFor_of_tree (by kernel_rfl)
theorem args_md (a b c : Value) : argsOk "method_descriptor.__get__" ⟨[a, b, c], []⟩ := by unfold argsOk; kernel_rfl
theorem md_set : typeLookup (.type "method_descriptor") "__set__" = pure none := by rw [typeLookup_type, builtinLookup_eq_fast]; kernel_rfl
theorem md_del : typeLookup (.type "method_descriptor") "__delete__" = pure none := by rw [typeLookup_type, builtinLookup_eq_fast]; kernel_rfl
theorem sub_list : isSubtype (.type "list") (.type "list") = pure true := by rw [isSubtype_type]; kernel_rfl
section
variable {prog : Program} {w : World} {A : Around} {E : Value → Shared → Prop} {a : Addr}
theorem run_md {s : Shared} {vs : Array Value} {P : Fin → Shared → Prop} (hl : s.heap.PlainList a vs) (h : P (.done (.ret (.ref s.heap.objs.size))) { s with heap := s.heap.push (boundObj a) }) :
    wpAny (model prog w) A (Builtin.«method_descriptor.__get__» ⟨[.builtin "list.append", .ref a, .type "list"], []⟩) P E s := by
  have hT : s.TypeIs (.ref a) "list" := hl.isList.typeIs
  have f1 := sub_list
  unfold Builtin.«method_descriptor.__get__»
  refine wpAny_bind (wpAny_of_eq (a := (.builtin "list.append", some (.ref a), some (.type "list"))) (by kernel_rfl) ?_)
  dsimp only
  rw [show Manifest.toldItsClass.contains "list.append" = false by decide +kernel]
  simp only [Bool.false_eq_true, if_false]
  refine wpAny_bind ?_
  refine wpAny_bind ?_
  refine wpAny_of_eq (a := ((Str.ofString "append", Value.type "list") : Str × Value)) (by first | rfl | kernel_rfl) ?_
  dsimp only
  refine wpAny_bind (wpAny_isInstance (T := "list") (b := true) hT f1 ?_)
  simp only [Bool.not_true, Bool.false_eq_true, if_false]
  refine wpAny_pure ?_
  exact wpAny_bind (wpAny_newObj_type (wpAny_pure h))
theorem slot_ga : Slot "list" "__getattribute__" "list.__getattribute__" := F.slot_list_getattribute
theorem find_append {s : Shared} {vs : Array Value} {tk : Tok} {Q : Fin → Shared → Prop} (hl : s.heap.PlainList a vs) (h : Q (.done (.ret (.ref s.heap.objs.size))) { s with heap := s.heap.push (boundObj a) }) :
    wpAny (model prog w) A (Builtin.«object.__getattribute__» ⟨[.ref a, .str "append" tk], []⟩) Q E s := by
  obtain ⟨hp, g, d, t, os⟩ := s
  have hT : (⟨hp, g, d, t, os⟩ : Shared).TypeIs (.ref a) "list" := hl.isList.typeIs
  have hT5 : (⟨hp, g, d, t, os⟩ : Shared).TypeIs (.builtin "list.append") "method_descriptor" := ty_append
  have f4 := lk_append
  have f5 := ty_append
  have f6 := slot_md.lookup
  have f7 := md_set
  have f8 := md_del
  obtain ⟨k, hx⟩ := id hl
  unfold Builtin.«object.__getattribute__»
  repeat (any_goals (first | assumption | wp_step))
  refine codeAny_call_builtin slot_md.plain entry_md (slot_md.check _ _ _ _ _ _ _ _ hT5 (args_md _ _ _) (run_md hl ?_))
  exact wpAny_pure h
theorem call_ga {s : Shared} {vs : Array Value} {tk : Tok} {R : Result → Shared → Prop} (hl : s.heap.PlainList a vs) (h : R (.ok (.ret (.ref s.heap.objs.size))) { s with heap := s.heap.push (boundObj a) }) :
    codeAny (model prog w) A (.call (.builtin "list.__getattribute__") ⟨[.ref a, .str "append" tk], []⟩) R s :=
  codeAny_call_builtin F.slot_list_getattribute.plain F.entry_list_ga (F.slot_list_getattribute.check _ _ _ _ _ _ _ _ hl.isList.typeIs (F.args_list_getattribute_2 _ _) (find_append hl h))
theorem getAttr_append {s : Shared} {vs : Array Value} {Q : Value → Shared → Prop} (hl : s.heap.PlainList a vs) (h : Q (.ref s.heap.objs.size) { s with heap := s.heap.push (boundObj a), toks := s.toks + 1 }) :
    wpAny (model prog w) A (getAttr (.ref a) "append" true) Q E s := by
  obtain ⟨hp, g, d, tk, os⟩ := s
  have hT : ∀ tk', (⟨hp, g, d, tk', os⟩ : Shared).TypeIs (.ref a) "list" := fun _ => hl.isList.typeIs
  have hT1 : (⟨hp, g, d, tk + 1, os⟩ : Shared).TypeIs (.ref a) "list" := hl.isList.typeIs
  have f3 := F.slot_list_getattribute.lookup
  have f4 := F.slot_list_getattribute.bind (.ref a)
  unfold getAttr getAttrBy
  repeat (any_goals (first | assumption | exact hT _ | wp_step))
  refine call_ga hl ?_
  repeat (any_goals (first | assumption | exact hT _ | wp_step))
  all_goals trace_state
theorem lm_sub : isSubtype (.type "list") (.type "module") = pure false := by rw [isSubtype_type]; kernel_rfl
theorem check_bound {s : Shared} {x : Value} {vs : Array Value} {Q : Unit → Shared → Prop} (hl : s.heap.PlainList a vs) (h : Q () s) : wpAny (model prog w) A (checkBoundCall "list.append" ⟨[.ref a, x], []⟩) Q E s := by
  have hT : s.TypeIs (.ref a) "list" := hl.isList.typeIs
  have f1 := lm_sub
  obtain ⟨k, ho⟩ := hl
  have hs : Manifest.signature? "list.append" = some ((Manifest.signature? "list.append").get (by decide +kernel)) := (Option.some_get _).symm
  have hb : builtinKind "list.append" = some .method := by kernel_rfl
  unfold checkBoundCall
  rw [hs]
  dsimp only
  rw [hb]
  dsimp only
  rw [if_neg (by decide)]
  refine wpAny_bind (wpAny_isInstance (T := "list") (b := false) hT f1 ?_)
  rw [if_neg (by decide +kernel)]
  refine wpAny_bind ?_
  unfold isType
  refine wpAny_bind (wpAny_loadPart ho (wpAny_pure ?_))
  dsimp only
  rw [if_neg (by decide)]
  refine wpAny_bind (wpAny_typeOf hT ?_)
  exact wpAny_of_eq (by kernel_rfl) h
theorem call_bound {s : Shared} {b : Addr} {vs : Array Value} {x : Value} {Q : Value → Shared → Prop} (hb : s.heap.get? b = some (boundObj a)) (hl : s.heap.PlainList a vs) (hsz : vs.size ≤ sizeLine)
    (h : ∀ h', h'.PlainList a (vs.push x) → Heap.SameBut a s.heap h' → Q .none { s with heap := h' }) : wpAny (model prog w) A (call (.ref b) [x]) Q E s := by
  refine wpAny_call (codeAny_of_tree ?_)
  show wpAny _ A.in1 (callAny (.ref b) ⟨[x], []⟩) _ _ s
  simp only [callAny]
  refine wpAny_bind (wpAny_load hb ?_)
  simp only [boundObj, show (Value.type "builtin_function_or_method" == Value.type "method" || Value.type "builtin_function_or_method" == Value.type "builtin_function_or_method" || Value.type "builtin_function_or_method" == Value.type "method-wrapper") = true by decide, if_true]
  refine PySem.W.KFB.if_so (by decide) ?_
  refine wpAny_bind (check_bound hl ?_)
  refine wpAny_bind (wpAny_pure (wpAny_pure ?_))
  refine ⟨Code.quiet_builtin _ (by decide +kernel), codeAny_builtin entry_list_append ?_⟩
  obtain ⟨n, ho⟩ := hl
  show wpAny _ _ (updateSeq a (·.push x) >>= fun _ => ret .none) _ _ s
  refine wpAny_bind ?_
  refine wpAny_updateSeq ho rfl (wpAny_pure (h _ ⟨n + 1, ?_⟩ (Heap.SameBut.update ..)))
  rw [Heap.get?_update_self _ ho (by rw [Obj.mapSeq_push_plain]; rfl), Obj.mapSeq_push_plain]
end
section
variable {prog : Program} {w : World} {T : Tabs} {h₀ : Heap} {n : Nat} {env : Env} {σ : Sto} {own : Own}

theorem Ctx.ownAt {H W : List Addr} {h h' : Heap} {a : Addr} {vs : List Value} {ps : List PV} (C : Ctx T h₀ H W env σ ((a, ps) :: own) h) {us : List Value} {qs : List PV} (hl : h'.PlainList a us.toArray) (hv : VL (W ++ H) h us qs) (sb : Heap.SameBut a h h') : Ctx T h₀ H W env σ ((a, qs) :: own) h' := by
  obtain ⟨aW, vs0, ⟨k0, pl0⟩, lv0⟩ := C.O (a, ps) List.mem_cons_self
  have ka : ∀ b o, b ≠ a → h.get? b = some o → h'.get? b = some o := fun b o q e => sb.extBut b o q e
  have kk : KeepsOff (W ++ H) h h' := fun b o q e => ka b o (fun z => q (z ▸ List.mem_append_left _ aW)) e
  have a0 : h₀.get? a = none := C.R.new a aW
  obtain ⟨m, hm, hvs⟩ := C.E.vars
  have nl : env.locals ≠ a := fun q => by
    obtain ⟨o, es, ep, e1, e2, _⟩ := hm
    rw [q] at e1
    have : h.get? a = some { cls := .type "list", data := .seq vs0.toArray k0 } := pl0
    rw [this] at e1; cases e1; cases e2
  refine ⟨⟨C.E.kind, C.E.glb, C.E.blt, C.E.G, fun b o e => ka b o (fun z => by rw [z, a0] at e; cases e) (C.E.ext b o e), m, hm.sameBut sb nl, fun x o e => ?_⟩, fun b q => ?_, C.R, fun q hq => ?_, ?_, C.D, C.C, fun q hq => ?_⟩
  · rcases hvs x o e with ⟨b, c⟩ | ⟨c, u, b, d, e1, f⟩
    · exact .inl ⟨b, fun p q => let ⟨v, y, z⟩ := c p q; ⟨v, y, z.mono kk⟩⟩
    · refine .inr ⟨c, u, b, d, e1.sameBut sb fun q => ?_, fun p q => let ⟨v, y, z⟩ := f p q; ⟨v, y, z.mono kk⟩⟩
      obtain ⟨o', g1, g2⟩ := e1
      have : h.get? a = some { cls := .type "list", data := .seq vs0.toArray k0 } := pl0
      rw [q, this] at g1; cases g1; cases g2
  · by_cases e : b = a
    · obtain ⟨k1, pl1⟩ := hl
      exact e ▸ ⟨_, pl1⟩
    · obtain ⟨o, ho⟩ := C.L b q
      exact ⟨o, ka b o e ho⟩
  · rcases List.mem_cons.mp hq with rfl | hq
    · exact ⟨aW, us, hl, hv.mono kk⟩
    · obtain ⟨b, vs', ⟨k1, c⟩, e⟩ := C.O q (List.mem_cons_of_mem _ hq)
      refine ⟨b, vs', ⟨k1, ka _ _ (fun z => ?_) c⟩, e.mono kk⟩
      have nd := C.N
      rw [List.map_cons, List.nodup_cons] at nd
      exact nd.1 (List.mem_map.mpr ⟨q, hq, z⟩)
  · have nd := C.N
    rw [List.map_cons] at nd ⊢
    exact nd
  · rcases List.mem_cons.mp hq with rfl | hq
    · exact C.X (a, ps) List.mem_cons_self
    · exact C.X q (List.mem_cons_of_mem _ hq)
theorem own_keep {W : List Addr} {h h' : Heap} {a : Addr} (aW : a ∈ W) (sb : Heap.SameBut a h h') : KeepsOff W h h' := fun b o q e => sb.extBut b o (fun z => q (z ▸ aW)) e

theorem Ex1_bound {x y : Str} {p1 p2 p3 pos : Pos} {a : Addr} {ps : List PV} {σ' : Sto} (hx : List.Mem (x, some (.raw (.ref a))) σ) (u : Upd y (.bnd a) σ σ') (hd : (x == ("__debug__" : Str)) = false) (hy : Storable env y = true)
    (hs : swapsWith (.Attribute (.Name x p1) (Str.ofString "append") p2) (some (.Name y p3)) pos.line env = pure false) :
    Ex1 prog w T h₀ n env σ ((a, ps) :: own) (.Assign [.Name y p3] (.Attribute (.Name x p1) (Str.ofString "append") p2) pos) (.next σ' ((a, ps) :: own)) := fun A H W s Q E rm C hQ =>
  wpAny_Assign_Name (hs := hs) (Attribute_name (Ev_var hx hd A (W ++ H) s _ E rm C.E C.L fun v h1 t1 k1 v1 => by
    obtain rfl := v1.raw_inv
    obtain ⟨aW, vs, pl, lv⟩ := (C.ext k1).O (a, ps) List.mem_cons_self
    have k2 := Ext.push h1 (boundObj a)
    refine getAttr_append pl ?_
    have C2 := (C.ext k1).ext k2
    refine store_ C2 u hy (.bnd (C.L.ext k1).off (Heap.get?_push_size _ rfl)) fun h'' tk' k' _ C' => hQ .next h'' tk' (KeepsOff.trans (.ext (k1.trans k2)) k') ⟨rfl, W, fun _ q => q, fun _ q => .inl q, C'⟩))

theorem Ex1_append {x : Str} {p1 p2 pos : Pos} {e : PySem.Expr} {a : Addr} {ps : List PV} {p : PV} (hx : List.Mem (x, some (.bnd a)) σ) (he : Ev prog w T h₀ n env σ e p) (hsz : ps.length ≤ 1000000) (hd : (x == ("__debug__" : Str)) = false) (hst : starEach [e] env = [(false, eval e env)])
    (hi : interactive env = false) (hs : swapsWith (.Call (.Name x p1) [e] [] p2) none pos.line env = pure false) :
    Ex1 prog w T h₀ n env σ ((a, ps) :: own) (.Expr (.Call (.Name x p1) [e] [] p2) pos) (.next σ ((a, ps ++ [p]) :: own)) := fun A H W s Q E rm C hQ => by
  refine wpAny_Expr (hi := hi) (hs := hs) ?_
  show wpAny _ A (do callWith p2 (← eval (.Name x p1) env) [] (backTo p2 (starEach [e] env)) (backToKw p2 (keywordEach [] env))) _ E s
  refine wpAny_bind (Ev_var hx hd A (W ++ H) s _ E rm C.E C.L fun v h1 t1 k1 v1 => ?_)
  obtain ⟨b, rfl, nb, hb⟩ := v1.bnd_inv
  rw [hst]
  show wpAny _ A (callWith p2 (.ref b) [] (backTo p2 [(false, eval e env)]) []) _ E _
  unfold callWith
  refine wpAny_bind (wpAny_holding ?_)
  have C1 := C.ext k1
  refine evalArgs_spliced rfl (Calls.spliced_cons (he A (W ++ H) _ _ _ rm C1.E C1.L fun z h2 t2 k2 z1 => Calls.spliced_nil ?_))
  refine wpAny_bind (wpAny_standAt ?_)
  have hb2 : h2.get? b = some (boundObj a) := k2 _ _ hb
  have C2 := C1.ext k2
  obtain ⟨aW, vs, pl, lv⟩ := C2.O (a, ps) List.mem_cons_self
  refine wpAny_bind (m := keeperOf (.ref b)) ?_
  unfold keeperOf
  refine wpAny_bind (wpAny_load hb2 ?_)
  simp only [boundObj, show (Value.type "builtin_function_or_method" != Value.type "method") = true by decide, show (Value.type "builtin_function_or_method" == Value.type "builtin_function_or_method" || Value.type "builtin_function_or_method" == Value.type "method-wrapper") = true by decide, if_true]
  refine wpAny_pure ?_
  refine wpAny_bind (call_bound hb2 pl (by rw [List.size_toArray, lv.length]; exact size_of hsz) fun h3 pl3 sb => ?_)
  refine wpAny_bind (wpAny_holding (wpAny_point (wpAny_pure ?_)))
  have pl3' : h3.PlainList a (vs ++ [z]).toArray := by simpa using pl3
  exact hQ .next h3 t2 (KeepsOff.trans (.ext (k1.trans k2)) (own_keep aW sb)) ⟨rfl, W, fun _ q => q, fun _ q => .inl q, Ctx.ownAt (vs := vs) C2 pl3' (lv.append (.cons z1 .nil)) sb⟩

theorem Exs_freeze {x : Str} {a : Addr} {ps : List PV} {rest : List Stmt} {p : PV} {σ' : Sto} (hx : List.Mem (x, some (.raw (.ref a))) σ) (u : Upd x (.list ps) σ σ') (h : Exs prog w T h₀ n env σ' own rest (.ret p)) : Exs prog w T h₀ n env σ ((a, ps) :: own) rest (.ret p) := fun A H W s Q E rm C hQ => by
  obtain ⟨aW, vs, pl, lv⟩ := C.O (a, ps) List.mem_cons_self
  have sub : ∀ c ∈ W.filter (· != a) ++ H, c ∈ W ++ H := fun c q => (List.mem_append.mp q).elim (fun q => List.mem_append_left _ (List.mem_filter.mp q).1) (List.mem_append_right _)
  have na : a ∉ W.filter (· != a) ++ H := fun q => (List.mem_append.mp q).elim (fun q => by have := (List.mem_filter.mp q).2; simp at this) (C.D a aW)
  obtain ⟨m, hm, hv⟩ := C.E.vars
  have aobj : ∀ {o : Obj}, s.heap.get? a = some o → ∃ k, o = { cls := .type "list", data := .seq vs.toArray k } := fun e => by
    obtain ⟨k, z⟩ := pl; rw [z] at e; cases e; exact ⟨k, rfl⟩
  have keepW : ∀ c ∈ W, c ≠ a → c ∈ W.filter (· != a) := fun c q z => List.mem_filter.mpr ⟨q, by simpa using z⟩
  have nd := C.N
  rw [List.map_cons, List.nodup_cons] at nd
  have nl : env.locals ≠ a := fun q => by
    obtain ⟨o, es, ep, e1, e2, _⟩ := hm
    rw [q] at e1
    obtain ⟨k, rfl⟩ := aobj e1
    cases e2
  refine h A H (W.filter (· != a)) s Q E rm ⟨⟨C.E.kind, C.E.glb, C.E.blt, C.E.G, C.E.ext, m, hm, fun y o hy => ?_⟩, fun b q => C.L b (sub b q), ⟨keepW _ C.R.loc nl, fun y c q z => keepW _ (C.R.cel y c q z) (C.X (a, ps) List.mem_cons_self y c z), C.R.apart, fun b q => C.R.new b (List.mem_filter.mp q).1, by rw [u.names]; exact C.R.names⟩, fun q hq => ?_, nd.2, fun b q => C.D b (List.mem_filter.mp q).1, fun y c e => ?_, fun q hq => C.X q (List.mem_cons_of_mem _ hq)⟩
    fun fl h' tk k af => hQ fl h' tk (fun b o q e => k b o (fun z => q (List.mem_filter.mp z).1) e) af
  · have hl : V (W.filter (· != a) ++ H) s.heap (.ref a) (.list ps) := .list na pl (lv.weak sub)
    rcases u.mem C.R.names y o hy with ⟨rfl, rfl⟩ | ⟨ne, hy⟩
    · rcases hv y _ hx with ⟨b, c⟩ | ⟨c, w', b, d, e1, f⟩
      · refine .inl ⟨b, fun q e => ?_⟩
        cases e
        obtain ⟨v, y1, y2⟩ := c _ rfl
        obtain rfl := y2.raw_inv
        exact ⟨_, y1, hl⟩
      · refine .inr ⟨c, w', b, d, e1, fun q e => ?_⟩
        cases e
        obtain ⟨v, y1, y2⟩ := f _ rfl
        obtain rfl := y2.raw_inv
        exact ⟨_, y1, hl⟩
    · rcases hv y o hy with ⟨b, c⟩ | ⟨c, w', b, d, e1, f⟩
      · exact .inl ⟨b, fun q e => let ⟨v, y1, z⟩ := c q e; ⟨v, y1, z.weak sub⟩⟩
      · exact .inr ⟨c, w', b, d, e1, fun q e => let ⟨v, y1, z⟩ := f q e; ⟨v, y1, z.weak sub⟩⟩
  · obtain ⟨b, vs', c, e⟩ := C.O q (List.mem_cons_of_mem _ hq)
    exact ⟨keepW _ b (fun z => nd.1 (List.mem_map.mpr ⟨q, hq, z⟩)), vs', c, e.weak sub⟩
  · rcases List.mem_append.mp (C.C y c e) with q | q
    · exact List.mem_append_left _ (keepW _ q (C.X (a, ps) List.mem_cons_self y c e))
    · exact List.mem_append_right _ q
end
end Mine
end

section
open PySem PySem.W PyProof.Rows PySem.Builtin PySem.Builtin.Str
set_option Elab.async false
set_option maxRecDepth 100000
set_option maxHeartbeats 4000000
set_option linter.unusedVariables false
namespace Mine
section
variable {prog : Program} {w : World} {A : Around} {E : Value → Shared → Prop} {a : Addr}
theorem tr_look {s : Shared} {vs : List Value} {c : Nat} {y : Str} {t : Tok} {Q : Mapped → Shared → Prop} (hl : s.heap.PlainList a vs.toArray) (hc : c < 256) (hv : vs[c]? = some (.str y t)) (h : ∀ tk, Q (.text y) { s with toks := tk }) : wpAny (model prog w) A (tableLookup (.ref a) c) Q E s := by
  unfold tableLookup
  refine wpAny_bind (wpAny_attempt ?_)
  refine wpAny_bind (wpAny_mkInt ?_)
  refine wpAny_getItem_list (k := (c : Int)) hl.isList (by omega) (by omega) (by simpa using hv) ?_
  dsimp only
  refine wpAny_bind (wpAny_of_eq (a := none) (by rfl) ?_)
  dsimp only
  refine wpAny_bind (wpAny_of_eq (a := some y) (by rfl) ?_)
  exact wpAny_pure (h _)
def KnownOk (m : Nat → Str) (known : List (Nat × Option Nat)) : Prop := ∀ q ∈ known, ∃ d, q.2 = some d ∧ m q.1 = ⟨#[d]⟩
theorem KnownOk.look {m : Nat → Str} : ∀ {known : List (Nat × Option Nat)} {c : Nat} {v : Option Nat}, KnownOk m known → known.lookup c = some v → ∃ d, v = some d ∧ m c = ⟨#[d]⟩
  | [], _, _, _, e => nomatch e
  | (k, u) :: r, c, v, h, e => by
    rw [List.lookup_cons] at e
    cases hk : c == k with
    | true =>
      rw [hk] at e
      cases e
      have := h (k, u) List.mem_cons_self
      rw [eq_of_beq hk]
      exact this
    | false =>
      rw [hk] at e
      exact KnownOk.look (fun q hq => h q (List.mem_cons_of_mem _ hq)) e
theorem tr_loop {m : Nat → Str} {vs : List Value} (hm : ∀ c, c < 256 → ∃ t, vs[c]? = some (.str (m c) t)) (hlen : ∀ c, c < 256 → (m c).length ≤ 3) {F : Nat → List Str × Nat × Bool × List (Nat × Option Nat) × Bool → Sem (ForInStep (List Str × Nat × Bool × List (Nat × Option Nat) × Bool))}
    (step : ∀ c p tot fast known (s : Shared) (Q : ForInStep (List Str × Nat × Bool × List (Nat × Option Nat) × Bool) → Shared → Prop), c < 256 → tot ≤ 1000000 → KnownOk m known → s.heap.PlainList a vs.toArray →
      (∀ fast' known' tk, KnownOk m known' → Q (.yield (m c :: p, tot + (m c).length, fast', known', false)) { s with toks := tk }) → wpAny (model prog w) A (F c (p, tot, fast, known, false)) Q E s) :
    ∀ (l : List Nat) (p : List Str) (tot : Nat) (fast : Bool) (known : List (Nat × Option Nat)) (s : Shared) (Q : List Str × Nat × Bool × List (Nat × Option Nat) × Bool → Shared → Prop), (∀ c ∈ l, c < 256) → tot + 3 * l.length ≤ 1000000 → KnownOk m known → s.heap.PlainList a vs.toArray →
      (∀ tot' fast' known' tk, tot' ≤ 1000000 → Q ((l.map m).reverse ++ p, tot', fast', known', false) { s with toks := tk }) → wpAny (model prog w) A (forIn l (p, tot, fast, known, false) F) Q E s
  | [], p, tot, fast, known, s, Q, _, ht, hk, hl, h => by
    rw [List.forIn_nil]
    exact wpAny_pure (h tot fast known s.toks (by simpa using ht))
  | c :: r, p, tot, fast, known, s, Q, hc, ht, hk, hl, h => by
    rw [List.forIn_cons]
    rw [List.length_cons] at ht
    have hc0 := hc c List.mem_cons_self
    have hl0 := hlen c hc0
    refine wpAny_bind (step c p tot fast known s _ hc0 (by omega) hk hl fun fast' known' tk hk' => ?_)
    refine tr_loop hm hlen step r _ _ _ _ _ _ (fun d q => hc d (List.mem_cons_of_mem _ q)) (by omega) hk' hl fun tot' fast'' known'' tk' ht' => ?_
    have := h tot' fast'' known'' tk' ht'
    rw [List.map_cons, List.reverse_cons, List.append_assoc] at this
    exact this

def trS (m : Nat → Str) (x : Str) : Str := ⟨(x.cps.toList.flatMap fun c => (m c).cps.toList).toArray⟩
theorem fold_pieces : ∀ (l : List Str) (acc : Array Nat), l.foldl (fun acc p => acc ++ p.cps) acc = (acc.toList ++ l.flatMap fun p => p.cps.toList).toArray
  | [], acc => by simp
  | p :: r, acc => by
    rw [List.foldl_cons, fold_pieces r]
    simp
theorem tr_post {s : Shared} {x : Str} {t : Tok} {m : Nat → Str} {vs : List Value} {Q : Value → Shared → Prop} (hl : s.heap.PlainList a vs.toArray) (hm : ∀ c, c < 256 → ∃ t, vs[c]? = some (.str (m c) t)) (hlen : ∀ c, c < 256 → (m c).length ≤ 3)
    (hx : ∀ c ∈ x.cps.toList, c < 256) (h0 : x.length ≠ 0) (hsz : x.length ≤ 10000) (h : ∀ t' tk, Q (.str (trS m x) t') { s with toks := tk }) : wpAny (model prog w) A (Builtin.«str.translate» ⟨[.str x t, .ref a], []⟩) (fun f s' => ∃ v, f = .done (.ret v) ∧ Q v s') E s := by
  unfold Builtin.«str.translate»
  refine wpAny_bind (wpAny_of_eq (a := (.str x t, x, .ref a)) (by first | rfl | kernel_rfl) ?_)
  dsimp only
  rw [if_neg (by simpa using h0)]
  refine wpAny_bind ?_
  rw [← Array.forIn_toList]
  refine tr_loop (m := m) (vs := vs) hm hlen ?_ x.cps.toList [] 0 _ [] s _ hx (by rw [Array.length_toList]; show 0 + 3 * x.length ≤ _; omega) (fun q hq => nomatch hq) hl ?_
  · intro c p tot fast known s Q hc ht hk hl h
    obtain ⟨t', hv⟩ := hm c hc
    have htl : tooLong tot = false := by unfold tooLong; rw [decide_eq_false]; rw [sizeLine_eq]; omega
    dsimp only
    rw [if_neg (by rw [htl]; decide)]
    cases fast with
    | false =>
      rw [if_neg (by decide), if_neg (by decide)]
      exact wpAny_bind (tr_look hl hc hv fun tk => wpAny_pure (h _ _ _ hk))
    | true =>
      rw [if_pos rfl]
      cases hkn : known.lookup c with
      | some v =>
        obtain ⟨d, rfl, hd⟩ := hk.look hkn
        dsimp only
        refine wpAny_bind (wpAny_pure ?_)
        dsimp only
        have := h true known s.toks hk
        rw [hd] at this
        exact wpAny_pure this
      | none =>
        dsimp only
        refine wpAny_bind (tr_look hl hc hv fun tk => ?_)
        dsimp only
        by_cases h1 : ((m c).length == 1 && (m c).cps.all fun x => decide (x < 128)) = true
        · rw [if_pos h1]
          rw [Bool.and_eq_true] at h1
          obtain ⟨d, hd⟩ : ∃ d, m c = ⟨#[d]⟩ := by
            have h2 : (m c).cps.size = 1 := by simpa [Str.length] using h1.1
            obtain ⟨d, hd⟩ := Array.size_eq_one_iff.mp h2
            exact ⟨d, by cases hmc : m c; rw [hmc] at hd; simp only at hd; rw [hd]⟩
          have := h true ((c, some d) :: known) tk (fun q hq => by
            rcases List.mem_cons.mp hq with rfl | hq
            · exact ⟨d, rfl, hd⟩
            · exact hk q hq)
          rw [hd] at this ⊢
          exact wpAny_bind (wpAny_pure (wpAny_pure this))
        · rw [if_neg h1]
          dsimp only
          refine wpAny_bind (wpAny_pure ?_)
          dsimp only
          refine wpAny_bind (wpAny_rule ?_)
          rw [if_neg (by decide)]
          exact wpAny_bind (tr_look (s := { s with toks := tk }) hl hc hv fun tk' => wpAny_pure (h _ _ _ hk))
  · intro tot' fast' known' tk ht'
    have htl : tooLong tot' = false := by unfold tooLong; rw [decide_eq_false]; rw [sizeLine_eq]; omega
    dsimp only
    rw [if_neg (by rw [htl]; decide)]
    have e : (⟨List.foldl (fun acc p => acc ++ p.cps) #[] ((List.map m x.cps.toList).reverse ++ []).reverse⟩ : Str) = trS m x := by
      rw [List.append_nil, List.reverse_reverse, fold_pieces]
      unfold trS
      simp [List.flatMap_map]
    rw [e]
    unfold retStr
    refine wpAny_bind (wpAny_mkStr (wpAny_pure ⟨_, rfl, h _ _⟩) ?_)
    have hb : ∀ l : List Nat, (∀ c ∈ l, c < 256) → (l.flatMap fun c => (m c).cps.toList).length ≤ 3 * l.length := by
      intro l
      induction l with
      | nil => intro _; simp
      | cons c r ih =>
        intro hl
        have h1 := ih fun d q => hl d (List.mem_cons_of_mem _ q)
        have h2 := hlen c (hl c List.mem_cons_self)
        have h3 : (m c).cps.toList.length = (m c).length := by simp [Str.length]
        rw [List.flatMap_cons, List.length_append, h3, List.length_cons]
        omega
    have h2 := hb x.cps.toList hx
    have h3 : (trS m x).length = (x.cps.toList.flatMap fun c => (m c).cps.toList).length := by unfold trS; simp [Str.length]
    rw [h3]
    have h4 : x.cps.toList.length = x.length := by simp [Str.length]
    exact size_of (by omega)
end
section
variable {prog : Program} {w : World} {T : Tabs} {h₀ : Heap} {n : Nat} {env : Env} {σ : Sto} {own : Own}
theorem Ev_translate {o e : PySem.Expr} {apos pos : Pos} {x : Str} {a : Addr} {vs : List Value} {m : Nat → Str} (ho : Ev prog w T h₀ n env σ o (.str x)) (he : Ev prog w T h₀ n env σ e (.raw (.ref a))) (hl : h₀.PlainList a vs.toArray) (hm : ∀ c, c < 256 → ∃ t, vs[c]? = some (.str (m c) t)) (hlen : ∀ c, c < 256 → (m c).length ≤ 3)
    (hx : ∀ c ∈ x.cps.toList, c < 256) (h0 : x.length ≠ 0) (hsz : x.length ≤ 10000)
    (hbase : attributeBase o (Str.ofString "translate") env (eval o env) = eval o env := by kernel_rfl) (hs : starEach [e] env = [(false, eval e env)] := by kernel_rfl) (hline : (apos.endLine == pos.line) = true := by kernel_rfl) :
    Ev prog w T h₀ n env σ (.Call (.Attribute o (Str.ofString "translate") apos) [e] [] pos) (.str (trS m x)) := fun A H s Q E rm C lv hQ =>
  Call_method1 hbase hs hline (ho A H s _ E rm C lv fun v h1 t1 k1 v1 => by
    obtain ⟨t, rfl⟩ := v1.str_inv
    refine ⟨"str", _, F.plainAttrs_str, F.slot_str_translate, F.type_str_translate, typeIs_str _ _ _, (fun _ e => nomatch e), ?_⟩
    refine callWith_any (first := [.str x t]) rfl (.inl ⟨_, rfl⟩) (Calls.spliced_cons (he A H _ _ E rm (C.ext' k1) (lv.ext k1) fun u h2 t2 k2 v2 => Calls.spliced_nil ⟨k2, ?_⟩))
    obtain rfl := v2.raw_inv
    have pl : h2.PlainList a vs.toArray := hl.at fun o e => k2 _ _ (k1 _ _ (C.ext _ _ e))
    exact wpAny_call_entry F.slot_str_translate (typeIs_str _ _ _) F.entry_str_translate (tr_post pl hm hlen hx h0 hsz fun t' tk => hQ _ _ _ (k1.trans k2) (.str _ _)) (F.args_str_translate_2 _ _))
theorem strSub_whole (x : Str) : strSub x 0 x.length = x := by
  unfold strSub
  cases x
  simp [Str.length]
theorem VL.strsFrom {H : List Addr} {h : Heap} : ∀ (l : List Str) (t : Tok), VL H h (strsFrom t l) (l.map .str)
  | [], _ => .nil
  | x :: r, t => .cons (.str _ _) (VL.strsFrom r _)
theorem Ev_splitlines {o : PySem.Expr} {apos pos : Pos} {x : Str} (ho : Ev prog w T h₀ n env σ o (.str x)) (hsz : x.length ≤ 100000) (hc : (lineCuts x).length ≤ 100000)
    (hbase : attributeBase o (Str.ofString "splitlines") env (eval o env) = eval o env := by kernel_rfl) (hline : (apos.endLine == pos.line) = true := by kernel_rfl) :
    Ev prog w T h₀ n env σ (.Call (.Attribute o (Str.ofString "splitlines") apos) [] [] pos) (.list ((linesOf x).map .str)) := fun A H s Q E rm C lv hQ =>
  Call_method0 hbase hline (ho A H s _ E rm C lv fun v h1 t1 k1 v1 => by
    obtain ⟨t, rfl⟩ := v1.str_inv
    refine ⟨"str", _, F.plainAttrs_str, F.slot_str_splitlines, F.type_str_splitlines, typeIs_str _ _ _, (fun _ e => nomatch e), ?_⟩
    refine callWith_any (first := [.str x t]) rfl (.inl ⟨_, rfl⟩) (Calls.spliced_nil ⟨.refl _, ?_⟩)
    refine call_meets F.slot_str_splitlines (typeIs_str _ _ _) F.entry_str_splitlines (F.args_str_splitlines_1 _) (meets_str_splitlines x t (size_of (by omega)) (size_of (by omega))) ?_
    split
    · rename_i hq
      have e : linesOf x = [x] := by
        unfold linesOf
        rw [eq_of_beq hq, List.map_cons, List.map_nil, strSub_whole]
      rw [e] at hQ
      exact hQ _ _ _ (k1.trans (Ext.push _ _)) (.list (vs := [.str x t]) (lv.ext k1).off ⟨_, Heap.get?_push_size _ rfl⟩ (.cons (.str _ _) .nil))
    · exact hQ _ _ _ (k1.trans (Ext.push _ _)) (.list (lv.ext k1).off ⟨_, Heap.get?_push_size _ rfl⟩ (VL.strsFrom _ _)))
end
end Mine
end

section
open PySem PySem.W PyProof.Rows
set_option Elab.async false
set_option maxRecDepth 100000
set_option maxHeartbeats 4000000
set_option linter.unusedVariables false
namespace Mine
section
variable {prog : Program} {w : World} {T : Tabs} {h₀ : Heap} {n : Nat} {env : Env} {σ : Sto} {own : Own}

inductive Fg : Sto → Sto → Prop
  | nil : Fg [] []
  | keep {q : Str × Option PV} {a b : Sto} : Fg a b → Fg (q :: a) (q :: b)
  | drop {x : Str} {o : Option PV} {a b : Sto} : Fg a b → Fg ((x, o) :: a) ((x, none) :: b)
theorem Fg.names {a b : Sto} (f : Fg a b) : b.map Prod.fst = a.map Prod.fst := by
  induction f with
  | nil => rfl
  | keep _ ih => rw [List.map_cons, List.map_cons, ih]
  | drop _ ih => rw [List.map_cons, List.map_cons, ih]
theorem Fg.mem {a b : Sto} (f : Fg a b) : ∀ x o, List.Mem (x, o) b → ∃ o', List.Mem (x, o') a ∧ (o = o' ∨ o = none) := by
  induction f with
  | nil => intro x o h; cases h
  | keep _ ih =>
    intro x o h
    cases h with
    | head => exact ⟨_, .head _, .inl rfl⟩
    | tail _ h => obtain ⟨o', h1, h2⟩ := ih x o h; exact ⟨o', .tail _ h1, h2⟩
  | drop _ ih =>
    intro x o h
    cases h with
    | head => exact ⟨_, .head _, .inr rfl⟩
    | tail _ h => obtain ⟨o', h1, h2⟩ := ih x o h; exact ⟨o', .tail _ h1, h2⟩
theorem Ctx.forget {H W : List Addr} {h : Heap} {σ' : Sto} (C : Ctx T h₀ H W env σ own h) (f : Fg σ σ') : Ctx T h₀ H W env σ' own h := by
  obtain ⟨m, a, b⟩ := C.E.vars
  refine ⟨⟨C.E.kind, C.E.glb, C.E.blt, C.E.G, C.E.ext, m, a, fun x o e => ?_⟩, C.L, ⟨C.R.loc, C.R.cel, C.R.apart, C.R.new, by rw [f.names]; exact C.R.names⟩, C.O, C.N, C.D, C.C, C.X⟩
  obtain ⟨o', h1, h2⟩ := f.mem x o e
  rcases b x o' h1 with ⟨k, r⟩ | ⟨c, u, k, l, d, r⟩
  · exact .inl ⟨k, fun p q => h2.elim (fun z => r p (z ▸ q)) fun z => by rw [z] at q; cases q⟩
  · exact .inr ⟨c, u, k, l, d, fun p q => h2.elim (fun z => r p (z ▸ q)) fun z => by rw [z] at q; cases q⟩
theorem Exs_forget {σ' : Sto} {sts : List Stmt} {out : Out} (f : Fg σ σ') (h : Exs prog w T h₀ n env σ' own sts out) : Exs prog w T h₀ n env σ own sts out := fun A H W s Q E rm C hQ => h A H W s Q E rm (C.forget f) hQ
theorem Pur_callD {a : Addr} {o : Obj} {fd : FuncData} {body : List Stmt} {names rest : List Str} {vs vs' : List PV} {p : PV} (G : Gl T h₀) (ho : h₀.get? a = some o) (hd : o.data = .func fd) (hcd : h₀.CodeRec fd.code fd.qualname) (hbody : fd.body = .stmts body)
    (hclo : fd.closure = []) (hglob : fd.globals = mainGlobals) (hblt : fd.builtins = builtinsNs)
    (hbind : ∀ (A : Around) H (s : Shared) us (Q : List (Str × Value) → Shared → Prop) E, Ext h₀ s.heap → VL H s.heap us vs → (∀ us', VL H s.heap us' vs' → Q (names.zip us') s) → wpAny (model prog w) A (bindArgs fd ⟨us, []⟩) Q E s) (hn : names.length = vs'.length)
    (hnames : ∀ x ∈ names ++ rest, fd.scope.names.lookup x = some .local ∨ fd.scope.names.lookup x = some .cell) (nd : (names ++ rest).Nodup)
    (h : ∀ L, Exs prog w T h₀ n (callEnvC fd L a) (sto0 names vs' rest) [] body (.ret p))
    (hco : fd.scope.isCoroutine = false := by rfl) (hgen : fd.scope.isGenerator = false := by rfl) (hk : fd.scope.kind = .function := by rfl) :
    Pur prog w h₀ (n + 1) vs (fun us => call (.ref a) us) p := fun A H s us Q E rm ext hv lv hQ => by
  refine wpAny_call (codeAny_call_function (by have := rm.depth; omega) (ext _ _ ho) hd hco hgen hbody (hcd.keeps ext) ?_)
  refine hbind _ H s us _ _ ext hv fun us' hv' => ?_
  rw [hclo]
  refine wpAny_newFunctionEnv_cells (s := s) hk (fun x hx => ?_) fun env he s₁ X => ?_
  · have hx' : x.1 ∈ names ++ rest := List.mem_append_left _ (List.of_mem_zip hx).1
    exact (hnames x.1 hx').imp id fun k => ⟨k, cellsFrom_has _ _ _ _ (.inl k)⟩
  · subst he
    refine ⟨(G.ext ext).nolimit.keeps X.toInCall.keep, codeAny_func ?_⟩
    obtain ⟨W, w1, C⟩ := enter (a := a) (A := A) G ext lv hglob hblt hk hv' hn hnames nd hclo X
    have hkeep := X.toInCall.keep
    obtain ⟨h₁, tk₁, rfl, _⟩ := X.done
    refine h s.heap.objs.size (A.deeper _) H W _ _ _ rm.deeper C fun fl h' tk k af => ?_
    obtain ⟨v, rfl, hV⟩ := af
    exact hQ v h' tk (fun b o e => k b o (fun q => by rw [w1 b q] at e; cases e) (hkeep b o e)) hV
end

def encD : Arguments × List Stmt × Scope := (P0.theDef "body_encode").getD ({ posonlyargs := [], args := [], vararg := none, kwonlyargs := [], kw_defaults := [], kwarg := none, defaults := [] }, [], P0.main.scope)
def encFd (pm cd doc : Value) (D : Addr) : FuncData := { Calls.docDef "body_encode" encD.1 encD.2.1 encD.2.2 pm cd doc with defaults := .ref D }
structure EncAt (h₀ : Heap) (a : Addr) : Prop where
  ex : ∃ o pm cd doc D t u, h₀.get? a = some o ∧ o.data = .func (encFd pm cd doc D) ∧ h₀.CodeRec cd "body_encode" ∧ IsTup h₀ D #[.int 76 t, .str ⟨#[10]⟩ u]

section
variable {prog : Program} {w : World} {T : Tabs} {h₀ : Heap} {n : Nat} {env : Env} {σ : Sto} {own : Own}
def kOf {α : Type} : Sem α → Obj → Sem α
  | .load _ _ k => k
  | _ => fun _ => .unsupported ""
theorem enc_bind1 {pm cd doc : Value} {D : Addr} {t u : Tok} {A : Around} {s : Shared} {x : Value} {Q : List (Str × Value) → Shared → Prop} {E : Value → Shared → Prop} (ht : IsTup s.heap D #[.int 76 t, .str ⟨#[10]⟩ u]) (h : Q [("body", x), ("maxlinelen", .int 76 t), ("eol", .str ⟨#[10]⟩ u)] s) :
    wpAny (model prog w) A (bindArgs (encFd pm cd doc D) ⟨[x], []⟩) Q E s := by
  obtain ⟨⟨cls, dict, data, slots⟩, ho, hc, k, hd⟩ := ht
  dsimp only at hd
  subst hd
  have e1 : bindArgs (encFd pm cd doc D) ⟨[x], []⟩ = (load D) >>= kOf (bindArgs (encFd pm cd doc D) ⟨[x], []⟩) := by kernel_rfl
  have e2 : kOf (bindArgs (encFd pm cd doc D) ⟨[x], []⟩) ⟨cls, dict, .seq #[.int 76 t, .str ⟨#[10]⟩ u] k, slots⟩ = (pure [(("body" : Str), x), ("maxlinelen", .int 76 t), ("eol", .str ⟨#[10]⟩ u)] : Sem (List (Str × Value))) := by kernel_rfl
  rw [e1]
  exact wpAny_bind (wpAny_load ho (wpAny_of_eq e2 h))
theorem enc_bind2 {pm cd doc : Value} {D : Addr} {t u : Tok} {A : Around} {s : Shared} {x y : Value} {Q : List (Str × Value) → Shared → Prop} {E : Value → Shared → Prop} (ht : IsTup s.heap D #[.int 76 t, .str ⟨#[10]⟩ u]) (h : Q [("body", x), ("maxlinelen", y), ("eol", .str ⟨#[10]⟩ u)] s) :
    wpAny (model prog w) A (bindArgs (encFd pm cd doc D) ⟨[x, y], []⟩) Q E s := by
  obtain ⟨⟨cls, dict, data, slots⟩, ho, hc, k, hd⟩ := ht
  dsimp only at hd
  subst hd
  have e1 : bindArgs (encFd pm cd doc D) ⟨[x, y], []⟩ = (load D) >>= kOf (bindArgs (encFd pm cd doc D) ⟨[x, y], []⟩) := by kernel_rfl
  have e2 : kOf (bindArgs (encFd pm cd doc D) ⟨[x, y], []⟩) ⟨cls, dict, .seq #[.int 76 t, .str ⟨#[10]⟩ u] k, slots⟩ = (pure [(("body" : Str), x), ("maxlinelen", y), ("eol", .str ⟨#[10]⟩ u)] : Sem (List (Str × Value))) := by kernel_rfl
  rw [e1]
  exact wpAny_bind (wpAny_load ho (wpAny_of_eq e2 h))
theorem enc_bind3 {pm cd doc : Value} {D : Addr} {t u : Tok} {A : Around} {s : Shared} {x y z : Value} {Q : List (Str × Value) → Shared → Prop} {E : Value → Shared → Prop} (ht : IsTup s.heap D #[.int 76 t, .str ⟨#[10]⟩ u]) (h : Q [("body", x), ("maxlinelen", y), ("eol", z)] s) :
    wpAny (model prog w) A (bindArgs (encFd pm cd doc D) ⟨[x, y, z], []⟩) Q E s := by
  obtain ⟨⟨cls, dict, data, slots⟩, ho, hc, k, hd⟩ := ht
  dsimp only at hd
  subst hd
  have e1 : bindArgs (encFd pm cd doc D) ⟨[x, y, z], []⟩ = (load D) >>= kOf (bindArgs (encFd pm cd doc D) ⟨[x, y, z], []⟩) := by kernel_rfl
  have e2 : kOf (bindArgs (encFd pm cd doc D) ⟨[x, y, z], []⟩) ⟨cls, dict, .seq #[.int 76 t, .str ⟨#[10]⟩ u] k, slots⟩ = (pure [(("body" : Str), x), ("maxlinelen", y), ("eol", z)] : Sem (List (Str × Value))) := by kernel_rfl
  rw [e1]
  exact wpAny_bind (wpAny_load ho (wpAny_of_eq e2 h))
end
end Mine
end

section
open PySem PySem.W PyProof.Rows
set_option Elab.async false
set_option maxRecDepth 100000
set_option maxHeartbeats 8000000
set_option linter.unusedVariables false
namespace Mine
section
variable {prog : Program} {w : World} {T : Tabs} {h₀ : Heap} {n : Nat} {env : Env} {σ : Sto} {own : Own}
theorem xneg {e : PySem.Expr} {pos : Pos} {a : Int} (he : Ev prog w T h₀ n env σ e (.int a)) : Ev prog w T h₀ n env σ (.UnaryOp .USub e pos) (.int (-a)) := Ev_un he fun A H s us Q E rm _ hv _ hQ => by
  obtain ⟨_, rfl, v1⟩ := hv.one
  obtain ⟨t, rfl⟩ := v1.int_inv
  exact P.neg_int (hQ _ _ _ (.refl _) (.int _ _))
theorem xslc {value : PySem.Expr} {lo hi : Option PySem.Expr} {sp pos : Pos} {x : Str} {a b : Option Int} (hv : Ev prog w T h₀ n env σ value (.str x)) (hl : EvP prog w T h₀ n env σ lo a) (hh : EvP prog w T h₀ n env σ hi b) (hsz : x.length ≤ 1000000) :
    Ev prog w T h₀ n env σ (.Subscript value (.Slice lo hi none sp) pos) (.str (Txt.slice x a b)) := Ev_slice_str hv hl hh (size_of hsz)
theorem xappend {x : Str} {p1 p2 pos : Pos} {e : PySem.Expr} {a : Addr} {ps : List PV} {p : PV} (he : Ev prog w T h₀ n env σ e p) (hsz : ps.length ≤ 1000000) (hx : List.Mem (x, some (.bnd a)) σ := by with_reducible repeat (first | exact .head _ | apply List.Mem.tail)) (hd : (x == ("__debug__" : Str)) = false := by kernel_rfl) (hst : starEach [e] env = [(false, eval e env)] := by kernel_rfl)
    (hi : interactive env = false := by kernel_rfl) (hs : swapsWith (.Call (.Name x p1) [e] [] p2) none pos.line env = pure false := by kernel_rfl) :
    Ex1 prog w T h₀ n env σ ((a, ps) :: own) (.Expr (.Call (.Name x p1) [e] [] p2) pos) (.next σ ((a, ps ++ [p]) :: own)) := Ex1_append hx he hsz hd hst hi hs
theorem Exs_end {σ' : Sto} (f : Fg σ σ' := by with_reducible repeat (first | exact .nil | apply Fg.keep | apply Fg.drop)) : Exs prog w T h₀ n env σ own [] (.next σ' own) := Exs_forget f Exs_nil
end

def stepW (line : Str) (m1 s : Int) : Str × Int :=
  if Txt.item line (s + m1 - 2) == ("=" : Str) then (Txt.slice line (some s) (some (s + m1 - 1)), s + m1 - 2)
  else if Txt.item line (s + m1 - 1) == ("=" : Str) then (Txt.slice line (some s) (some (s + m1)), s + m1 - 1)
  else (Txt.slice line (some s) (some (s + m1)) ++ "=", s + m1)
def stW (line : Str) (m1 : Int) : Nat → Int
  | 0 => 0
  | k + 1 => (stepW line m1 (stW line m1 k)).2
def lastN (x : Str) : Nat := (Txt.item x (-1)).cps.getD 0 0
theorem item_last (x : Str) : Txt.item x (-1) = chrS (lastN x) := rfl
structure LineOk (line : Str) (wd : Int) (N : Nat) : Prop where
  len : line.length ≤ 5000
  w4 : 4 ≤ wd
  w5 : wd ≤ 5000
  cnt : N ≤ 5000
  go : ∀ k, k < N → stW line (wd - 1) k ≤ line.length - 1 - wd
  halt : ¬ stW line (wd - 1) N ≤ line.length - 1 - wd
  last : lastN line < 256
theorem stW_nonneg {line : Str} {m1 : Int} (h : 3 ≤ m1) : ∀ k, 0 ≤ stW line m1 k
  | 0 => Int.le_refl _
  | k + 1 => by
    have := stW_nonneg h (line := line) k
    show 0 ≤ (stepW line m1 (stW line m1 k)).2
    unfold stepW
    split
    · show 0 ≤ _ + m1 - 2; omega
    · split
      · show 0 ≤ _ + m1 - 1; omega
      · show 0 ≤ _ + m1; omega

section
variable {prog : Program} {w : World} {d : Adr} {h₀ : Heap} {n : Nat}
theorem eqL : ("=" : Str).length = 1 := by decide +kernel
abbrev encEnv (pm cd doc : Value) (D : Addr) (L a : Addr) : Env := callEnvC (encFd pm cd doc D) L a

def whileBody : List Stmt := match (encD.2.1)[7]? with
  | some (PySem.Stmt.For _ _ body _ _) => match body[2]? with
    | some (PySem.Stmt.While _ b _ _) => b
    | _ => []
  | _ => []
theorem cut_body {pm cd doc : Value} {D L a B : Addr} {body line eol soft : Str} {wd : Int} {N : Nat} (ok : LineOk line wd N) {s : Int} (h0 : 0 ≤ s) (h1 : s ≤ line.length - 1 - wd) {ps : List PV} (hps : ps.length ≤ 900000) :
    Exs prog w (T0 d) h₀ n (encEnv pm cd doc D L a) [("body", some (.str body)), ("maxlinelen", some (.int wd)), ("eol", some (.str eol)), ("soft_break", some (.str soft)), ("maxlinelen1", some (.int (wd - 1))), ("encoded_body", some (.raw (.ref B))), ("append", some (.bnd B)), ("line", some (.str line)), ("start", some (.int s)), ("laststart", some (.int (line.length - 1 - wd))), ("stop", none), ("room", none), ("q", none)] [(B, ps)]
      whileBody (.next [("body", some (.str body)), ("maxlinelen", some (.int wd)), ("eol", some (.str eol)), ("soft_break", some (.str soft)), ("maxlinelen1", some (.int (wd - 1))), ("encoded_body", some (.raw (.ref B))), ("append", some (.bnd B)), ("line", some (.str line)), ("start", some (.int (stepW line (wd - 1) s).2)), ("laststart", some (.int (line.length - 1 - wd))), ("stop", none), ("room", none), ("q", none)] [(B, ps ++ [.str (stepW line (wd - 1) s).1])]) := by
  have hl := ok.len
  have hw := ok.w4
  have hw2 := ok.w5
  have hsl : ∀ a b : Option Int, (Txt.slice line a b).length ≤ 5000 := fun a b => Nat.le_trans (Txt.slice_le line a b) hl
  refine Exs_cons (xassign (xadd xvar xvar)) ?_
  have e2 : s + (wd - 1) - 2 < line.length := by omega
  have e1 : s + (wd - 1) - 1 < line.length := by omega
  by_cases c1 : (Txt.item line (s + (wd - 1) - 2) == ("=" : Str)) = true
  · have r : stepW line (wd - 1) s = (Txt.slice line (some s) (some (s + (wd - 1) - 1)), s + (wd - 1) - 2) := by unfold stepW; rw [if_pos c1]
    rw [r]
    exact Exs_cons (Ex1_if_t (xcmp (xsubs xvar (xsubi xvar Ev_int) (by omega) e2 (by omega)) Ev_str (c1 ▸ Cmp_seq)) (Exs_cons (xappend (xslc xvar (EvP_some xvar) (EvP_some (xsubi xvar Ev_int)) (by omega)) (by omega)) (Exs_cons (xassign (xsubi xvar Ev_int)) Exs_nil))) Exs_end
  · rw [Bool.not_eq_true] at c1
    by_cases c2 : (Txt.item line (s + (wd - 1) - 1) == ("=" : Str)) = true
    · have r : stepW line (wd - 1) s = (Txt.slice line (some s) (some (s + (wd - 1))), s + (wd - 1) - 1) := by unfold stepW; rw [if_neg (by rw [c1]; decide), if_pos c2]
      rw [r]
      exact Exs_cons (Ex1_if_f (xcmp (xsubs xvar (xsubi xvar Ev_int) (by omega) e2 (by omega)) Ev_str (c1 ▸ Cmp_seq)) (Exs_cons (Ex1_if_t (xcmp (xsubs xvar (xsubi xvar Ev_int) (by omega) e1 (by omega)) Ev_str (c2 ▸ Cmp_seq))
        (Exs_cons (xappend (xslc xvar (EvP_some xvar) (EvP_some xvar) (by omega)) (by omega)) (Exs_cons (xassign (xsubi xvar Ev_int)) Exs_nil))) Exs_nil)) Exs_end
    · rw [Bool.not_eq_true] at c2
      have r : stepW line (wd - 1) s = (Txt.slice line (some s) (some (s + (wd - 1))) ++ "=", s + (wd - 1)) := by unfold stepW; rw [if_neg (by rw [c1]; decide), if_neg (by rw [c2]; decide)]
      rw [r]
      exact Exs_cons (Ex1_if_f (xcmp (xsubs xvar (xsubi xvar Ev_int) (by omega) e2 (by omega)) Ev_str (c1 ▸ Cmp_seq)) (Exs_cons (Ex1_if_f (xcmp (xsubs xvar (xsubi xvar Ev_int) (by omega) e1 (by omega)) Ev_str (c2 ▸ Cmp_seq))
        (Exs_cons (xappend (xcat (xslc xvar (EvP_some xvar) (EvP_some xvar) (by omega)) Ev_str (le_add (hsl _ _) (Nat.le_of_eq eqL) (by decide))) (by omega)) (Exs_cons (xassign xvar) Exs_nil))) Exs_nil)) Exs_end
end
end Mine
end

section
open PySem PySem.W PyProof.Rows
set_option Elab.async false
set_option maxRecDepth 100000
set_option maxHeartbeats 8000000
set_option linter.unusedVariables false
namespace Mine
section
variable {prog : Program} {w : World} {T : Tabs} {h₀ : Heap} {n : Nat} {env : Env} {σ : Sto} {own : Own}
theorem xwhile {test : PySem.Expr} {body : List Stmt} {pos : Pos} (N : Nat) (σs : Nat → Sto) (owns : Nat → Own) (e1 : σs 0 = σ) (e2 : owns 0 = own)
    (turn : ∀ i, i < N → EvB prog w T h₀ n env (σs i) test true ∧ Exs prog w T h₀ n env (σs i) (owns i) body (.next (σs (i + 1)) (owns (i + 1)))) (hend : EvB prog w T h₀ n env (σs N) test false) {σ' : Sto} {own' : Own} (e3 : σs N = σ') (e4 : owns N = own') :
    Ex1 prog w T h₀ n env σ own (.While test body [] pos) (.next σ' own') := by subst e1 e2 e3 e4; exact Ex1_while N σs owns turn hend
theorem xfor {x : Str} {px pos : Pos} {iter : PySem.Expr} {body : List Stmt} {ps : List PV} (σs : Nat → Sto) (owns : Nat → Own) (e1 : σs 0 = σ) (e2 : owns 0 = own) (hi : EvI prog w T h₀ n env σ iter ps)
    (turn : ∀ i p, ps[i]? = some p → ∃ σ₁, Upd x p (σs i) σ₁ ∧ Exs prog w T h₀ n env σ₁ (owns i) body (.next (σs (i + 1)) (owns (i + 1)))) {σ' : Sto} {own' : Own} (e3 : σs ps.length = σ') (e4 : owns ps.length = own')
    (hx : Storable env x = true := by kernel_rfl) (hf : ∀ v, foldedSetIterable iter env v = pure v := by intro _; rfl) :
    Ex1 prog w T h₀ n env σ own (.For (.Name x px) iter body [] pos) (.next σ' own') := by subst e1 e2 e3 e4; exact Ex1_for σs owns hi hx turn hf
end
def rowsW (line : Str) (m1 : Int) (N : Nat) : List Str := (List.range N).map fun i => (stepW line m1 (stW line m1 i)).1
def finW (line soft : Str) (wd s : Int) : Str :=
  if (line.length != 0 && Txt.contains (" \t" : Str) (Txt.item line (-1))) = true then
    Txt.slice line (some s) (some (-1)) ++ (if s - (line.length - 1 - wd) ≥ 3 then hexS (lastN line) else if s - (line.length - 1 - wd) = 2 then Txt.item line (-1) ++ soft else soft ++ hexS (lastN line))
  else Txt.slice line (some s) none
def lineW (line soft : Str) (wd : Int) (N : Nat) : List Str := rowsW line (wd - 1) N ++ [finW line soft wd (stW line (wd - 1) N)]
def lineBody : List Stmt := match (encD.2.1)[7]? with
  | some (PySem.Stmt.For _ _ body _ _) => body
  | _ => []
section
variable {prog : Program} {w : World} {d : Adr} {h₀ : Heap} {n : Nat}
theorem line_body {pm cd doc : Value} {D L a B : Addr} {body line eol soft : Str} {wd : Int} {N : Nat} (t : Top0 d h₀) (ok : LineOk line wd N) (hsoft : soft.length ≤ 10) {ps : List PV} (hps : ps.length ≤ 800000) :
    Exs prog w (T0 d) h₀ (n + 1) (encEnv pm cd doc D L a) [("body", some (.str body)), ("maxlinelen", some (.int wd)), ("eol", some (.str eol)), ("soft_break", some (.str soft)), ("maxlinelen1", some (.int (wd - 1))), ("encoded_body", some (.raw (.ref B))), ("append", some (.bnd B)), ("line", some (.str line)), ("start", none), ("laststart", none), ("stop", none), ("room", none), ("q", none)] [(B, ps)]
      lineBody (.next [("body", some (.str body)), ("maxlinelen", some (.int wd)), ("eol", some (.str eol)), ("soft_break", some (.str soft)), ("maxlinelen1", some (.int (wd - 1))), ("encoded_body", some (.raw (.ref B))), ("append", some (.bnd B)), ("line", none), ("start", none), ("laststart", none), ("stop", none), ("room", none), ("q", none)] [(B, ps ++ (lineW line soft wd N).map .str)]) := by
  have hl := ok.len
  have hw := ok.w4
  have hw2 := ok.w5
  have hN := ok.cnt
  have hsl : ∀ a b : Option Int, (Txt.slice line a b).length ≤ 5000 := fun a b => Nat.le_trans (Txt.slice_le line a b) hl
  have hs0 : ∀ k, 0 ≤ stW line (wd - 1) k := stW_nonneg (by omega)
  have hlast := ok.last
  refine Exs_cons (xassign Ev_int) ?_
  refine Exs_cons (xassign (xsubi (xsubi (xcall (xbi (.builtin "len")) cbi (xcons xvar xnil) (Pur_len_str (by omega))) Ev_int) xvar)) ?_
  refine Exs_cons (xwhile N (fun i => [("body", some (.str body)), ("maxlinelen", some (.int wd)), ("eol", some (.str eol)), ("soft_break", some (.str soft)), ("maxlinelen1", some (.int (wd - 1))), ("encoded_body", some (.raw (.ref B))), ("append", some (.bnd B)), ("line", some (.str line)), ("start", some (.int (stW line (wd - 1) i))), ("laststart", some (.int (line.length - 1 - wd))), ("stop", none), ("room", none), ("q", none)])
    (fun i => [(B, ps ++ (rowsW line (wd - 1) i).map .str)]) rfl (by unfold rowsW; simp) (fun i hi => ⟨xcmp xvar xvar ((decide_eq_true (ok.go i hi)) ▸ Cmp_le), ?_⟩) (xcmp xvar xvar ((decide_eq_false ok.halt) ▸ Cmp_le)) rfl rfl) ?_
  · have z := cut_body (prog := prog) (w := w) (d := d) (h₀ := h₀) (n := n + 1) (pm := pm) (cd := cd) (doc := doc) (D := D) (L := L) (a := a) (B := B) (body := body) (eol := eol) (soft := soft) ok (hs0 i) (ok.go i hi) (ps := ps ++ (rowsW line (wd - 1) i).map .str) (by rw [List.length_append, List.length_map]; unfold rowsW; rw [List.length_map, List.length_range]; omega)
    have e : ps ++ (rowsW line (wd - 1) (i + 1)).map PV.str = ps ++ (rowsW line (wd - 1) i).map PV.str ++ [.str (stepW line (wd - 1) (stW line (wd - 1) i)).1] := by
      unfold rowsW
      rw [List.range_succ, List.map_append, List.map_append, List.append_assoc]
      rfl
    skip
    rw [e]
    exact z
  · have hlen : (ps ++ (rowsW line (wd - 1) N).map PV.str).length ≤ 1000000 := by rw [List.length_append, List.length_map]; unfold rowsW; rw [List.length_map, List.length_range]; omega
    have e : ps ++ (lineW line soft wd N).map PV.str = ps ++ (rowsW line (wd - 1) N).map PV.str ++ [.str (finW line soft wd (stW line (wd - 1) N))] := by
      unfold lineW
      rw [List.map_append, ← List.append_assoc]
      rfl
    rw [e]
    skip
    generalize hS : stW line (wd - 1) N = S at *
    have hS0 : 0 ≤ S := hS ▸ hs0 N
    by_cases c0 : line.length = 0
    · have r : finW line soft wd S = Txt.slice line (some S) none := by unfold finW; rw [if_neg (by simp [c0])]
      rw [r]
      exact Exs_cons (Ex1_if_f (EvB_op (EvA_and (b := false) (EvB_val xvar (by have := Truth.str line (by omega); rw [show (line.length != 0) = false by simp [c0]] at this; exact this)) (fun e => nomatch e) (fun _ => rfl)))
        (Exs_cons (xappend (xslc xvar (EvP_some xvar) EvP_none (by omega)) hlen) Exs_nil)) Exs_end
    · have t0 : Truth (.str line) true := by have := Truth.str line (by omega); rwa [show (line.length != 0) = true by simp [c0]] at this
      have il : (Txt.item line (-1)).length = 1 := rfl
      have ib : (" \t" : Str).length = 2 := by decide +kernel
      have hm1 : -(line.length : Int) ≤ -1 := by omega
      have hm2 : (-1 : Int) < line.length := by omega
      cases c1 : Txt.contains (" \t" : Str) (Txt.item line (-1)) with
      | false =>
        have r : finW line soft wd S = Txt.slice line (some S) none := by unfold finW; rw [if_neg (by simp [c1])]
        rw [r]
        exact Exs_cons (Ex1_if_f (EvB_op (EvA_and (b := true) (EvB_val xvar t0) (fun _ => EvA_and (b := false) (xcmp (xsubs xvar (xneg Ev_int) hm1 hm2 (by omega)) Ev_str (c1 ▸ Cmp_in)) (fun e => nomatch e) (fun _ => rfl)) (fun e => nomatch e)))
          (Exs_cons (xappend (xslc xvar (EvP_some xvar) EvP_none (by omega)) hlen) Exs_nil)) Exs_end
      | true =>
        have q0 : ∀ {z : Str}, z.length ≤ 20 → (Txt.slice line (some S) (some (-1))).length + z.length ≤ 1000000 := fun h => le_add (hsl _ _) h (by decide)
        have test : EvB prog w (T0 d) h₀ (n + 1) (encEnv pm cd doc D L a) [("body", some (.str body)), ("maxlinelen", some (.int wd)), ("eol", some (.str eol)), ("soft_break", some (.str soft)), ("maxlinelen1", some (.int (wd - 1))), ("encoded_body", some (.raw (.ref B))), ("append", some (.bnd B)), ("line", some (.str line)), ("start", some (.int S)), ("laststart", some (.int (line.length - 1 - wd))), ("stop", none), ("room", none), ("q", none)]
            (match lineBody[3]? with | some (PySem.Stmt.If e _ _ _) => e | _ => .Constant .none 0 pos0) true := EvB_op (EvA_and (b := true) (EvB_val xvar t0) (fun _ => EvA_and (b := true) (xcmp (xsubs xvar (xneg Ev_int) hm1 hm2 (by omega)) Ev_str (c1 ▸ Cmp_in)) (fun _ => EvA_and_nil) (fun e => nomatch e)) (fun e => nomatch e))
        by_cases c2 : S - (line.length - 1 - wd) ≥ 3
        · have r : finW line soft wd S = Txt.slice line (some S) (some (-1)) ++ hexS (lastN line) := by unfold finW; rw [if_pos (by simp [c1, c0]), if_pos c2]
          rw [r]
          exact Exs_cons (Ex1_if_t test (Exs_cons (xassign (xsubi xvar xvar)) (Exs_cons (Ex1_if_t (xcmp xvar Ev_int ((decide_eq_true c2) ▸ Cmp_ge)) (Exs_cons (xassign (xcall xfn t.quote.callable (xcons (Ev_to (xsubs xvar (xneg Ev_int) hm1 hm2 (by omega)) (congrArg PV.str (item_last line))) xnil) (quote_pur t hlast))) Exs_nil))
            (Exs_cons (xappend (xcat (xslc xvar (EvP_some xvar) (EvP_some (xneg Ev_int)) (by omega)) xvar (q0 (by rw [hexS_len]; omega))) hlen) Exs_nil)))) Exs_end
        · by_cases c3 : S - (line.length - 1 - wd) = 2
          · have r : finW line soft wd S = Txt.slice line (some S) (some (-1)) ++ (Txt.item line (-1) ++ soft) := by unfold finW; rw [if_pos (by simp [c1, c0]), if_neg c2, if_pos c3]
            rw [r]
            exact Exs_cons (Ex1_if_t test (Exs_cons (xassign (xsubi xvar xvar)) (Exs_cons (Ex1_if_f (xcmp xvar Ev_int ((decide_eq_false c2) ▸ Cmp_ge)) (Exs_cons (Ex1_if_t (xcmp xvar Ev_int ((show (S - (line.length - 1 - wd) == 2) = true by rw [c3]; rfl) ▸ Cmp_eq)) (Exs_cons (xassign (xcat (xsubs xvar (xneg Ev_int) hm1 hm2 (by omega)) xvar (by rw [il]; omega))) Exs_nil)) Exs_nil))
              (Exs_cons (xappend (xcat (xslc xvar (EvP_some xvar) (EvP_some (xneg Ev_int)) (by omega)) xvar (q0 (by rw [slen, il]; omega))) hlen) Exs_nil)))) Exs_end
          · have r : finW line soft wd S = Txt.slice line (some S) (some (-1)) ++ (soft ++ hexS (lastN line)) := by unfold finW; rw [if_pos (by simp [c1, c0]), if_neg c2, if_neg c3]
            rw [r]
            exact Exs_cons (Ex1_if_t test (Exs_cons (xassign (xsubi xvar xvar)) (Exs_cons (Ex1_if_f (xcmp xvar Ev_int ((decide_eq_false c2) ▸ Cmp_ge)) (Exs_cons (Ex1_if_f (xcmp xvar Ev_int ((show (S - (line.length - 1 - wd) == 2) = false from beq_eq_false_iff_ne.mpr c3) ▸ Cmp_eq)) (Exs_cons (xassign (xcat xvar (xcall xfn t.quote.callable (xcons (Ev_to (xsubs xvar (xneg Ev_int) hm1 hm2 (by omega)) (congrArg PV.str (item_last line))) xnil) (quote_pur t hlast)) (by rw [hexS_len]; omega))) Exs_nil)) Exs_nil))
              (Exs_cons (xappend (xcat (xslc xvar (EvP_some xvar) (EvP_some (xneg Ev_int)) (by omega)) xvar (q0 (by rw [slen, hexS_len]; omega))) hlen) Exs_nil)))) Exs_end
end
end Mine
end

section
open PySem PySem.W PyProof.Rows
set_option Elab.async false
set_option maxRecDepth 100000
set_option maxHeartbeats 8000000
set_option linter.unusedVariables false
namespace Mine
def piecesW (x eol : Str) (wd : Int) (Ns : Str → Nat) : List Str := (linesOf x).flatMap (fun l => lineW l (("=" : Str) ++ eol) wd (Ns l)) ++ (if Txt.contains (⟨#[13, 10]⟩ : Str) (Txt.item x (-1)) = true then [("" : Str)] else [])
def encV (body eol : Str) (wd : Int) (Ns : Str → Nat) : Str := if body.length = 0 then body else Txt.join eol (piecesW (trS encM body) eol wd Ns)
structure EncOk (body eol : Str) (wd : Int) (Ns : Str → Nat) : Prop where
  w4 : 4 ≤ wd
  signs : ∀ c ∈ body.cps.toList, c < 256
  len : body.length ≤ 2000
  tr : body.length ≠ 0 → (trS encM body).length ≠ 0
  tl : (trS encM body).length ≤ 6000
  eolLen : eol.length ≤ 5
  cuts : (linesOf (trS encM body)).length ≤ 100
  lines : ∀ l ∈ linesOf (trS encM body), LineOk l wd (Ns l)
  join : ((piecesW (trS encM body) eol wd Ns).map (·.length)).sum + (piecesW (trS encM body) eol wd Ns).length * eol.length ≤ 1000000
theorem encM_len (c : Nat) : (encM c).length ≤ 3 := by
  unfold encM
  split
  · show 1 ≤ 3
    decide
  · show 3 ≤ 3
    decide
theorem lineW_len (l soft : Str) (wd : Int) (N : Nat) : (lineW l soft wd N).length = N + 1 := by unfold lineW rowsW; simp
section
variable {prog : Program} {w : World} {d : Adr} {h₀ : Heap} {n : Nat}
theorem enc_body (t : Top0 d h₀) {pm cd doc : Value} {D L a : Addr} {body eol : Str} {wd : Int} {Ns : Str → Nat} (ok : EncOk body eol wd Ns) :
    Exs prog w (T0 d) h₀ (n + 1) (encEnv pm cd doc D L a) [("body", some (.str body)), ("maxlinelen", some (.int wd)), ("eol", some (.str eol)), ("soft_break", none), ("maxlinelen1", none), ("encoded_body", none), ("append", none), ("line", none), ("start", none), ("laststart", none), ("stop", none), ("room", none), ("q", none)] []
      encD.2.1 (.ret (.str (encV body eol wd Ns))) := by
  have hw := ok.w4
  have hb := ok.len
  have he := ok.eolLen
  have ht := ok.tl
  obtain ⟨vs, hpl, hvs⟩ := t.emap
  refine Exs_cons (Ex1_if_f (xcmp xvar Ev_int ((decide_eq_false (show ¬ wd < 4 by omega)) ▸ Cmp_lt)) Exs_nil) ?_
  have tb := Truth.str body (by omega)
  by_cases c0 : body.length = 0
  · have r : encV body eol wd Ns = body := by unfold encV; rw [if_pos c0]
    rw [r]
    rw [show (body.length != 0) = false by simp [c0]] at tb
    exact Exs_stop (Ex1_if_t (EvB_not (EvB_val xvar tb)) (Exs_stop (Ex1_ret xvar)))
  · have r : encV body eol wd Ns = Txt.join eol (piecesW (trS encM body) eol wd Ns) := by unfold encV; rw [if_neg c0]
    rw [r]
    rw [show (body.length != 0) = true by simp [c0]] at tb
    refine Exs_cons (Ex1_if_f (EvB_not (EvB_val xvar tb)) Exs_nil) ?_
    refine Exs_cons (xassign (Ev_translate xvar xfn hpl hvs (fun c _ => encM_len c) ok.signs c0 (by omega))) ?_
    have h1 := ok.tr c0
    have hcuts := ok.cuts
    have hlines := ok.lines
    have hjoin := ok.join
    generalize hX : trS encM body = X at *
    refine Exs_cons (xassign (xcat Ev_str xvar (by rw [eqL]; omega))) ?_
    refine Exs_cons (xassign (xsubi xvar Ev_int)) ?_
    refine Exs_newlist (σ' := fun B => [("body", some (.str X)), ("maxlinelen", some (.int wd)), ("eol", some (.str eol)), ("soft_break", some (.str (("=" : Str) ++ eol))), ("maxlinelen1", some (.int (wd - 1))), ("encoded_body", some (.raw (.ref B))), ("append", none), ("line", none), ("start", none), ("laststart", none), ("stop", none), ("room", none), ("q", none)]) (by kernel_rfl) (fun B => by with_reducible repeat (first | exact .head | apply Upd.tail)) (by kernel_rfl) fun B => ?_
    refine Exs_cons (Ex1_bound (σ' := [("body", some (.str X)), ("maxlinelen", some (.int wd)), ("eol", some (.str eol)), ("soft_break", some (.str (("=" : Str) ++ eol))), ("maxlinelen1", some (.int (wd - 1))), ("encoded_body", some (.raw (.ref B))), ("append", some (.bnd B)), ("line", none), ("start", none), ("laststart", none), ("stop", none), ("room", none), ("q", none)]) (by with_reducible repeat (first | exact .head _ | apply List.Mem.tail)) (by with_reducible repeat (first | exact .head | apply Upd.tail)) (by kernel_rfl) (by kernel_rfl) (by kernel_rfl)) ?_
    have hsoft : (("=" : Str) ++ eol).length ≤ 10 := by rw [slen, eqL]; omega
    have hcnt : ∀ i, (((linesOf X).take i).flatMap (fun l => lineW l (("=" : Str) ++ eol) wd (Ns l))).length ≤ 600000 := by
      intro i
      have key : ∀ ls : List Str, (∀ l ∈ ls, LineOk l wd (Ns l)) → (ls.flatMap (fun l => lineW l (("=" : Str) ++ eol) wd (Ns l))).length ≤ 5001 * ls.length := by
        intro ls
        induction ls with
        | nil => intro _; simp
        | cons l r ih =>
          intro h
          have h2 := ih fun x q => h x (List.mem_cons_of_mem _ q)
          have h3 := (h l List.mem_cons_self).cnt
          rw [List.flatMap_cons, List.length_append, lineW_len, List.length_cons]
          omega
      have h4 := key ((linesOf X).take i) fun l q => hlines l (List.mem_of_mem_take q)
      have h5 : ((linesOf X).take i).length ≤ (linesOf X).length := by rw [List.length_take]; omega
      omega
    refine Exs_cons (xfor (ps := (linesOf X).map .str) (fun i => [("body", some (.str X)), ("maxlinelen", some (.int wd)), ("eol", some (.str eol)), ("soft_break", some (.str (("=" : Str) ++ eol))), ("maxlinelen1", some (.int (wd - 1))), ("encoded_body", some (.raw (.ref B))), ("append", some (.bnd B)), ("line", none), ("start", none), ("laststart", none), ("stop", none), ("room", none), ("q", none)])
      (fun i => [(B, (((linesOf X).take i).flatMap (fun l => lineW l (("=" : Str) ++ eol) wd (Ns l))).map PV.str)]) rfl rfl (EvI_list (Ev_splitlines xvar (by omega) (by have := hcuts; unfold linesOf at this; rw [List.length_map] at this; omega))) (fun i p hp => ?_) rfl rfl) ?_
    · rw [List.getElem?_map] at hp
      obtain ⟨l, hl, rfl⟩ := Option.map_eq_some_iff.mp hp
      refine ⟨_, (by with_reducible repeat (first | exact .head | apply Upd.tail)), ?_⟩
      have hmem : l ∈ linesOf X := List.mem_of_getElem? hl
      have e : (((linesOf X).take (i + 1)).flatMap (fun l => lineW l (("=" : Str) ++ eol) wd (Ns l))).map PV.str = (((linesOf X).take i).flatMap (fun l => lineW l (("=" : Str) ++ eol) wd (Ns l))).map PV.str ++ (lineW l (("=" : Str) ++ eol) wd (Ns l)).map PV.str := by
        rw [List.take_add_one, hl, List.flatMap_append, List.map_append]
        simp
      rw [e]
      exact line_body t (hlines l hmem) hsoft (by rw [List.length_map]; have := hcnt i; omega)
    · rw [List.length_map, List.take_length]
      have hc0 := hcnt (linesOf X).length
      rw [List.take_length] at hc0
      generalize hPs : (linesOf X).flatMap (fun l => lineW l (("=" : Str) ++ eol) wd (Ns l)) = Ps at *
      have hi1 : -(X.length : Int) ≤ -1 := by omega
      have hi2 : (-1 : Int) < X.length := by omega
      have hw2 : piecesW X eol wd Ns = Ps ++ (if Txt.contains (⟨#[13, 10]⟩ : Str) (Txt.item X (-1)) = true then [("" : Str)] else []) := by unfold piecesW; rw [hPs]
      rw [hw2] at hjoin ⊢
      cases c1 : Txt.contains (⟨#[13, 10]⟩ : Str) (Txt.item X (-1)) with
      | true =>
        rw [if_pos c1] at hjoin
        rw [if_pos rfl]
        refine Exs_cons (Ex1_if_t (xcmp (xsubs xvar (xneg Ev_int) hi1 hi2 (by omega)) xgs (c1 ▸ Cmp_in)) (Exs_cons (xappend Ev_str (by rw [List.length_map]; omega)) Exs_nil)) ?_
        refine Exs_freeze (x := "encoded_body") (σ' := [("body", some (.str X)), ("maxlinelen", some (.int wd)), ("eol", some (.str eol)), ("soft_break", some (.str (("=" : Str) ++ eol))), ("maxlinelen1", some (.int (wd - 1))), ("encoded_body", some (.list (Ps.map .str ++ [.str ""]))), ("append", some (.bnd B)), ("line", none), ("start", none), ("laststart", none), ("stop", none), ("room", none), ("q", none)])
          (by with_reducible repeat (first | exact .head _ | apply List.Mem.tail)) (by with_reducible repeat (first | exact .head | apply Upd.tail)) ?_
        exact Exs_stop (Ex1_ret (xjoin xvar (Ev_to xvar (congrArg PV.list (by rw [List.map_append]; rfl))) hjoin))
      | false =>
        rw [if_neg (by rw [c1]; decide)] at hjoin
        rw [if_neg (by decide)]
        rw [List.append_nil] at hjoin ⊢
        refine Exs_cons (Ex1_if_f (xcmp (xsubs xvar (xneg Ev_int) hi1 hi2 (by omega)) xgs (c1 ▸ Cmp_in)) Exs_nil) ?_
        refine Exs_freeze (x := "encoded_body") (σ' := [("body", some (.str X)), ("maxlinelen", some (.int wd)), ("eol", some (.str eol)), ("soft_break", some (.str (("=" : Str) ++ eol))), ("maxlinelen1", some (.int (wd - 1))), ("encoded_body", some (.list (Ps.map .str))), ("append", some (.bnd B)), ("line", none), ("start", none), ("laststart", none), ("stop", none), ("room", none), ("q", none)])
          (by with_reducible repeat (first | exact .head _ | apply List.Mem.tail)) (by with_reducible repeat (first | exact .head | apply Upd.tail)) ?_
        exact Exs_stop (Ex1_ret (xjoin xvar xvar hjoin))
end
end Mine
end

section
open PySem PySem.W PyProof.Rows
set_option Elab.async false
set_option maxRecDepth 100000
set_option maxHeartbeats 8000000
set_option linter.unusedVariables false
namespace Mine
section
variable {prog : Program} {w : World} {d : Adr} {h₀ : Heap} {n : Nat}
theorem enc_call (t : Top0 d h₀) {a : Addr} (F : EncAt h₀ a) {vs : List PV} {body eol : Str} {wd : Int} {Ns : Str → Nat} (ok : EncOk body eol wd Ns)
    (hb : ∀ {pm cd doc : Value} {D : Addr} {tk uk : Tok} (A : Around) H (s : Shared) us (Q : List (Str × Value) → Shared → Prop) E, IsTup s.heap D #[.int 76 tk, .str ⟨#[10]⟩ uk] → VL H s.heap us vs →
      (∀ us', VL H s.heap us' [.str body, .int wd, .str eol] → Q ([("body" : Str), "maxlinelen", "eol"].zip us') s) → wpAny (model prog w) A (bindArgs (encFd pm cd doc D) ⟨us, []⟩) Q E s) :
    Pur prog w h₀ (n + 2) vs (fun us => call (.ref a) us) (.str (encV body eol wd Ns)) := by
  obtain ⟨o, pm, cd, doc, D, tk, uk, ho, hd, hcd, ht⟩ := F.ex
  refine Pur_callD (fd := encFd pm cd doc D) (body := encD.2.1) (names := ["body", "maxlinelen", "eol"]) (rest := ["soft_break", "maxlinelen1", "encoded_body", "append", "line", "start", "laststart", "stop", "room", "q"]) (vs' := [.str body, .int wd, .str eol]) t.G ho hd hcd rfl rfl rfl rfl
    (fun A H s us Q E ext hv hQ => hb A H s us Q E (let ⟨o, a, b⟩ := ht; ⟨o, ext _ _ a, b⟩) hv hQ) rfl (okNames_spec (by kernel_rfl)) (by decide +kernel) (fun L => enc_body t ok) (by kernel_rfl) (by kernel_rfl) (by kernel_rfl)
theorem enc_pur3 (t : Top0 d h₀) {a : Addr} (F : EncAt h₀ a) {body eol : Str} {wd : Int} {Ns : Str → Nat} (ok : EncOk body eol wd Ns) : Pur prog w h₀ (n + 2) [.str body, .int wd, .str eol] (fun us => call (.ref a) us) (.str (encV body eol wd Ns)) :=
  enc_call t F ok fun A H s us Q E ht hv hQ => by
    obtain ⟨x, y, z, rfl, h1, h2, h3⟩ := hv.three
    exact enc_bind3 ht (hQ [x, y, z] (.cons h1 (.cons h2 (.cons h3 .nil))))
theorem enc_pur2 (t : Top0 d h₀) {a : Addr} (F : EncAt h₀ a) {body : Str} {wd : Int} {Ns : Str → Nat} (ok : EncOk body ⟨#[10]⟩ wd Ns) : Pur prog w h₀ (n + 2) [.str body, .int wd] (fun us => call (.ref a) us) (.str (encV body ⟨#[10]⟩ wd Ns)) :=
  enc_call t F ok fun {_ _ _ _ _ uk} A H s us Q E ht hv hQ => by
    obtain ⟨x, y, rfl, h1, h2⟩ := hv.two
    exact enc_bind2 ht (hQ [x, y, .str ⟨#[10]⟩ uk] (.cons h1 (.cons h2 (.cons (.str _ _) .nil))))
theorem enc_pur1 (t : Top0 d h₀) {a : Addr} (F : EncAt h₀ a) {body : Str} {Ns : Str → Nat} (ok : EncOk body ⟨#[10]⟩ 76 Ns) : Pur prog w h₀ (n + 2) [.str body] (fun us => call (.ref a) us) (.str (encV body ⟨#[10]⟩ 76 Ns)) :=
  enc_call t F ok fun {_ _ _ _ tk uk} A H s us Q E ht hv hQ => by
    obtain ⟨x, rfl, h1⟩ := hv.one
    exact enc_bind1 ht (hQ [x, .int 76 tk, .str ⟨#[10]⟩ uk] (.cons h1 (.cons (.int _ _) (.cons (.str _ _) .nil))))
end
end Mine
end

section
open PySem PySem.W PyProof.Rows
set_option Elab.async false
set_option maxRecDepth 100000
set_option maxHeartbeats 8000000
set_option linter.unusedVariables false
namespace Mine
section
variable {prog : Program} {w : World} {T : Tabs} {h₀ : Heap} {n : Nat} {env : Env} {σ : Sto} {own : Own}
theorem xsubn {value slice : PySem.Expr} {pos : Pos} {l : List PV} {i : Int} {p : PV} (hv : Ev prog w T h₀ n env σ value (.list l)) (hi : Ev prog w T h₀ n env σ slice (.int i)) (h0 : i < 0) (h1 : -(l.length : Int) ≤ i) (h2 : l.length ≤ 1000000) (hp : l[(i + l.length).toNat]? = some p)
    (hs : ∀ o j, subscripted slice false o j = operate [o, j] (getItem o j) := by intros; rfl) : Ev prog w T h₀ n env σ (.Subscript value slice pos) p :=
  Ev_sub hv hi (Sub_lneg h0 h1 (by omega) hp hs)
theorem xsll {value : PySem.Expr} {lo hi st : Option PySem.Expr} {sp pos : Pos} {l : List PV} {a b c : Option Int} {r : List PV} (hv : Ev prog w T h₀ n env σ value (.list l)) (hl : EvP prog w T h₀ n env σ lo a) (hh : EvP prog w T h₀ n env σ hi b)
    (hst : EvP prog w T h₀ n env σ st c) (h0 : c ≠ some 0) (hsz : l.length ≤ 1000000) (hr : pick l a b c = r) : Ev prog w T h₀ n env σ (.Subscript value (.Slice lo hi st sp) pos) (.list r) := hr ▸ Ev_slice_list hv hl hh hst h0 (size_of hsz)
theorem xlist1 {e : PySem.Expr} {pos : Pos} {p : PV} (h : Ev prog w T h₀ n env σ e p) (hs : starEach [e] env = [(false, eval e env)] := by kernel_rfl) : Ev prog w T h₀ n env σ (.List [e] pos) (.list [p]) := Ev_list (EvL_cons h xnil hs) (size_of (by decide : 1 ≤ 1000000))
theorem xlist2 {e1 e2 : PySem.Expr} {pos : Pos} {p q : PV} (h1 : Ev prog w T h₀ n env σ e1 p) (h2 : Ev prog w T h₀ n env σ e2 q) (hs : starEach [e1, e2] env = [(false, eval e1 env), (false, eval e2 env)] := by kernel_rfl) (hs' : starEach [e2] env = [(false, eval e2 env)] := by kernel_rfl) :
    Ev prog w T h₀ n env σ (.List [e1, e2] pos) (.list [p, q]) := Ev_list (EvL_cons h1 (EvL_cons h2 xnil hs') (by rw [hs, hs'])) (size_of (by decide : 2 ≤ 1000000))
end
theorem filterMap_run {α : Type} : ∀ (l : List α) (a k : Nat), (List.range k).filterMap (fun i => l[a + i]?) = (l.drop a).take k := by
  intro l a k
  induction k generalizing a with
  | zero => simp
  | succ k ih =>
    rw [List.range_succ_eq_map, List.filterMap_cons, List.filterMap_map]
    have e : ((fun i => l[a + i]?) ∘ Nat.succ) = fun i => l[(a + 1) + i]? := by funext i; show l[a + (i + 1)]? = _; congr 1; omega
    rw [e, ih (a + 1), Nat.add_zero]
    cases h : l[a]? with
    | none =>
      have hl : l.length ≤ a := by rwa [List.getElem?_eq_none_iff] at h
      rw [List.drop_eq_nil_of_le hl, List.drop_eq_nil_of_le (by omega)]
      simp
    | some x =>
      obtain ⟨hl, rfl⟩ := List.getElem?_eq_some_iff.mp h
      rw [List.drop_eq_getElem_cons hl, List.take_succ_cons]
theorem pick_fwd {α : Type} (l : List α) (lo hi : Option Int) : pick l lo hi none = (l.drop (lo.elim 0 (clipAt l.length))).take (hi.elim l.length (clipAt l.length) - lo.elim 0 (clipAt l.length)) := by
  unfold pick
  rw [sliceBounds_plain]
  generalize lo.elim 0 (clipAt l.length) = a
  generalize hi.elim l.length (clipAt l.length) = b
  rw [← filterMap_run]
  unfold sliceRange
  dsimp only
  have hc : (if (1 : Int) > 0 then (if (a : Int) < b then ((b : Int) - a + 1 - 1) / 1 else 0) else (if (a : Int) > b then ((a : Int) - b - 1 - 1) / (-1) else 0)).toNat = b - a := by
    rw [if_pos (by decide)]
    split <;> omega
  rw [hc, List.filterMap_map]
  congr 1
  funext i
  show l[((a : Int) + 1 * (i : Int)).toNat]? = l[a + i]?
  congr 1
  omega
theorem pick_init {α : Type} (l : List α) (x : α) : pick (l ++ [x]) none (some (-1)) none = l := by
  rw [pick_fwd]
  show ((l ++ [x]).drop 0).take (clipAt (l ++ [x]).length (-1) - 0) = l
  have : clipAt (l ++ [x]).length (-1) = l.length := by
    unfold clipAt
    simp
    omega
  rw [this, List.drop_zero, Nat.sub_zero, List.take_left]
def letterL (init : List Str) (last sign : Str) (width : Int) : List Str :=
  init.map (fun r => r ++ ("=" : Str)) ++ (if sign == ("." : Str) then [last ++ sign] else if width - last.length > 2 then [last ++ hexS (sign.cps.getD 0 0)] else if width - last.length == 2 then [last ++ sign ++ ("=" : Str), ""] else [last ++ ("=" : Str), hexS (sign.cps.getD 0 0)])
section
variable {prog : Program} {w : World} {d : Adr} {h₀ : Heap} {n : Nat}
theorem letter_pur (t : Top0 d h₀) {init : List Str} {last ending : Str} {c : Nat} {width : Int} (hc : c < 256) (hi : init.length ≤ 100) (hr : ∀ r ∈ init, r.length ≤ 1000) (hl : last.length ≤ 1000) (he : ending.length ≤ 5) :
    Pur prog w h₀ (n + 2) [.list ((init ++ [last]).map .str), .str (chrS c), .int width, .str ending] (fun us => call (.ref d.letter) us) (.str (Txt.join ending (letterL init last (chrS c) width))) := by
  refine Fn4 (x1 := "rows") (x2 := "sign") (x3 := "width") (x4 := "ending") [("lines", none), ("room", none)] t.G t.letter fun L pm cd doc => ?_
  have hlen : ((init ++ [last]).map PV.str).length ≤ 1000000 := by rw [List.length_map, List.length_append, List.length_singleton]; omega
  have e1 : pick ((init ++ [last]).map PV.str) none (some (-1)) none = init.map PV.str := by rw [List.map_append]; exact pick_init _ _
  refine Exs_cons (xcompA [] (fun _ => true) (fun p => match p with | .str r => .str (r ++ ("=" : Str)) | p => p) (rs := (init.map fun r => r ++ ("=" : Str)).map .str) (EvI_list (xsll xvar EvP_none (EvP_some (xneg Ev_int)) EvP_none (by decide) hlen e1)) ?_ ?_ ?_) ?_
  · rw [List.length_map]; omega
  · intro p hp cl Ca
    obtain ⟨r, hrm, rfl⟩ := List.mem_map.mp hp
    exact ⟨EvT_nil, fun _ => xcat xvar Ev_str (le_add (hr r hrm) (Nat.le_of_eq eqL) (by decide))⟩
  · rw [filter_tt, List.map_map, List.map_map]; rfl
  · have el : ((init ++ [last]).map PV.str)[((-1 : Int) + ((init ++ [last]).map PV.str).length).toNat]? = some (.str last) := by
      have e2 : ((-1 : Int) + ((init ++ [last]).map PV.str).length).toNat = init.length := by rw [List.length_map, List.length_append, List.length_singleton]; omega
      rw [e2, List.getElem?_map]
      simp
    have hn1 : -(((init ++ [last]).map PV.str).length : Int) ≤ -1 := by rw [List.length_map, List.length_append, List.length_singleton]; omega
    refine Exs_cons (xassign (xsubi xvar (xcall (xbi (.builtin "len")) cbi (xcons (xsubn xvar (xneg Ev_int) (by decide) hn1 hlen el) xnil) (Pur_len_str (by omega))))) ?_
    have il : (chrS c).length = 1 := rfl
    have hdot : ("" : Str).length = 0 := by decide +kernel
    have ho : (chrS c).cps.getD 0 0 = c := rfl
    have hil : ((init.map fun r => r ++ ("=" : Str)).map PV.str).length ≤ 100 := by rw [List.length_map, List.length_map]; exact hi
    have hjoin : ∀ ls : List Str, (∀ x ∈ ls, x.length ≤ 2000) → ls.length ≤ 110 → (ls.map (·.length)).sum + ls.length * ending.length ≤ 1000000 := by
      intro ls h1 h2
      have h3 : (ls.map (·.length)).sum ≤ 2000 * ls.length := by
        clear h2
        induction ls with
        | nil => simp
        | cons x r ih =>
          have h4 := ih fun y q => h1 y (List.mem_cons_of_mem _ q)
          have h5 := h1 x List.mem_cons_self
          rw [List.map_cons, List.sum_cons, List.length_cons]
          omega
      have h4 : ls.length * ending.length ≤ 110 * 5 := Nat.mul_le_mul h2 he
      omega
    have hrow : ∀ x ∈ init.map (fun r => r ++ ("=" : Str)), x.length ≤ 2000 := by
      intro x hx
      obtain ⟨r, hr', rfl⟩ := List.mem_map.mp hx
      have := hr r hr'
      rw [slen, eqL]; omega
    have hall : ∀ tail : List Str, (∀ x ∈ tail, x.length ≤ 2000) → tail.length ≤ 2 → ((init.map (fun r => r ++ ("=" : Str)) ++ tail).map (·.length)).sum + (init.map (fun r => r ++ ("=" : Str)) ++ tail).length * ending.length ≤ 1000000 := fun tail h1 h2 =>
      hjoin _ (fun x hx => (List.mem_append.mp hx).elim (hrow x) (h1 x)) (by rw [List.length_append, List.length_map]; omega)
    have hsg : (last ++ chrS c).length ≤ 2000 := by rw [slen, il]; omega
    by_cases c1 : (chrS c == ("." : Str)) = true
    · have r : letterL init last (chrS c) width = init.map (fun r => r ++ ("=" : Str)) ++ [last ++ chrS c] := by unfold letterL; rw [if_pos c1]
      rw [r]
      refine Exs_cons (Ex1_if_t (xcmp xvar Ev_str (c1 ▸ Cmp_seq)) (Exs_cons (xassign (xladd xvar (xlist1 (xcat (xsubn xvar (xneg Ev_int) (by decide) hn1 hlen el) xvar (by rw [il]; omega))) (by rw [List.length_singleton]; omega))) Exs_nil)) ?_
      refine Exs_stop (Ex1_ret (xjoin xvar (Ev_to xvar (congrArg PV.list (by rw [List.map_append]; rfl))) (hall [last ++ chrS c] (fun x hx => (List.mem_singleton.mp hx) ▸ hsg) (by decide : 1 ≤ 2))))
    · rw [Bool.not_eq_true] at c1
      by_cases c2 : width - (last.length : Int) > 2
      · have r : letterL init last (chrS c) width = init.map (fun r => r ++ ("=" : Str)) ++ [last ++ hexS c] := by unfold letterL; rw [if_neg (by rw [c1]; decide), if_pos c2, ho]
        rw [r]
        refine Exs_cons (Ex1_if_f (xcmp xvar Ev_str (c1 ▸ Cmp_seq)) (Exs_cons (Ex1_if_t (xcmp xvar Ev_int ((decide_eq_true c2) ▸ Cmp_gt)) (Exs_cons (xassign (xladd xvar (xlist1 (xcat (xsubn xvar (xneg Ev_int) (by decide) hn1 hlen el) (xcall xfn t.esc.callable (xcons (xcall (xbi (.builtin "ord")) cbi (xcons (Ev_to (p := .str (chrS c)) xvar rfl) xnil) Pur_ord) xnil) (esc_pur t hc)) (by rw [hexS_len]; omega))) (by rw [List.length_singleton]; omega))) Exs_nil)) Exs_nil)) ?_
        refine Exs_stop (Ex1_ret (xjoin xvar (Ev_to xvar (congrArg PV.list (by rw [List.map_append]; rfl))) (hall [last ++ hexS c] (fun x hx => (List.mem_singleton.mp hx) ▸ by rw [slen, hexS_len]; omega) (by decide : 1 ≤ 2))))
      · by_cases c3 : (width - (last.length : Int) == 2) = true
        · have r : letterL init last (chrS c) width = init.map (fun r => r ++ ("=" : Str)) ++ [last ++ chrS c ++ ("=" : Str), ""] := by unfold letterL; rw [if_neg (by rw [c1]; decide), if_neg c2, if_pos c3]
          rw [r]
          refine Exs_cons (Ex1_if_f (xcmp xvar Ev_str (c1 ▸ Cmp_seq)) (Exs_cons (Ex1_if_f (xcmp xvar Ev_int ((decide_eq_false c2) ▸ Cmp_gt)) (Exs_cons (Ex1_if_t (xcmp xvar Ev_int (c3 ▸ Cmp_eq)) (Exs_cons (xassign (xladd xvar (xlist2 (xcat (xcat (xsubn xvar (xneg Ev_int) (by decide) hn1 hlen el) xvar (by rw [il]; omega)) Ev_str (by rw [eqL]; omega)) Ev_str) (Nat.le_trans (Nat.add_le_add hil (Nat.le_refl 2)) (by decide)))) Exs_nil)) Exs_nil)) Exs_nil)) ?_
          refine Exs_stop (Ex1_ret (xjoin xvar (Ev_to xvar (congrArg PV.list (by rw [List.map_append]; rfl))) (hall [last ++ chrS c ++ ("=" : Str), ""] (fun x hx => by
            rcases List.mem_cons.mp hx with rfl | hx
            · rw [slen, slen, eqL, il]; omega
            · rw [List.mem_singleton.mp hx, hdot]; omega) (by decide : 2 ≤ 2))))
        · rw [Bool.not_eq_true] at c3
          have r : letterL init last (chrS c) width = init.map (fun r => r ++ ("=" : Str)) ++ [last ++ ("=" : Str), hexS c] := by unfold letterL; rw [if_neg (by rw [c1]; decide), if_neg c2, if_neg (by rw [c3]; decide), ho]
          rw [r]
          refine Exs_cons (Ex1_if_f (xcmp xvar Ev_str (c1 ▸ Cmp_seq)) (Exs_cons (Ex1_if_f (xcmp xvar Ev_int ((decide_eq_false c2) ▸ Cmp_gt)) (Exs_cons (Ex1_if_f (xcmp xvar Ev_int (c3 ▸ Cmp_eq)) (Exs_cons (xassign (xladd xvar (xlist2 (xcat (xsubn xvar (xneg Ev_int) (by decide) hn1 hlen el) Ev_str (by rw [eqL]; omega)) (xcall xfn t.esc.callable (xcons (xcall (xbi (.builtin "ord")) cbi (xcons (Ev_to (p := .str (chrS c)) xvar rfl) xnil) Pur_ord) xnil) (esc_pur t hc))) (Nat.le_trans (Nat.add_le_add hil (Nat.le_refl 2)) (by decide)))) Exs_nil)) Exs_nil)) Exs_nil)) ?_
          refine Exs_stop (Ex1_ret (xjoin xvar (Ev_to xvar (congrArg PV.list (by rw [List.map_append]; rfl))) (hall [last ++ ("=" : Str), hexS c] (fun x hx => by
            rcases List.mem_cons.mp hx with rfl | hx
            · rw [slen, eqL]; omega
            · rw [List.mem_singleton.mp hx, hexS_len]; omega) (by decide : 2 ≤ 2))))
end
end Mine
end

section
open PySem PySem.W PyProof.Rows PyProof.V PySem.Spec PySem.SeqAt
set_option Elab.async false
set_option maxRecDepth 100000
set_option maxHeartbeats 8000000
set_option linter.unusedVariables false
namespace Mine
section
variable {prog : Program} {w : World} {T : Tabs} {h₀ : Heap} {n : Nat} {env : Env} {σ : Sto} {own : Own}
theorem VL.intsAre {H : List Addr} {h : Heap} : ∀ {vs : List Value} {l : List Int}, VL H h vs (l.map .int) → IntsAre vs l
  | _, [], .nil => .nil
  | _, i :: l, .cons a r => by
    obtain ⟨t, rfl⟩ := a.int_inv
    exact .cons _ _ (VL.intsAre r)
theorem Room.u64 {A : Around} (r : Room n A) : A.units + 64 < cLine := by have := r.units; omega
theorem Cmp_lnints {l r : List Int} : Pur prog w h₀ n [.list (l.map .int), .list (r.map .int)] (fun us => compareOp .NotEq (us.getD 0 .none) (us.getD 1 .none)) (.bool (!decide (l = r))) := fun _ _ s us Q E rm _ hv _ hQ => by
  obtain ⟨_, _, rfl, v1, v2⟩ := hv.two
  obtain ⟨a, vs, rfl, _, p1, l1⟩ := v1.list_inv
  obtain ⟨b, us, rfl, _, p2, l2⟩ := v2.list_inv
  exact ne_intsK p1.isList l1.intsAre p2.isList l2.intsAre rm.u64 (hQ _ _ s.toks (.refl _) (.bool _))
theorem VL.readsStrs {H : List Addr} {h : Heap} : ∀ {vs : List Value} {l : List Str}, VL H h vs (l.map .str) → ReadsAll h vs (l.map PyData.str) []
  | _, [], .nil => .nil
  | _, x :: l, .cons a r => by
    obtain ⟨t, rfl⟩ := a.str_inv
    have := ReadsAll.cons (Reads.str (h := h) x t) (VL.readsStrs r)
    simpa using this
theorem shaped_strs (l : List Str) (hok : ∀ x ∈ l, PyData.strOk x = true) : shaped (.list (l.map PyData.str)) = true := by
  have h1 : ∀ l : List Str, (∀ x ∈ l, PyData.strOk x = true) → PyData.depthAll (l.map PyData.str) ≤ 1 ∧ PyData.canLayAll0 (l.map PyData.str) = true := by
    intro l
    induction l with
    | nil => intro _; simp [PyData.depthAll, PyData.canLayAll0]
    | cons x r ih =>
      intro hx
      have ih := ih fun y q => hx y (List.mem_cons_of_mem _ q)
      have hx0 := hx x List.mem_cons_self
      simp only [List.map_cons, PyData.depthAll, PyData.depth, PyData.canLayAll0, PyData.canLay0]
      exact ⟨by have := ih.1; omega, by simpa [hx0] using ih.2⟩
  have h2 : PyData.depth (.list (l.map PyData.str)) ≤ 64 := by have := (h1 l hok).1; simp only [PyData.depth]; omega
  show (PyData.canLay0 (.list (l.map PyData.str)) && decide (PyData.depth (.list (l.map PyData.str)) ≤ 64)) = true
  rw [Bool.and_eq_true]
  exact ⟨by simp only [PyData.canLay0]; exact (h1 l hok).2, decide_eq_true h2⟩
theorem noMix_strs : ∀ l r : List Str, noMixAll (l.map PyData.str) (r.map PyData.str) = true
  | [], [] => by simp [noMixAll]
  | [], _ :: _ => by simp [noMixAll]
  | _ :: _, [] => by simp [noMixAll]
  | _ :: r, _ :: q => by simp [noMixAll, noMix, noMix_strs r q]
theorem same_strs : ∀ l r : List Str, PySem.Spec.sameAll (l.map PyData.str) (r.map PyData.str) = decide (l = r)
  | [], [] => by simp [PySem.Spec.sameAll]
  | [], _ :: _ => by simp [PySem.Spec.sameAll]
  | _ :: _, [] => by simp [PySem.Spec.sameAll]
  | x :: r, y :: q => by
    simp only [List.map_cons, PySem.Spec.sameAll, PySem.Spec.same, same_strs r q]
    by_cases h : x = y <;> simp [h]
theorem Cmp_lstrs {l r : List Str} (ok1 : ∀ x ∈ l, PyData.strOk x = true) (ok2 : ∀ x ∈ r, PyData.strOk x = true) : Pur prog w h₀ n [.list (l.map .str), .list (r.map .str)] (fun us => compareOp .Eq (us.getD 0 .none) (us.getD 1 .none)) (.bool (decide (l = r))) := fun _ _ s us Q E rm _ hv _ hQ => by
  obtain ⟨_, _, rfl, v1, v2⟩ := hv.two
  obtain ⟨a, vs, rfl, _, p1, l1⟩ := v1.list_inv
  obtain ⟨b, us, rfl, _, p2, l2⟩ := v2.list_inv
  obtain ⟨o1, ho1, hc1, k1, hd1⟩ := p1.isList
  obtain ⟨o2, ho2, hc2, k2, hd2⟩ := p2.isList
  have ra : Reads s.heap (.ref a) (.list (l.map PyData.str)) [a] := Reads.list ho1 hc1 hd1 (by simpa using l1.readsStrs)
  have rb : Reads s.heap (.ref b) (.list (r.map PyData.str)) [b] := Reads.list ho2 hc2 hd2 (by simpa using l2.readsStrs)
  refine eq_dataH_same ra rb (shaped_strs l ok1) (shaped_strs r ok2) rm.u64 (by simp only [noMix]; exact noMix_strs l r) ?_
  simp only [PySem.Spec.same]
  rw [same_strs]
  exact hQ _ _ s.toks (.refl _) (.bool _)
theorem xcmpv {l r : PySem.Expr} {op : CmpOp} {pos : Pos} {p q y : PV} (hl : Ev prog w T h₀ n env σ l p) (hr : Ev prog w T h₀ n env σ r q)
    (hp : Pur prog w h₀ n [p, q] (fun us => compareOp op (us.getD 0 .none) (us.getD 1 .none)) y) (hm : behindInMarks op r = false := by kernel_rfl) : Ev prog w T h₀ n env σ (.Compare l [op] [r] pos) y := Ev_cmp hl hr hp hm
theorem xrep {l r : PySem.Expr} {pos : Pos} {x : Str} {b : Int} (hl : Ev prog w T h₀ n env σ l (.str x)) (hr : Ev prog w T h₀ n env σ r (.int b)) (hs : MulOk x b) : Ev prog w T h₀ n env σ (.BinOp l .Mult r pos) (.str (Txt.mul x b)) := Ev_bin hl hr (Bin_rep hs)
end
section
variable {prog : Program} {w : World} {d : Adr} {h₀ : Heap} {n : Nat}
def stopsS (coded : Str) : Str := Txt.mul "." (75 - coded.length) ++ " ."
theorem mulOk (x : Str) (b : Int) (hlo : -1000000 ≤ b) (hb : b ≤ 80) (h1 : x.length = 1) : MulOk x b := by
  by_cases h0 : b < 1
  · by_cases hn : b < -(2 ^ 63 : Int)
    · exact absurd hlo (by omega)
    · exact ⟨by rw [decide_eq_false hn, decide_eq_false (by omega)]; rfl, fun h => absurd h0 h, fun h => absurd h0 h⟩
  · refine ⟨by rw [decide_eq_false (by omega), decide_eq_false (by omega)]; rfl, fun _ _ => ?_, fun _ _ => ?_⟩
    · have : (2 ^ 63 - 1 : Int) / b ≥ 1 := by
        apply Int.le_ediv_of_mul_le <;> omega
      omega
    · rw [h1]
      unfold Builtin.Str.tooLong
      rw [decide_eq_false]
      rw [sizeLine_eq]
      omega
theorem fold_rep : ∀ (k : Nat) (x acc : Array Nat), ((List.replicate k x).foldl (· ++ ·) acc).size = acc.size + k * x.size
  | 0, x, acc => by simp
  | k + 1, x, acc => by
    rw [List.replicate_succ, List.foldl_cons, fold_rep k x]
    rw [Array.size_append, Nat.succ_mul]
    omega
theorem mul_len (x : Str) (b : Int) (hb : b ≤ 80) (h1 : x.length = 1) : (Txt.mul x b).length ≤ 80 := by
  unfold Txt.mul
  split
  · show 0 ≤ 80; decide
  · split
    · omega
    · show ((List.replicate b.toNat x.cps).foldl (· ++ ·) #[]).size ≤ 80
      rw [fold_rep]
      have : x.cps.size = 1 := h1
      rw [this]
      simp
      omega
theorem EncAt.callable {a : Addr} (F : EncAt h₀ a) : Callable h₀ (.ref a) := let ⟨o, _, _, _, _, _, _, ho, hd, _⟩ := F.ex; .inr (.inr ⟨a, o, _, rfl, ho, hd⟩)
theorem deflt_pur (t : Top0 d h₀) (F : EncAt h₀ d.enc) {bare coded : Str} {Ns Ms : Str → Nat} (hc : coded.length ≤ 75) (hb : bare.length ≤ 1000) (ok1 : EncOk (bare ++ stopsS coded) ⟨#[10]⟩ 76 Ns) (ok2 : EncOk (bare ++ Txt.slice (stopsS coded) (some 1) none) ⟨#[10]⟩ 76 Ms)
    (e1 : encV (bare ++ stopsS coded) ⟨#[10]⟩ 76 Ns = Txt.slice (coded ++ stopsS coded) none (some 75) ++ ("=\n" : Str) ++ Txt.slice (coded ++ stopsS coded) (some 75) none) (e2 : encV (bare ++ Txt.slice (stopsS coded) (some 1) none) ⟨#[10]⟩ 76 Ms = coded ++ Txt.slice (stopsS coded) (some 1) none)
    (sok : ∀ x ∈ [Txt.slice (coded ++ stopsS coded) none (some 75) ++ ("=\n" : Str) ++ Txt.slice (coded ++ stopsS coded) (some 75) none, coded ++ Txt.slice (stopsS coded) (some 1) none], PyData.strOk x = true) :
    Pur prog w h₀ (n + 3) [.str bare, .str coded] (fun us => call (.ref d.deflt) us) (.bool true) := by
  refine Fn2 (x1 := "bare") (x2 := "coded") [("stops", none), ("broken", none)] t.G t.deflt fun L pm cd doc => ?_
  have hd1 : ("." : Str).length = 1 := by decide +kernel
  have hb2 : (" ." : Str).length = 2 := by decide +kernel
  have he2 : ("=\n" : Str).length = 2 := by decide +kernel
  have hm : (Txt.mul "." (75 - coded.length)).length ≤ 80 := mul_len _ _ (by omega) hd1
  have hs : (stopsS coded).length ≤ 100 := by unfold stopsS; rw [slen, hb2]; omega
  have hcs : (coded ++ stopsS coded).length ≤ 200 := by rw [slen]; omega
  have hsl : ∀ (x : Str) (a b : Option Int), (Txt.slice x a b).length ≤ x.length := Txt.slice_le
  have hbd : stopsS coded = Txt.mul "." (75 - coded.length) ++ " ." := rfl
  refine Exs_cons (xassign (p := .str (stopsS coded)) (xcat (xrep Ev_str (xsubi Ev_int (xcall (xbi (.builtin "len")) cbi (xcons xvar xnil) (Pur_len_str (by omega)))) (mulOk _ _ (by omega) (by omega) hd1)) Ev_str (by rw [hb2]; omega))) ?_
  have h1 := hsl (coded ++ stopsS coded) none (some 75)
  have h2 := hsl (coded ++ stopsS coded) (some 75) none
  have h3 := hsl (stopsS coded) (some 1) none
  generalize hS : stopsS coded = S at *
  refine Exs_cons (xassign (xcat (xcat (xslc (xcat xvar xvar (by rw [← slen]; omega)) EvP_none (EvP_some Ev_int) (by omega)) Ev_str (by rw [he2]; omega)) (xslc (xcat xvar xvar (by rw [← slen]; omega)) (EvP_some Ev_int) EvP_none (by omega)) (by rw [slen, he2]; omega))) ?_
  have e3 : [PV.str (encV (bare ++ S) ⟨#[10]⟩ 76 Ns), .str (encV (bare ++ Txt.slice S (some 1) none) ⟨#[10]⟩ 76 Ms)] = [Txt.slice (coded ++ S) none (some 75) ++ ("=\n" : Str) ++ Txt.slice (coded ++ S) (some 75) none, coded ++ Txt.slice S (some 1) none].map PV.str := by rw [e1, e2]; rfl
  have ob : ∀ x ∈ [Txt.slice (coded ++ S) none (some 75) ++ ("=\n" : Str) ++ Txt.slice (coded ++ S) (some 75) none, coded ++ Txt.slice S (some 1) none], PyData.strOk x = true := sok
  have e4 : decide ([Txt.slice (coded ++ S) none (some 75) ++ ("=\n" : Str) ++ Txt.slice (coded ++ S) (some 75) none, coded ++ Txt.slice S (some 1) none] = [Txt.slice (coded ++ S) none (some 75) ++ ("=\n" : Str) ++ Txt.slice (coded ++ S) (some 75) none, coded ++ Txt.slice S (some 1) none]) = true := decide_eq_true rfl
  refine Exs_stop (Ex1_ret (xcmpv (Ev_to (xlist2 (xcall xfn F.callable (xcons (xcat xvar xvar (by omega)) xnil) (enc_pur1 t F ok1)) (xcall xfn F.callable (xcons (xcat xvar (xslc xvar (EvP_some Ev_int) EvP_none (by omega)) (by omega)) xnil) (enc_pur1 t F ok2))) (congrArg PV.list e3)) (xlist2 xvar (xcat xvar (xslc xvar (EvP_some Ev_int) EvP_none (by omega)) (by omega))) (e4 ▸ Cmp_lstrs ob ob)))
end
end Mine
end

section
open PySem PySem.W PyProof.Rows
set_option Elab.async false
set_option maxRecDepth 100000
set_option linter.unusedVariables false
namespace Mine
structure ZT where
  c : Addr
  z : Addr
  pos : Pos
  q : Str
abbrev zs (Z : List ZT) : List Addr := Z.map ZT.z
def Inv (Z : List ZT) (U : List Addr) (h : Heap) : Prop := ∀ t ∈ Z, CodeHd h t.c t.z ∧ (t.c ∉ U ∧ t.c ∉ zs Z) ∧ ∃ ps, h.get? t.z = some (tabObj ps) ∧
  (ps = #[] ∨ ∃ c', ps = #[rawInt t.pos.line, rawInt t.pos.col, .ref c'] ∧ (c' ∉ U ∧ c' ∉ zs Z) ∧ h.CodeRec (.ref c') t.q)

theorem CodeRec.off {h h' : Heap} {c : Addr} {q : Str} {W : List Addr} (x : h.CodeRec (.ref c) q) (k : KeepsOff W h h') (hc : c ∉ W) : h'.CodeRec (.ref c) q := by
  obtain ⟨c', o, vs, t, e, a, b⟩ := x
  cases e
  exact ⟨c, o, vs, t, rfl, k c o hc a, b⟩
theorem CodeRec.live {h : Heap} {c : Addr} {q : Str} (x : h.CodeRec (.ref c) q) : ∃ o, h.get? c = some o := by
  obtain ⟨c', o, vs, t, e, a, b⟩ := x
  cases e
  exact ⟨o, a⟩
theorem CodeHd.off {h h' : Heap} {c P : Addr} {W : List Addr} (x : CodeHd h c P) (k : KeepsOff W h h') (hc : c ∉ W) : CodeHd h' c P :=
  let ⟨o, vs, file, tf, flags, tg, inF, text, tt, e, r⟩ := x; ⟨o, vs, file, tf, flags, tg, inF, text, tt, k _ _ hc e, r⟩

theorem Inv.step {Z : List ZT} {U U' W : List Addr} {h h' : Heap} (I : Inv Z U h) (k : KeepsOff W h h') (hW : ∀ a ∈ W, a ∈ U) (hz : ∀ a ∈ W, a ∉ zs Z) (hU : ∀ a ∈ U', a ∈ U ∨ h.get? a = none) : Inv Z U' h' := by
  intro t ht
  obtain ⟨a, ⟨b1, b2⟩, ps, c, d⟩ := I t ht
  have off : ∀ {x : Addr} {o : Obj}, x ∉ U → h.get? x = some o → x ∉ U' := fun {x o} hx e q => (hU x q).elim hx fun z => by rw [z] at e; cases e
  have zW : t.z ∉ W := fun q => hz _ q (List.mem_map_of_mem ht)
  refine ⟨CodeHd.off a k fun q => b1 (hW _ q), ⟨?_, b2⟩, ps, k _ _ zW c, d.imp id fun ⟨c', e, ⟨f1, f2⟩, g⟩ => ⟨c', e, ⟨?_, f2⟩, CodeRec.off g k fun q => f1 (hW _ q)⟩⟩
  · obtain ⟨o, vs, file, tf, flags, tg, inF, text, tt, e, r⟩ := a
    exact off b1 e
  · obtain ⟨o, e'⟩ := CodeRec.live g
    exact off f1 e'
theorem Inv.ext {Z : List ZT} {U : List Addr} {h h' : Heap} (I : Inv Z U h) (k : Ext h h') : Inv Z U h' := I.step (W := []) (.ext k) (fun _ q => nomatch q) (fun _ q => nomatch q) fun _ q => .inl q
theorem Inv.sub {Z : List ZT} {U U' : List Addr} {h : Heap} (I : Inv Z U h) (hU : ∀ a ∈ U', a ∈ U ∨ h.get? a = none) : Inv Z U' h := I.step (W := []) (.refl _ _) (fun _ q => nomatch q) (fun _ q => nomatch q) hU
theorem Inv.live {Z : List ZT} {U : List Addr} {h : Heap} (I : Inv Z U h) : Live (zs Z) h := fun a q => by
  obtain ⟨t, ht, rfl⟩ := List.mem_map.mp q
  obtain ⟨_, _, ps, c, _⟩ := I t ht
  exact ⟨_, c⟩

def AfterZ (T : Tabs) (Z : List ZT) (h₀ : Heap) (env : Env) (H W : List Addr) (h : Heap) (out : Out) (fl : Flow) (h' : Heap) : Prop := match out with
  | .next σ' own' => fl = .next ∧ ∃ W', (∀ a ∈ W, a ∈ W') ∧ (∀ a ∈ W', a ∈ W ∨ h.get? a = none) ∧ Ctx T h₀ (zs Z ++ H) W' env σ' own' h' ∧ Inv Z (W' ++ H) h'
  | .ret p => ∃ v, fl = .ret v ∧ V (zs Z ++ H) h' v p ∧ Inv Z (W ++ H) h'

def ExsZ (prog : Program) (w : World) (T : Tabs) (Z : List ZT) (h₀ : Heap) (n : Nat) (env : Env) (σ : Sto) (own : Own) (sts : List Stmt) (out : Out) : Prop :=
  ∀ (A : Around) (H W : List Addr) (s : Shared) (Q : Flow → Shared → Prop) (E : Value → Shared → Prop), Room n A → Ctx T h₀ (zs Z ++ H) W env σ own s.heap → Inv Z (W ++ H) s.heap →
    (∀ fl h' tk, KeepsOff (W ++ zs Z) s.heap h' → AfterZ T Z h₀ env H W s.heap out fl h' → Q fl { s with heap := h', toks := tk }) → wpAny (model prog w) A (execs sts env) Q E s
def Ex1Z (prog : Program) (w : World) (T : Tabs) (Z : List ZT) (h₀ : Heap) (n : Nat) (env : Env) (σ : Sto) (own : Own) (st : Stmt) (out : Out) : Prop :=
  ∀ (A : Around) (H W : List Addr) (s : Shared) (Q : Flow → Shared → Prop) (E : Value → Shared → Prop), Room n A → Ctx T h₀ (zs Z ++ H) W env σ own s.heap → Inv Z (W ++ H) s.heap →
    (∀ fl h' tk, KeepsOff (W ++ zs Z) s.heap h' → AfterZ T Z h₀ env H W s.heap out fl h' → Q fl { s with heap := h', toks := tk }) → wpAny (model prog w) A (exec st env) Q E s
def PurZ (prog : Program) (w : World) (Z : List ZT) (h₀ : Heap) (n : Nat) (vs : List PV) (t : List Value → Sem Value) (r : PV) : Prop :=
  ∀ (A : Around) (H : List Addr) (s : Shared) (us : List Value) (Q : Value → Shared → Prop) (E : Value → Shared → Prop), Room n A → Ext h₀ s.heap → VL (zs Z ++ H) s.heap us vs → Live (zs Z ++ H) s.heap → Inv Z H s.heap →
    (∀ v h' tk, KeepsOff (zs Z) s.heap h' → V (zs Z ++ H) h' v r → Inv Z H h' → Q v { s with heap := h', toks := tk }) → wpAny (model prog w) A (t us) Q E s

section
variable {prog : Program} {w : World} {T : Tabs} {Z : List ZT} {h₀ : Heap} {n : Nat} {env : Env} {σ : Sto} {own : Own}
theorem AfterZ.of {H W : List Addr} {h h' : Heap} {out : Out} {fl : Flow} (D : ∀ a ∈ W, a ∉ zs Z ++ H) (I : Inv Z (W ++ H) h) (k : KeepsOff W h h') (af : After T h₀ env (zs Z ++ H) W h out fl h') : AfterZ T Z h₀ env H W h out fl h' := by
  have hW : ∀ a ∈ W, a ∈ W ++ H := fun a q => List.mem_append_left _ q
  have hz : ∀ a ∈ W, a ∉ zs Z := fun a q z => D a q (List.mem_append_left _ z)
  cases out with
  | ret p =>
    obtain ⟨v, e, hv⟩ := af
    exact ⟨v, e, hv, I.step k hW hz fun a q => .inl q⟩
  | next σ' own' =>
    obtain ⟨e, W', w1, w2, C⟩ := af
    exact ⟨e, W', w1, w2, C, I.step k hW hz fun a q => (List.mem_append.mp q).elim (fun q => (w2 a q).imp (List.mem_append_left _) id) fun q => .inl (List.mem_append_right _ q)⟩
theorem Ex1.z {st : Stmt} {out : Out} (h : Ex1 prog w T h₀ n env σ own st out) : Ex1Z prog w T Z h₀ n env σ own st out := fun A H W s Q E rm C I hQ =>
  h A _ W s Q E rm C fun fl h' tk k af => hQ fl h' tk (fun b o hb e => k b o (fun q => hb (List.mem_append_left _ q)) e) (.of C.D I k af)
theorem Exs.z {sts : List Stmt} {out : Out} (h : Exs prog w T h₀ n env σ own sts out) : ExsZ prog w T Z h₀ n env σ own sts out := fun A H W s Q E rm C I hQ =>
  h A _ W s Q E rm C fun fl h' tk k af => hQ fl h' tk (fun b o hb e => k b o (fun q => hb (List.mem_append_left _ q)) e) (.of C.D I k af)

theorem KeepsOff.seqZ {W W' Y : List Addr} {a b c : Heap} (x : KeepsOff (W ++ Y) a b) (hw : ∀ i ∈ W', i ∈ W ∨ a.get? i = none) (y : KeepsOff (W' ++ Y) b c) : KeepsOff (W ++ Y) a c := fun i o hi e =>
  y i o (fun q => (List.mem_append.mp q).elim (fun q => (hw i q).elim (fun z => hi (List.mem_append_left _ z)) fun z => by rw [z] at e; cases e) fun q => hi (List.mem_append_right _ q)) (x i o hi e)

theorem AfterZ.pre {H W W' : List Addr} {h h₁ h' : Heap} {out : Out} {fl : Flow} (k : KeepsOff (W ++ zs Z) h h₁) (L : Live (zs Z) h) (w1 : ∀ a ∈ W, a ∈ W') (w2 : ∀ a ∈ W', a ∈ W ∨ h.get? a = none)
    (dz : ∀ a ∈ W', a ∉ zs Z) (L1 : Live (zs Z) h₁) (af : AfterZ T Z h₀ env H W' h₁ out fl h') : AfterZ T Z h₀ env H W h out fl h' := by
  cases out with
  | ret p =>
    obtain ⟨v, e, hv, I⟩ := af
    exact ⟨v, e, hv, I.sub fun a q => .inl ((List.mem_append.mp q).elim (fun q => List.mem_append_left _ (w1 a q)) (List.mem_append_right _))⟩
  | next σ' own' =>
    obtain ⟨e, W'', w1', w2', C, I⟩ := af
    refine ⟨e, W'', fun a q => w1' a (w1 a q), fun a q => ?_, C, I⟩
    rcases w2' a q with r | r
    · exact w2 a r
    · by_cases hw : a ∈ W
      · exact .inl hw
      · by_cases hz : a ∈ zs Z
        · obtain ⟨o, e⟩ := L1 a hz
          rw [r] at e; cases e
        · refine .inr ?_
          cases e : h.get? a with
          | none => rfl
          | some o =>
            rw [show h₁.get? a = some o from k a o (fun q => (List.mem_append.mp q).elim hw hz) e] at r
            cases r

theorem ExsZ_cons {st : Stmt} {rest : List Stmt} {σ₁ : Sto} {own₁ : Own} {out : Out} (h1 : Ex1Z prog w T Z h₀ n env σ own st (.next σ₁ own₁)) (h2 : ExsZ prog w T Z h₀ n env σ₁ own₁ rest out) :
    ExsZ prog w T Z h₀ n env σ own (st :: rest) out := fun A H W s Q E rm C I hQ => by
  refine wpAny_execs_cons (h1 A H W s _ E rm C I fun fl h' tk k af => ?_)
  obtain ⟨rfl, W', w1, w2, C', I'⟩ := af
  exact h2 A H W' _ _ E rm C' I' fun fl h'' tk' k' af' => hQ fl h'' tk' (k.seqZ w2 k') (.pre k I.live w1 w2 (fun a q z => C'.D a q (List.mem_append_left _ z)) I'.live af')
theorem ExsZ_stop {st : Stmt} {rest : List Stmt} {p : PV} (h1 : Ex1Z prog w T Z h₀ n env σ own st (.ret p)) : ExsZ prog w T Z h₀ n env σ own (st :: rest) (.ret p) := fun A H W s Q E rm C I hQ => by
  refine wpAny_execs_cons (h1 A H W s _ E rm C I fun fl h' tk k af => ?_)
  obtain ⟨v, rfl, hv⟩ := id af
  exact hQ _ h' tk k af
theorem ExsZ_nil : ExsZ prog w T Z h₀ n env σ own [] (.next σ own) := Exs_nil.z

theorem Ctx.offZ {H W : List Addr} {h h' : Heap} (C : Ctx T h₀ (zs Z ++ H) W env σ own h) (I : Inv Z (W ++ H) h) (hz₀ : ∀ a ∈ zs Z, h₀.get? a = none) (k : KeepsOff (zs Z) h h') (lv : Live (zs Z) h') : Ctx T h₀ (zs Z ++ H) W env σ own h' := by
  have nW : ∀ a ∈ W, a ∉ zs Z := fun a q z => C.D a q (List.mem_append_left _ z)
  have kk : KeepsOff (W ++ (zs Z ++ H)) h h' := fun b o q e => k b o (fun z => q (List.mem_append_right _ (List.mem_append_left _ z))) e
  have cellOff : ∀ {c : Addr} {u : Option Value}, h.IsCell c u → c ∉ zs Z := fun {c u} d q => by
    obtain ⟨t, ht, rfl⟩ := List.mem_map.mp q
    obtain ⟨_, _, ps, e, _⟩ := I t ht
    obtain ⟨o, e1, e2⟩ := d
    rw [e] at e1; cases e1; cases e2
  obtain ⟨m, hm, hv⟩ := C.E.vars
  refine ⟨⟨C.E.kind, C.E.glb, C.E.blt, C.E.G, fun b o e => k b o (fun z => by rw [hz₀ b z] at e; cases e) (C.E.ext b o e), m, ?_, fun x o e => ?_⟩, fun a q => ?_, C.R, fun q hq => ?_, C.N, C.D, C.C, C.X⟩
  · obtain ⟨o, es, ep, a, r⟩ := hm
    exact ⟨o, es, ep, k _ _ (nW _ C.R.loc) a, r⟩
  · rcases hv x o e with ⟨a, b⟩ | ⟨c, u, a, b, d, r⟩
    · exact .inl ⟨a, fun p q => let ⟨v, y, z⟩ := b p q; ⟨v, y, z.mono kk⟩⟩
    · exact .inr ⟨c, u, a, b, let ⟨o', e1, e2⟩ := id d; ⟨o', k _ _ (cellOff d) e1, e2⟩, fun p q => let ⟨v, y, z⟩ := r p q; ⟨v, y, z.mono kk⟩⟩
  · by_cases e : a ∈ zs Z
    · exact lv a e
    · obtain ⟨o, ho⟩ := C.L a q
      exact ⟨o, k a o e ho⟩
  · obtain ⟨a, vs, ⟨kz, b⟩, c⟩ := C.O q hq
    exact ⟨a, vs, ⟨kz, k _ _ (nW _ a) b⟩, c.mono kk⟩
end
end Mine
end

section
open PySem PySem.W PyProof.Rows
set_option Elab.async false
set_option maxRecDepth 100000
set_option linter.unusedVariables false
namespace Mine
def EvZ (prog : Program) (w : World) (T : Tabs) (Z : List ZT) (h₀ : Heap) (n : Nat) (env : Env) (σ : Sto) (own : Own) (e : PySem.Expr) (p : PV) : Prop :=
  ∀ (A : Around) (H W : List Addr) (s : Shared) (Q : Value → Shared → Prop) (E : Value → Shared → Prop), Room n A → Ctx T h₀ (zs Z ++ H) W env σ own s.heap → Inv Z (W ++ H) s.heap →
    (∀ v h' tk, KeepsOff (zs Z) s.heap h' → Ctx T h₀ (zs Z ++ H) W env σ own h' → Inv Z (W ++ H) h' → V (W ++ (zs Z ++ H)) h' v p → Q v { s with heap := h', toks := tk }) → wpAny (model prog w) A (eval e env) Q E s
section
variable {prog : Program} {w : World} {T : Tabs} {Z : List ZT} {h₀ : Heap} {n : Nat} {env : Env} {σ : Sto} {own : Own}
theorem mid {X Y H : List Addr} : ∀ a ∈ X ++ (Y ++ H), a ∈ Y ++ (X ++ H) := fun a q => by
  simp only [List.mem_append] at q ⊢
  rcases q with q | q | q
  · exact .inr (.inl q)
  · exact .inl q
  · exact .inr (.inr q)
theorem EvZ_call {x : Str} {np pos : Pos} {args : List PySem.Expr} {f : Value} {ps : List PV} {y : PV} (hz₀ : ∀ a ∈ zs Z, h₀.get? a = none) (hn : Ev prog w T h₀ n env σ (.Name x np) (.raw f)) (hf : Callable h₀ f) (ha : EvL prog w T h₀ n env σ args ps)
    (hp : PurZ prog w Z h₀ n ps (fun us => call f us) y) (hs : (starEach args env).any (·.1) = false) : EvZ prog w T Z h₀ n env σ own (.Call (.Name x np) args [] pos) y := fun A H W s Q E rm C I hQ => by
  show wpAny _ A (do callWith pos (← eval (.Name x np) env) [] (backTo pos (starEach args env)) (backToKw pos (keywordEach [] env))) Q E s
  refine wpAny_bind (hn A _ s _ _ rm C.E C.L fun v h1 t1 k1 v1 => ?_)
  obtain rfl := v1.raw_inv
  refine callWith_any (backTo_plain hs) ?_ (ha A _ _ pos _ _ rm (C.E.ext' k1) (C.L.ext k1) fun vs h2 t2 k2 v2 => ⟨k2, ?_⟩)
  · rcases hf with q | q | ⟨a, o, fd, rfl, ho, hd⟩
    · exact .inl q
    · exact .inr (.inl q)
    · exact .inr (.inr ⟨a, o, fd, rfl, C.E.ext.trans k1 _ _ ho, hd⟩)
  · have C2 := C.ext (k1.trans k2)
    have I2 := I.ext (k1.trans k2)
    refine hp A (W ++ H) _ _ _ _ rm C2.E.ext (v2.weak mid) (fun a q => C2.L a (mid a q)) I2 fun z h3 t3 k3 v3 I3 => ?_
    exact hQ z h3 t3 (fun b o q e => k3 b o q ((k1.trans k2) b o e)) (C2.offZ I2 hz₀ k3 I3.live) I3 (v3.weak mid)

theorem keepZ {W Y : List Addr} {h h1 h2 : Heap} (k1 : KeepsOff Y h h1) (k2 : KeepsOff W h1 h2) : KeepsOff (W ++ Y) h h2 := fun b o q e =>
  k2 b o (fun z => q (List.mem_append_left _ z)) (k1 b o (fun z => q (List.mem_append_right _ z)) e)
theorem Inv.store {H W : List Addr} {h h' : Heap} (C : Ctx T h₀ (zs Z ++ H) W env σ own h) (I : Inv Z (W ++ H) h) (k : KeepsOff W h h') : Inv Z (W ++ H) h' :=
  I.step k (fun a q => List.mem_append_left _ q) (fun a q z => C.D a q (List.mem_append_left _ z)) fun a q => .inl q
theorem Ex1Z_ret {e : PySem.Expr} {pos : Pos} {p : PV} (he : EvZ prog w T Z h₀ n env σ own e p) : Ex1Z prog w T Z h₀ n env σ own (.Return (some e) pos) (.ret p) := fun A H W s Q E rm C I hQ =>
  wpAny_Return_some (he A H W s _ E rm C I fun v h' tk k C' I' hv => hQ _ h' tk (fun b o q e => k b o (fun z => q (List.mem_append_right _ z)) e) ⟨v, rfl, hv.weak fun a q => List.mem_append_right _ q, I'⟩)
theorem Ex1Z_assign {x : Str} {pos pos' : Pos} {value : PySem.Expr} {p : PV} {σ' : Sto} (he : EvZ prog w T Z h₀ n env σ own value p) (u : Upd x p σ σ') (hx : Storable env x = true)
    (hs : swapsWith value (some (.Name x pos')) pos.line env = pure false) : Ex1Z prog w T Z h₀ n env σ own (.Assign [.Name x pos'] value pos) (.next σ' own) := fun A H W s Q E rm C I hQ =>
  wpAny_Assign_Name (hs := hs) (he A H W s _ E rm C I fun v h' tk k C1 I1 hv => store_ C1 u hx hv fun h'' tk' k' _ C' => hQ .next h'' tk' (keepZ k k')
    ⟨rfl, W, fun _ q => q, fun _ q => .inl q, C', I1.store C1 k'⟩)
theorem Ex1Z_tup2 {x1 x2 : Str} {q1 q2 tpos pos : Pos} {k : Nat} {value : PySem.Expr} {p1 p2 : PV} {σ1 σ2 : Sto} (he : EvZ prog w T Z h₀ n env σ own value (.tup [p1, p2])) (u1 : Upd x1 p1 σ σ1 := by with_reducible repeat (first | exact .head | apply Upd.tail)) (u2 : Upd x2 p2 σ1 σ2 := by with_reducible repeat (first | exact .head | apply Upd.tail))
    (h1 : Storable env x1 = true := by kernel_rfl) (h2 : Storable env x2 = true := by kernel_rfl)
    (hs : swapsWithSole [.Tuple [.Name x1 q1, .Name x2 q2] k tpos] value pos.line env = pure false := by kernel_rfl) (hw : swappedStores [.Tuple [.Name x1 q1, .Name x2 q2] k tpos] value env = pure none := by kernel_rfl) :
    Ex1Z prog w T Z h₀ n env σ own (.Assign [.Tuple [.Name x1 q1, .Name x2 q2] k tpos] value pos) (.next σ2 own) := fun A H W s Q E rm C I hQ =>
  Assign_Tuple (hs := hs) (hw := hw) (he A H W s _ E rm C I fun v h1' t1 k1 C1 I1 v1 => by
    obtain ⟨a, vs, rfl, ha, pt, lv⟩ := v1.tup_inv
    obtain ⟨v, u, rfl, e1, e2⟩ := lv.two
    refine assign_Tuple_tuple rm.hh pt rfl rfl fun h2' ke => ?_
    have k2 : Ext h1' h2' := fun b o e => ke b o (fun z => by rw [z] at e; exact absurd (Heap.lt_size e) (Nat.lt_irrefl _)) e
    refine assignInOrder_cons (assign_Name (store_ (C1.ext k2) u1 h1 (e1.ext k2) fun h3 t3 k3 _ C3 => ?_))
    refine assignInOrder_cons (assign_Name (store_ C3 u2 h2 ((e2.ext k2).mono (keep_up k3)) fun h4 t4 k4 _ C4 => ?_))
    exact assignInOrder_nil (hQ .next h4 t4 (keepZ k1 fun b o q e => k4 b o q (k3 b o q (k2 b o e))) ⟨rfl, W, fun _ q => q, fun _ q => .inl q, C4, ((I1.ext k2).store (C1.ext k2) k3).store C3 k4⟩))
theorem Ex1Z_tup3 {x1 x2 x3 : Str} {q1 q2 q3 tpos pos : Pos} {k : Nat} {value : PySem.Expr} {p1 p2 p3 : PV} {σ1 σ2 σ3 : Sto} (he : EvZ prog w T Z h₀ n env σ own value (.tup [p1, p2, p3])) (u1 : Upd x1 p1 σ σ1 := by with_reducible repeat (first | exact .head | apply Upd.tail)) (u2 : Upd x2 p2 σ1 σ2 := by with_reducible repeat (first | exact .head | apply Upd.tail))
    (u3 : Upd x3 p3 σ2 σ3 := by with_reducible repeat (first | exact .head | apply Upd.tail))
    (h1 : Storable env x1 = true := by kernel_rfl) (h2 : Storable env x2 = true := by kernel_rfl) (h3 : Storable env x3 = true := by kernel_rfl)
    (hs : swapsWithSole [.Tuple [.Name x1 q1, .Name x2 q2, .Name x3 q3] k tpos] value pos.line env = pure false := by kernel_rfl) (hw : swappedStores [.Tuple [.Name x1 q1, .Name x2 q2, .Name x3 q3] k tpos] value env = pure none := by kernel_rfl) :
    Ex1Z prog w T Z h₀ n env σ own (.Assign [.Tuple [.Name x1 q1, .Name x2 q2, .Name x3 q3] k tpos] value pos) (.next σ3 own) := fun A H W s Q E rm C I hQ =>
  Assign_Tuple (hs := hs) (hw := hw) (he A H W s _ E rm C I fun v h1' t1 k1 C1 I1 v1 => by
    obtain ⟨a, vs, rfl, ha, pt, lv⟩ := v1.tup_inv
    obtain ⟨y1, y2, y3, rfl, e1, e2, e3⟩ := lv.three
    refine assign_Tuple_tuple rm.hh pt rfl rfl fun h2' ke => ?_
    show wpAny _ A (assignInOrder [assign (.Name x1 q1) env, assign (.Name x2 q2) env, assign (.Name x3 q3) env] [y1, y2, y3]) _ _ _
    have k2 : Ext h1' h2' := fun b o e => ke b o (fun z => by rw [z] at e; exact absurd (Heap.lt_size e) (Nat.lt_irrefl _)) e
    refine assignInOrder_cons (assign_Name (store_ (C1.ext k2) u1 h1 (e1.ext k2) fun h3' t3 k3 _ C3 => ?_))
    refine assignInOrder_cons (assign_Name (store_ C3 u2 h2 ((e2.ext k2).mono (keep_up k3)) fun h4 t4 k4 _ C4 => ?_))
    refine assignInOrder_cons (assign_Name (store_ C4 u3 h3 (V.mono (keep_up k4) (V.mono (keep_up k3) (e3.ext k2))) fun h5 t5 k5 _ C5 => ?_))
    exact assignInOrder_nil (hQ .next h5 t5 (keepZ k1 fun b o q e => k5 b o q (k4 b o q (k3 b o q (k2 b o e)))) ⟨rfl, W, fun _ q => q, fun _ q => .inl q, C5, (((I1.ext k2).store (C1.ext k2) k3).store C3 k4).store C4 k5⟩))
theorem Ex1Z_if_f {e : PySem.Expr} {body orelse : List Stmt} {pos : Pos} {out : Out} (he : EvB prog w T h₀ n env σ e false) (hb : ExsZ prog w T Z h₀ n env σ own orelse out) : Ex1Z prog w T Z h₀ n env σ own (.If e body orelse pos) out := fun A H W s Q E rm C I hQ =>
  wpAny_If (he A _ s _ E rm C.E C.L fun h' tk k => hb A H W _ Q E rm (C.ext k) (I.ext k) fun fl h'' tk' k' af => hQ fl h'' tk' (KeepsOff.trans (.ext k) k')
    (.pre (.ext k) I.live (fun _ q => q) (fun _ q => .inl q) (fun a q z => C.D a q (List.mem_append_left _ z)) (I.ext k).live af))

theorem PurZ_call {a : Addr} {o : Obj} {fd : FuncData} {body : List Stmt} {names rest : List Str} {vs vs' : List PV} {p : PV} (G : Gl T h₀) (ho : h₀.get? a = some o) (hd : o.data = .func fd) (hcd : h₀.CodeRec fd.code fd.qualname) (hbody : fd.body = .stmts body)
    (hclo : fd.closure = []) (hglob : fd.globals = mainGlobals) (hblt : fd.builtins = builtinsNs)
    (hbind : ∀ H h us, Ext h₀ h → VL H h us vs → ∃ us', bindArgs fd ⟨us, []⟩ = pure (names.zip us') ∧ VL H h us' vs') (hn : names.length = vs'.length)
    (hnames : ∀ x ∈ names ++ rest, fd.scope.names.lookup x = some .local ∨ fd.scope.names.lookup x = some .cell) (nd : (names ++ rest).Nodup)
    (h : ∀ L, ExsZ prog w T Z h₀ n (callEnvC fd L a) (sto0 names vs' rest) [] body (.ret p))
    (hco : fd.scope.isCoroutine = false := by rfl) (hgen : fd.scope.isGenerator = false := by rfl) (hk : fd.scope.kind = .function := by rfl) :
    PurZ prog w Z h₀ (n + 1) vs (fun us => call (.ref a) us) p := fun A H s us Q E rm ext hv lv I hQ => by
  obtain ⟨us', hb, hv'⟩ := hbind _ s.heap us ext hv
  refine wpAny_call (codeAny_call_cells (fd := fd) (body := body) (binds := names.zip us') (by have := rm.depth; omega) (ext _ _ ho) hd (G.ext ext).nolimit (hcd.keeps ext) hbody hb hclo ?_ (fun s₁ X => ?_) hco hgen hk)
  · intro x hx
    have hx' : x.1 ∈ names ++ rest := List.mem_append_left _ (List.of_mem_zip hx).1
    exact (hnames x.1 hx').imp id fun k => ⟨k, cellsFrom_has _ _ _ _ (.inl k)⟩
  · obtain ⟨W, w1, C⟩ := enter (a := a) (A := A) G ext lv hglob hblt hk hv' hn hnames nd hclo X
    have hkeep := X.toInCall.keep
    obtain ⟨h₁, tk₁, rfl, _⟩ := X.done
    have hkeep' : Ext s.heap h₁ := fun b o e => hkeep b o e
    have I1 : Inv Z (W ++ H) h₁ := (I.sub (U' := W ++ H) fun a q => (List.mem_append.mp q).elim (fun q => .inr (w1 a q)) .inl).ext hkeep'
    refine h s.heap.objs.size (A.deeper _) H W _ _ _ rm.deeper C I1 fun fl h' tk k af => ?_
    obtain ⟨v, rfl, hV, I'⟩ := af
    exact hQ v h' tk (fun b o q e => k b o (fun z => (List.mem_append.mp z).elim (fun z => by rw [w1 b z] at e; cases e) q) (hkeep b o e)) hV (I'.sub fun a q => .inl (List.mem_append_right _ q))
end
end Mine
end

section
open PySem PySem.W PyProof.Rows
set_option Elab.async false
set_option maxRecDepth 100000
set_option linter.unusedVariables false
namespace Mine
def BiAt (h₀ : Heap) : Prop := ∃ mg bm ob, h₀.Ns mainGlobals mg ∧ mg "__builtins__" = some (.ref bm) ∧ bm ≠ builtinsNs ∧ bm ≠ mainGlobals ∧ h₀.get? bm = some ob ∧ ob.cls = .type "module" ∧ ob.dict = some builtinsNs ∧ ob.data = .plain
section
variable {prog : Program} {w : World} {T : Tabs} {Z : List ZT} {h₀ : Heap} {n : Nat} {env : Env} {σ : Sto} {own : Own}
theorem rebase {H W : List Addr} {h : Heap} (C : Ctx T h₀ (zs Z ++ H) W env σ own h) (hz₀ : ∀ a ∈ zs Z, h₀.get? a = none) :
    Ext h₀ (hideAll h (W ++ zs Z)) ∧ Ctx T (hideAll h (W ++ zs Z)) (zs Z ++ H) W env σ own h := by
  have ex : Ext h₀ (hideAll h (W ++ zs Z)) := fun b o e => hideAll_get _ (C.E.ext b o e) fun q => by
    rcases List.mem_append.mp q with q | q
    · rw [C.R.new b q] at e; cases e
    · rw [hz₀ b q] at e; cases e
  exact ⟨ex, ⟨C.E.kind, C.E.glb, C.E.blt, C.E.G.ext ex, fun b o e => of_hideAll _ e, C.E.vars⟩, C.L, ⟨C.R.loc, C.R.cel, C.R.apart, fun a q => hideAll_none _ (List.mem_append_left _ q), C.R.names⟩, C.O, C.N, C.D, C.C, C.X⟩

theorem ExsZ_def {t : ZT} {name : Str} {params : Arguments} {body rest : List Stmt} {scope : Scope} {clos : List (Str × Addr)} {σ' : Addr → Sto} {p : PV} (ht : t ∈ Z) (inj : ∀ r ∈ Z, r.z = t.z → r = t) (hz₀ : ∀ a ∈ zs Z, h₀.get? a = none) (B : BiAt h₀) (u : ∀ f, Upd name (.raw (.ref f)) σ (σ' f)) (hx : Storable env name = true)
    (hcl : closureFor scope env = pure clos) (hq : qualnameIn env name name = t.q) (hcode : env.code = .ref t.c)
    (h : ∀ h₁ f c' doc pm ctv, Ext h₀ h₁ → (∀ a ∈ zs Z, h₁.get? a = none) → h₁.get? f = some (fnMade name t.q params body scope clos doc pm c' ctv) → h₁.CodeRec (.ref c') t.q → ExsZ prog w T Z h₁ n env (σ' f) own rest (.ret p))
    (hd0 : params.defaults = [] := by rfl) (hk0 : params.kw_defaults = [] := by rfl) (ha : annTrees params none env = [] := by kernel_rfl) :
    ExsZ prog w T Z h₀ n env σ own (.FunctionDef name params body [] none [] scope none name t.pos :: rest) (.ret p) := fun A H W s Q E rm C I hQ => by
  obtain ⟨mg, bm, ob, b1, b2, b3, b4, b5, b6, b7, b8⟩ := B
  have zm : t.z ∈ zs Z := List.mem_map_of_mem ht
  have hz : h₀.get? t.z = none := hz₀ _ zm
  have hg := b1.keeps C.E.ext
  have hgP : mainGlobals ≠ t.z := fun q => by
    obtain ⟨o, es, ep, e, _⟩ := b1
    rw [q, hz] at e; cases e
  have hB : s.heap.BuiltinsAt mg t.z := ⟨bm, ob, b2, b3, b4, fun q => (by rw [q, hz] at b5; cases b5), C.E.ext _ _ b5, b6, b7, b8⟩
  have fin : ∀ c' ctv doc h' tk, KeepsOff (zs Z) s.heap h' → s.heap.objs.size ≤ h'.objs.size → h'.CodeRec (.ref c') t.q → Inv Z (W ++ H) h' → c' ∉ W → c' ∉ zs Z →
      wpAny (model prog w) A (storeName env name (.ref h'.objs.size)) (fun _ s'' => wpAny (model prog w) A (execs rest env) Q E s'') E
        { s with heap := h'.push (fnMade name t.q params body scope clos doc ((mg "__name__").getD .none) c' ctv), toks := tk } := by
    intro c' ctv doc h' tk k hsz hrec I' cW cZ
    have C1 := C.offZ I hz₀ k I'.live
    have kp := Ext.push h' (fnMade name t.q params body scope clos doc ((mg "__name__").getD .none) c' ctv)
    have C2 := C1.ext kp
    have fnone : s.heap.get? h'.objs.size = none := get_none hsz
    have fW : h'.objs.size ∉ W ++ (zs Z ++ H) := C1.L.off
    refine store_ C2 (u _) hx (.raw _) fun h3 tk3 k3 _ C3 => ?_
    obtain ⟨ex, C4⟩ := rebase C3 hz₀
    have g3 : h3.get? h'.objs.size = some (fnMade name t.q params body scope clos doc ((mg "__name__").getD .none) c' ctv) :=
      k3 _ _ (fun q => fW (List.mem_append_left _ q)) (Heap.get?_push_size _ rfl)
    have r3 : h3.CodeRec (.ref c') t.q := CodeRec.off (hrec.push _) k3 cW
    have g4 : (hideAll h3 (W ++ zs Z)).get? h'.objs.size = some (fnMade name t.q params body scope clos doc ((mg "__name__").getD .none) c' ctv) :=
      hideAll_get _ g3 fun q => fW ((List.mem_append.mp q).elim (List.mem_append_left _) fun q => List.mem_append_right _ (List.mem_append_left _ q))
    have r4 : (hideAll h3 (W ++ zs Z)).CodeRec (.ref c') t.q := by
      obtain ⟨c₂, o, vs, tt, e, a, b⟩ := r3
      cases e
      exact ⟨_, o, vs, tt, rfl, hideAll_get _ a fun q => (List.mem_append.mp q).elim cW cZ, b⟩
    refine h _ _ c' doc _ ctv ex (fun a q => hideAll_none _ (List.mem_append_right _ q)) g4 r4 A H W _ Q E rm C4 ((I'.ext kp).store C2 k3) fun fl h'' tk'' k'' af => hQ fl h'' tk'' (fun b o q e => ?_) af
    exact k'' b o q (k3 b o (fun z => q (List.mem_append_left _ z)) (kp b o (k b o (fun z => q (List.mem_append_right _ z)) e)))
  refine wpAny_execs_cons (nestDef_K hd0 hk0 ha ?_)
  rw [hq]
  obtain ⟨cd, ⟨cU, cZ⟩, ps, tab, st⟩ := I t ht
  rcases st with rfl | ⟨c', rfl, ⟨c'U, c'Z⟩, rec⟩
  · refine makeFunction_K hcl C.E.glb hg hcode cd tab trivial rfl hgP hB fun c' ctv doc h' tk hx' hge hlt hrec htab => ?_
    have kz : KeepsOff (zs Z) s.heap h' := fun b o q e => hx' b o (fun z => q (z ▸ zm)) e
    have live : ∀ {x : Addr} {o : Obj}, s.heap.get? x = some o → x ≠ c' := fun e q => Nat.lt_irrefl _ (Nat.lt_of_lt_of_le (Heap.lt_size (q ▸ e)) hge)
    have cnew : ∀ a ∈ W ++ (zs Z ++ H), a ≠ c' := fun a q => let ⟨o, e⟩ := C.L a q; live e
    have cW : c' ∉ W := fun q => cnew c' (List.mem_append_left _ q) rfl
    have cZ' : c' ∉ zs Z := fun q => cnew c' (List.mem_append_right _ (List.mem_append_left _ q)) rfl
    have cH : c' ∉ H := fun q => cnew c' (List.mem_append_right _ (List.mem_append_right _ q)) rfl
    refine fin c' ctv doc h' tk kz (Nat.le_trans hge (Nat.le_of_lt hlt)) hrec (fun r hr => ?_) cW cZ'
    obtain ⟨d1, d2, ps, d3, d4⟩ := I r hr
    refine ⟨CodeHd.off d1 kz d2.2, d2, ?_⟩
    by_cases e : r.z = t.z
    · obtain rfl := inj r hr e
      exact ⟨_, htab, .inr ⟨c', by simp, ⟨fun q => (List.mem_append.mp q).elim cW cH, cZ'⟩, hrec⟩⟩
    · exact ⟨ps, hx' _ _ e d3, d4.imp id fun ⟨c₂, f1, f2, f3⟩ => ⟨c₂, f1, f2, CodeRec.off f3 kz f2.2⟩⟩
  · have tr : TriplesOk #[rawInt t.pos.line, rawInt t.pos.col, Value.ref c'].toList := trivial
    refine makeFunction_hit hcl C.E.glb hg hcode cd tab tr (cv := .ref c') ?_ hB fun ctv doc h' tk hk hsz => ?_
    · simp [codeAmong, rawInt]
    · exact fin c' ctv doc h' tk (.ext hk) hsz (rec.keeps hk) (I.ext hk) (fun q => c'U (List.mem_append_left _ q)) c'Z
end
end Mine
end

section
open PySem PySem.W PyProof.Rows
set_option Elab.async false
set_option maxRecDepth 100000
set_option linter.unusedVariables false
namespace Mine
theorem V.offCell {H cs : List Addr} {h : Heap} (hc : ∀ c ∈ cs, ∃ u, h.IsCell c u) : ∀ {v : Value} {p : PV}, V H h v p → V (cs ++ H) h v p := by
  have ne : ∀ {a : Addr} {o : Obj}, h.get? a = some o → (∀ u, o.data ≠ .cell u) → a ∉ cs := fun e hd q => by
    obtain ⟨u, o', e', d'⟩ := hc _ q
    rw [e] at e'; cases e'
    exact hd u d'
  intro v p x
  refine V.rec (motive_1 := fun v p _ => V (cs ++ H) h v p) (motive_2 := fun vs ps _ => VL (cs ++ H) h vs ps) .none .bool .int .str ?_ ?_ ?_ .raw ?_ .nil (fun _ _ a b => .cons a b) x
  · intro a vs l ha hl _ ih
    obtain ⟨o, ho⟩ := hl
    exact .list (fun q => (List.mem_append.mp q).elim (ne ho fun u e => by cases e) ha) ⟨o, ho⟩ ih
  · intro a vs l ha hl _ ih
    obtain ⟨o, ho, r⟩ := hl
    exact .tup (fun q => (List.mem_append.mp q).elim (ne ho fun u e => by simp_all) ha) ⟨o, ho, r⟩ ih
  · intro r a b t u v ha hr
    exact .rng (fun q => (List.mem_append.mp q).elim (ne hr fun u e => by cases e) ha) hr
  · intro b a ha hb
    exact .bnd (fun q => (List.mem_append.mp q).elim (ne hb fun u e => by cases e) ha) hb
theorem VL.offCell {H cs : List Addr} {h : Heap} (hc : ∀ c ∈ cs, ∃ u, h.IsCell c u) : ∀ {vs : List Value} {ps : List PV}, VL H h vs ps → VL (cs ++ H) h vs ps
  | _, _, .nil => .nil
  | _, _, .cons a b => .cons (a.offCell hc) (b.offCell hc)

theorem lookup_mem {α : Type} : ∀ {l : List (Str × α)} {x : Str} {v : α}, (l.map Prod.fst).Nodup → (x, v) ∈ l → l.lookup x = some v
  | (y, u) :: r, x, v, nd, hm => by
    rw [List.map_cons, List.nodup_cons] at nd
    rcases List.mem_cons.mp hm with e | hm'
    · cases e; simp
    · have : (x == y) = false := by
        rw [beq_eq_false_iff_ne]
        rintro rfl
        exact nd.1 (List.mem_map.mpr ⟨_, hm', rfl⟩)
      rw [List.lookup_cons, this]
      exact lookup_mem nd.2 hm'
section
variable {prog : Program} {w : World} {T : Tabs} {h₀ : Heap} {n : Nat}
def stoF (names : List Str) (vs : List PV) (rest : List Str) (fr : List (Str × PV)) : Sto := (names.zip vs).map (fun q => (q.1, some q.2)) ++ (rest.map (fun x => (x, none)) ++ fr.map fun q => (q.1, some q.2))
theorem enterF {H : List Addr} {s : Shared} {h₁ : Heap} {a : Addr} {fd : FuncData} {names rest : List Str} {us : List Value} {vs : List PV} {fr : List (Str × PV)} {own : Own} (G : Gl T h₀) (ext : Ext h₀ s.heap) (lv : Live (own.map Prod.fst ++ H) s.heap)
    (hglob : fd.globals = mainGlobals) (hblt : fd.builtins = builtinsNs) (hk : fd.scope.kind = .function) (hv : VL (own.map Prod.fst ++ H) s.heap us vs) (hn : names.length = vs.length)
    (hnames : ∀ x ∈ names ++ rest, fd.scope.names.lookup x = some .local) (hcell : ∀ x ∈ fd.scope.names, x.2 ≠ .cell)
    (hfr : ∀ x p, (x, p) ∈ fr → fd.scope.names.lookup x = some .free ∧ (x == ("__classdict__" : Str)) = false ∧ ∃ c v, fd.closure.lookup x = some c ∧ s.heap.IsCell c (some v) ∧ V (own.map Prod.fst ++ H) s.heap v p)
    (nd : (names ++ (rest ++ fr.map Prod.fst)).Nodup) (hap : ∀ x y c, fd.closure.lookup x = some c → fd.closure.lookup y = some c → x = y) (hin : ∀ x c, fd.closure.lookup x = some c → c ∈ H)
    (hO : ∀ q ∈ own, h₀.get? q.1 = none ∧ q.1 ∉ H ∧ ∃ ws : List Value, s.heap.PlainList q.1 ws.toArray ∧ VL (own.map Prod.fst ++ H) s.heap ws q.2) (hN : (own.map Prod.fst).Nodup)
    (hns : h₁.Ns s.heap.objs.size (fun x => (names.zip us).reverse.lookup x)) (keep : ∀ b o, s.heap.get? b = some o → h₁.get? b = some o) :
    Ctx T h₀ H (s.heap.objs.size :: own.map Prod.fst) (callEnv fd s.heap.objs.size a) (stoF names vs rest fr) own h₁ := by
  have keep' : Ext s.heap h₁ := fun b o e => keep b o e
  have hL : s.heap.get? s.heap.objs.size = none := get_none (Nat.le_refl _)
  have up : ∀ {v : Value} {p : PV}, V (own.map Prod.fst ++ H) s.heap v p → V ((s.heap.objs.size :: own.map Prod.fst) ++ H) h₁ v p := fun z => (z.fresh (Nat.le_refl _)).ext keep'
  have up' : ∀ {v : List Value} {p : List PV}, VL (own.map Prod.fst ++ H) s.heap v p → VL ((s.heap.objs.size :: own.map Prod.fst) ++ H) h₁ v p := fun z => (z.fresh (Nat.le_refl _)).ext keep'
  have L0 : s.heap.objs.size ∉ own.map Prod.fst ++ H := lv.off
  refine ⟨⟨hk, hglob, hblt, G, ext.trans keep', _, hns, fun x o hx => ?_⟩, fun b hb => ?_, ⟨List.mem_cons_self, fun x c e1 e2 => ?_, hap, fun b hb => ?_, ?_⟩, fun q hq => ?_, hN, fun b hb => ?_, fun x c e => List.mem_append_right _ (hin x c e), fun q hq x c e z => (hO q hq).2.1 (z ▸ hin x c e)⟩
  · rcases List.mem_append.mp (show (x, o) ∈ stoF names vs rest fr from hx) with q | q
    · obtain ⟨y, hy, e⟩ := List.mem_map.mp q
      cases e
      refine .inl ⟨hnames _ (List.mem_append_left _ (List.of_mem_zip hy).1), fun p e => ?_⟩
      cases e
      obtain ⟨v, h1, h2⟩ := hv.zip (show (y.1, y.2) ∈ names.zip vs from hy)
      refine ⟨v, ?_, up h2⟩
      have ndz : ((names.zip us).map Prod.fst).Nodup := nodup_zip (List.nodup_append.mp nd).1
      exact lookup_mem (by rw [List.map_reverse]; exact List.pairwise_reverse.mpr (ndz.imp fun h => Ne.symm h)) (List.mem_reverse.mpr h1)
    · rcases List.mem_append.mp q with q | q
      · obtain ⟨y, hy, e⟩ := List.mem_map.mp q
        cases e
        exact .inl ⟨hnames _ (List.mem_append_right _ hy), fun p e => by cases e⟩
      · obtain ⟨y, hy, e⟩ := List.mem_map.mp q
        cases e
        obtain ⟨k1, k2, c, v, k3, k4, k5⟩ := hfr y.1 y.2 hy
        exact .inr ⟨c, some v, .inr ⟨k1, k2⟩, k3, k4.keeps keep, fun p e => by cases e; exact ⟨v, rfl, up k5⟩⟩
  · rcases List.mem_cons.mp hb with rfl | hb
    · obtain ⟨o, _, _, q, _⟩ := hns; exact ⟨o, q⟩
    · obtain ⟨o, e⟩ := lv b hb; exact ⟨o, keep b o e⟩
  · exact absurd rfl (hcell _ (mem_of_lookup e1))
  · rcases List.mem_cons.mp hb with rfl | hb
    · cases e : h₀.get? s.heap.objs.size with
      | none => rfl
      | some o => have := ext _ o e; rw [hL] at this; cases this
    · obtain ⟨q, hq, rfl⟩ := List.mem_map.mp hb
      exact (hO q hq).1
  · have e : (stoF names vs rest fr).map Prod.fst = names ++ (rest ++ fr.map Prod.fst) := by
      unfold stoF
      rw [List.map_append, List.map_map, List.map_append, List.map_map, List.map_map]
      congr 1
      · rw [show (Prod.fst ∘ fun q : Str × PV => (q.1, some q.2)) = Prod.fst from rfl, List.map_fst_zip (by omega)]
      · rw [show (Prod.fst ∘ fun x : Str => (x, (none : Option PV))) = id from rfl, List.map_id]; rfl
    rw [e]; exact nd
  · obtain ⟨_, _, ws, k1, k2⟩ := hO q hq
    exact ⟨List.mem_cons_of_mem _ (List.mem_map_of_mem hq), ws, k1.at fun o e => keep _ _ e, up' k2⟩
  · rcases List.mem_cons.mp hb with rfl | hb
    · exact fun z => L0 (List.mem_append_right _ z)
    · obtain ⟨q, hq, rfl⟩ := List.mem_map.mp hb
      exact (hO q hq).2.1
end
end Mine
end

section
open PySem PySem.W PyProof.Rows
set_option Elab.async false
set_option maxRecDepth 100000
set_option linter.unusedVariables false
namespace Mine
def FreeAt (cl : List (Str × Addr)) (fr : List (Str × PV)) (H : List Addr) (h : Heap) : Prop := ∀ x p, (x, p) ∈ fr → ∃ c v, cl.lookup x = some c ∧ h.IsCell c (some v) ∧ V H h v p
def PurC (prog : Program) (w : World) (h₀ : Heap) (n : Nat) (cl : List (Str × Addr)) (fr : List (Str × PV)) (vs : List PV) (t : List Value → Sem Value) (r : PV) : Prop :=
  ∀ (A : Around) (H : List Addr) (s : Shared) (us : List Value) (Q : Value → Shared → Prop) (E : Value → Shared → Prop), Room n A → Ext h₀ s.heap → VL H s.heap us vs → Live H s.heap → FreeAt cl fr H s.heap →
    (∀ v h' tk, Ext s.heap h' → V H h' v r → Q v { s with heap := h', toks := tk }) → wpAny (model prog w) A (t us) Q E s
section
variable {prog : Program} {w : World} {T : Tabs} {h₀ : Heap} {n : Nat} {env : Env} {σ : Sto} {own : Own}
theorem PurC_call {a : Addr} {o : Obj} {fd : FuncData} {body : List Stmt} {names rest : List Str} {vs : List PV} {fr : List (Str × PV)} {p : PV} (G : Gl T h₀) (ho : h₀.get? a = some o) (hd : o.data = .func fd) (hcd : h₀.CodeRec fd.code fd.qualname)
    (hbody : fd.body = .stmts body) (hglob : fd.globals = mainGlobals) (hblt : fd.builtins = builtinsNs)
    (hbind : ∀ us : List Value, us.length = vs.length → bindArgs fd ⟨us, []⟩ = pure (names.zip us)) (hn : names.length = vs.length)
    (hnames : ∀ x ∈ names ++ rest, fd.scope.names.lookup x = some .local) (hcell : ∀ x ∈ fd.scope.names, x.2 ≠ .cell)
    (hfree : ∀ x ∈ fr.map Prod.fst, fd.scope.names.lookup x = some .free ∧ (x == ("__classdict__" : Str)) = false) (hcov : ∀ x c, fd.closure.lookup x = some c → x ∈ fr.map Prod.fst)
    (nd : (names ++ (rest ++ fr.map Prod.fst)).Nodup) (hap : ∀ x y c, fd.closure.lookup x = some c → fd.closure.lookup y = some c → x = y)
    (h : ∀ L, Exs prog w T h₀ n (callEnv fd L a) (stoF names vs rest fr) [] body (.ret p))
    (hco : fd.scope.isCoroutine = false := by rfl) (hgen : fd.scope.isGenerator = false := by rfl) (hk : fd.scope.kind = .function := by rfl) :
    PurC prog w h₀ (n + 1) fd.closure fr vs (fun us => call (.ref a) us) p := fun A H s us Q E rm ext hv lv F hQ => by
  have cells : ∀ c ∈ fr.filterMap (fun q => fd.closure.lookup q.1), ∃ u, s.heap.IsCell c u := fun c q => by
    obtain ⟨⟨x, p⟩, hx, e⟩ := List.mem_filterMap.mp q
    obtain ⟨c', v, e1, e2, _⟩ := F x p hx
    have e' : fd.closure.lookup x = some c := e
    rw [e1] at e'; cases e'
    exact ⟨_, e2⟩
  have lv' : Live (fr.filterMap (fun q => fd.closure.lookup q.1) ++ H) s.heap := fun b q => (List.mem_append.mp q).elim (fun q => let ⟨u, o, e, _⟩ := cells b q; ⟨o, e⟩) (lv b)
  refine wpAny_call (codeAny_call_def (fd := fd) (body := body) (binds := names.zip us) (by have := rm.depth; omega) (ext _ _ ho) hd (G.ext ext).nolimit (hcd.keeps ext) hbody ?_ hcell (fun x hx => ?_) (fun h₁ hns keep => ?_) hco hgen hk)
  · intro M A Q E hq
    rw [hbind us hv.length]
    exact wpAny_pure hq
  · exact hnames _ (List.mem_append_left _ (List.of_mem_zip hx).1)
  · have C : Ctx T h₀ (fr.filterMap (fun q => fd.closure.lookup q.1) ++ H) [s.heap.objs.size] (callEnv fd s.heap.objs.size a) (stoF names vs rest fr) [] h₁ :=
      enterF (own := []) (s := s) G ext lv' hglob hblt hk (hv.offCell cells) hn hnames hcell (fun x p hx => ⟨(hfree x (List.mem_map.mpr ⟨_, hx, rfl⟩)).1, (hfree x (List.mem_map.mpr ⟨_, hx, rfl⟩)).2, let ⟨c, v, e1, e2, e3⟩ := F x p hx; ⟨c, v, e1, e2, e3.offCell cells⟩⟩) nd hap
        (fun x c e => List.mem_append_left _ (by
          obtain ⟨q, hq, e'⟩ := List.mem_map.mp (hcov x c e)
          exact List.mem_filterMap.mpr ⟨q, hq, by rw [e']; exact e⟩)) (fun q hq => nomatch hq) .nil hns keep
    refine h s.heap.objs.size (A.deeper _) _ _ _ _ _ rm.deeper C fun fl h' tk k af => ?_
    obtain ⟨v, rfl, hV⟩ := af
    exact hQ v h' tk (fun b o e => k b o (fun q => by rw [List.mem_singleton.mp q] at e; exact Nat.lt_irrefl _ (Heap.lt_size e)) (keep b o e)) (hV.weak fun b q => List.mem_append_right _ q)

theorem CtxE.free {H : List Addr} {h : Heap} {cl : List (Str × Addr)} {fr : List (Str × PV)} (C : CtxE T h₀ H env σ h) (hfr : ∀ x p, (x, p) ∈ fr → List.Mem (x, some p) σ ∧ env.kindOf x ≠ some .local ∧ env.cells.lookup x = cl.lookup x) : FreeAt cl fr H h := fun x p hx => by
  obtain ⟨h1, h2, h3⟩ := hfr x p hx
  obtain ⟨m, _, hv⟩ := C.vars
  rcases hv x _ h1 with ⟨a, _⟩ | ⟨c, u, a, b, d, e⟩
  · exact absurd a h2
  · obtain ⟨v, rfl, hV⟩ := e p rfl
    exact ⟨c, v, h3 ▸ b, d, hV⟩
theorem Ev_callC {x : Str} {np pos : Pos} {args : List PySem.Expr} {f : Value} {ps : List PV} {y : PV} {cl : List (Str × Addr)} {fr : List (Str × PV)} (hn : Ev prog w T h₀ n env σ (.Name x np) (.raw f)) (hf : Callable h₀ f) (ha : EvL prog w T h₀ n env σ args ps)
    (hp : PurC prog w h₀ n cl fr ps (fun us => call f us) y) (hfr : ∀ x p, (x, p) ∈ fr → List.Mem (x, some p) σ ∧ env.kindOf x ≠ some .local ∧ env.cells.lookup x = cl.lookup x)
    (hs : (starEach args env).any (·.1) = false) : Ev prog w T h₀ n env σ (.Call (.Name x np) args [] pos) y := fun A H s Q E rm C b hQ => by
  show wpAny _ A (do callWith pos (← eval (.Name x np) env) [] (backTo pos (starEach args env)) (backToKw pos (keywordEach [] env))) Q E s
  refine wpAny_bind (hn A H s _ _ rm C b fun v h1 t1 k1 v1 => ?_)
  obtain rfl := v1.raw_inv
  refine callWith_any (backTo_plain hs) ?_ (ha A H _ pos _ _ rm (C.ext' k1) (b.ext k1) fun vs h2 t2 k2 v2 => ⟨k2, ?_⟩)
  · rcases hf with q | q | ⟨a, o, fd, rfl, ho, hd⟩
    · exact .inl q
    · exact .inr (.inl q)
    · exact .inr (.inr ⟨a, o, fd, rfl, C.ext.trans k1 _ _ ho, hd⟩)
  · exact hp A H _ _ _ _ rm (C.ext.trans (k1.trans k2)) v2 (b.ext (k1.trans k2)) ((C.ext' (k1.trans k2)).free hfr) fun z h3 t3 k3 v3 => hQ z h3 t3 (k1.trans (k2.trans k3)) v3
end
end Mine
end

section
open PySem PySem.W PyProof.Rows
set_option Elab.async false
set_option maxRecDepth 100000
set_option linter.unusedVariables false
namespace Mine
theorem nat_log2_lt (a k : Nat) (h : a.log2 + 1 ≤ k) : a < 2 ^ k := by
  rcases Nat.eq_zero_or_pos a with h0 | h0
  · subst h0; exact Nat.pos_of_ne_zero (by simp)
  · exact (Nat.log2_lt (by omega)).mp (by omega)
section
variable {prog : Program} {w : World} {T : Tabs} {h₀ : Heap} {n : Nat} {env : Env} {σ : Sto} {own : Own}
theorem Bin_shl {a b : Int} (h0 : 0 ≤ b) (h1 : b ≤ 1000000) (h2 : a.natAbs < 2 ^ 64) : Pur prog w h₀ n [.int a, .int b] (fun us => binaryOp .LShift (us.getD 0 .none) (us.getD 1 .none)) (.int (a * 2 ^ b.toNat)) := fun _ _ s us Q E rm _ hv _ hQ => by
  obtain ⟨_, _, rfl, v1, v2⟩ := hv.two
  obtain ⟨t, rfl⟩ := v1.int_inv
  obtain ⟨u, rfl⟩ := v2.int_inv
  exact lshift_int_small h0 h1 h2 (hQ _ _ _ (Ext.refl _) (.int _ _))
theorem Bin_pow {a b : Int} (h0 : 0 ≤ b) (h1 : b ≤ 1000000) (h2 : a.natAbs < 2 ^ 64) : Pur prog w h₀ n [.int a, .int b] (fun us => binaryOp .Pow (us.getD 0 .none) (us.getD 1 .none)) (.int (a ^ b.toNat)) := fun _ _ s us Q E rm _ hv _ hQ => by
  obtain ⟨_, _, rfl, v1, v2⟩ := hv.two
  obtain ⟨t, rfl⟩ := v1.int_inv
  obtain ⟨u, rfl⟩ := v2.int_inv
  exact pow_int_small h0 h1 h2 (hQ _ _ _ (Ext.refl _) (.int _ _))
theorem Bin_xor {a b : Int} : Pur prog w h₀ n [.int a, .int b] (fun us => binaryOp .BitXor (us.getD 0 .none) (us.getD 1 .none)) (.int (Builtin.bitXor a b)) := fun _ _ s us Q E rm _ hv _ hQ => by
  obtain ⟨_, _, rfl, v1, v2⟩ := hv.two
  obtain ⟨t, rfl⟩ := v1.int_inv
  obtain ⟨u, rfl⟩ := v2.int_inv
  exact xor_int (hQ _ _ _ (Ext.refl _) (.int _ _))
theorem Bin_shr {a b : Nat} : Pur prog w h₀ n [.int a, .int b] (fun us => binaryOp .RShift (us.getD 0 .none) (us.getD 1 .none)) (.int ((a / 2 ^ b : Nat) : Int)) := fun _ _ s us Q E rm _ hv _ hQ => by
  obtain ⟨_, _, rfl, v1, v2⟩ := hv.two
  obtain ⟨t, rfl⟩ := v1.int_inv
  obtain ⟨u, rfl⟩ := v2.int_inv
  by_cases hb : (b : Int) ≥ ((Builtin.Int.intBits (a : Int) : Nat) : Int)
  · refine AutoIntOps.rshift_1 (by omega) hb ?_
    have e : (if (a : Int) < 0 then (-1 : Int) else 0) = ((a / 2 ^ b : Nat) : Int) := by
      rw [if_neg (by omega)]
      have : a < 2 ^ b := by
        have hb' : Builtin.Int.intBits (a : Int) ≤ b := by omega
        unfold Builtin.Int.intBits at hb'
        by_cases h0 : ((a : Int) == 0) = true
        · have : a = 0 := by have := eq_of_beq h0; omega
          subst this; exact Nat.pos_of_ne_zero (by simp)
        · rw [if_neg h0] at hb'
          exact nat_log2_lt a b (by simpa using hb')
      rw [Nat.div_eq_of_lt this]; rfl
    rw [e]
    exact hQ _ _ _ (Ext.refl _) (.int _ _)
  · refine AutoIntOps.rshift_2 (by omega) hb ?_
    have e : (a : Int).fdiv (2 ^ (b : Int).toNat) = ((a / 2 ^ b : Nat) : Int) := by
      rw [Int.toNat_natCast, Int.fdiv_eq_ediv_of_nonneg _ (by exact_mod_cast Nat.zero_le (2 ^ b))]
      simp
    rw [e]
    exact hQ _ _ _ (Ext.refl _) (.int _ _)
theorem xshl {l r : PySem.Expr} {pos : Pos} {a b : Int} (hl : Ev prog w T h₀ n env σ l (.int a)) (hr : Ev prog w T h₀ n env σ r (.int b)) (h0 : 0 ≤ b) (h1 : b ≤ 1000000) (h2 : a.natAbs < 2 ^ 64) : Ev prog w T h₀ n env σ (.BinOp l .LShift r pos) (.int (a * 2 ^ b.toNat)) := Ev_bin hl hr (Bin_shl h0 h1 h2)
theorem xpow {l r : PySem.Expr} {pos : Pos} {a b : Int} (hl : Ev prog w T h₀ n env σ l (.int a)) (hr : Ev prog w T h₀ n env σ r (.int b)) (h0 : 0 ≤ b) (h1 : b ≤ 1000000) (h2 : a.natAbs < 2 ^ 64) : Ev prog w T h₀ n env σ (.BinOp l .Pow r pos) (.int (a ^ b.toNat)) := Ev_bin hl hr (Bin_pow h0 h1 h2)
theorem xxor {l r : PySem.Expr} {pos : Pos} {a b : Int} (hl : Ev prog w T h₀ n env σ l (.int a)) (hr : Ev prog w T h₀ n env σ r (.int b)) : Ev prog w T h₀ n env σ (.BinOp l .BitXor r pos) (.int (Builtin.bitXor a b)) := Ev_bin hl hr Bin_xor
theorem xshr {l r : PySem.Expr} {pos : Pos} {a b : Nat} (hl : Ev prog w T h₀ n env σ l (.int a)) (hr : Ev prog w T h₀ n env σ r (.int b)) : Ev prog w T h₀ n env σ (.BinOp l .RShift r pos) (.int ((a / 2 ^ b : Nat) : Int)) := Ev_bin hl hr Bin_shr
end
end Mine
end

section
open PySem PySem.W PyProof.Rows
set_option Elab.async false
set_option maxRecDepth 100000
set_option linter.unusedVariables false
namespace Mine
def innerOf : List Stmt → Option (Arguments × List Stmt × Scope × Pos)
  | .FunctionDef _ p b _ _ _ sc _ _ pos :: _ => some (p, b, sc, pos)
  | _ :: r => innerOf r
  | [] => none
def innerP (name : Str) : Arguments := match innerOf (dOf name).body with | some (p, _) => p | none => (dOf name).params
def innerB (name : Str) : List Stmt := match innerOf (dOf name).body with | some (_, b, _) => b | none => []
def innerS (name : Str) : Scope := match innerOf (dOf name).body with | some (_, _, sc, _) => sc | none => (dOf name).scope
def innerPos (name : Str) : Pos := match innerOf (dOf name).body with | some (_, _, _, pos) => pos | none => default
def dv (n : Nat) : List Nat → Nat
  | [] => 0
  | d :: r => d + 2 ^ n * dv n r
theorem dv_app (n : Nat) : ∀ a b : List Nat, dv n (a ++ b) = dv n a + 2 ^ (a.length * n) * dv n b
  | [], b => by simp [dv]
  | d :: r, b => by
    rw [List.cons_append, dv, dv, dv_app n r b, List.length_cons, Nat.mul_add, ← Nat.mul_assoc, ← Nat.pow_add, Nat.add_assoc]
    congr 4
    rw [Nat.add_mul, Nat.one_mul, Nat.add_comm]
def seg (ds : List Nat) (L R : Nat) : List Nat := (ds.drop L).take (R - L)
theorem seg_cut (ds : List Nat) {L M R : Nat} (h1 : L ≤ M) (h2 : M ≤ R) : seg ds L R = seg ds L M ++ seg ds M R := by
  unfold seg
  rw [show R - L = (M - L) + (R - M) by omega, List.take_add, List.drop_drop, show L + (M - L) = M by omega]
theorem seg_len {ds : List Nat} {L R : Nat} (h : R ≤ ds.length) : (seg ds L R).length = R - L := by
  unfold seg; rw [List.length_take, List.length_drop]; omega
theorem seg_one {ds : List Nat} {L : Nat} (h : L < ds.length) : seg ds L (L + 1) = [ds[L]] := by
  unfold seg
  rw [show L + 1 - L = 1 by omega, List.drop_eq_getElem_cons h]; rfl
def frD (ds : List Nat) (n : Nat) (f : Addr) : List (Str × PV) := [("digits", .list (ds.map fun (x : Nat) => PV.int (x : Int))), ("inner", .raw (.ref f)), ("n", .int n)]
theorem bits64 {a : Int} (h : a.natAbs < 2 ^ 64) : Builtin.Int.intBits a ≤ 64 := by
  unfold Builtin.Int.intBits
  split
  · omega
  · rename_i h0
    have : a.natAbs ≠ 0 := fun e => h0 (by rw [beq_iff_eq]; omega)
    have := (Nat.log2_lt this).mpr h
    omega
theorem frD_mem {ds : List Nat} {n0 : Nat} {f : Addr} {env : Env} {cl : List (Str × Addr)} {oM oS oL oR : Option PV} (hc : env.cells = cl) (k1 : env.kindOf "digits" = some .free) (k2 : env.kindOf "inner" = some .free) (k3 : env.kindOf "n" = some .free) :
    ∀ x p, (x, p) ∈ frD ds n0 f → List.Mem (x, some p) [(("L" : Str), oL), ("R", oR), ("mid", oM), ("shift", oS), ("digits", some (.list (ds.map fun (x : Nat) => PV.int (x : Int)))), ("inner", some (.raw (.ref f))), ("n", some (.int (n0 : Nat)))] ∧ env.kindOf x ≠ some .local ∧ env.cells.lookup x = cl.lookup x := by
  intro x p hx
  unfold frD at hx
  rcases List.mem_cons.mp hx with e | hx
  · cases e; exact ⟨.tail _ (.tail _ (.tail _ (.tail _ (.head _)))), by rw [k1]; decide, by rw [hc]⟩
  rcases List.mem_cons.mp hx with e | hx
  · cases e; exact ⟨.tail _ (.tail _ (.tail _ (.tail _ (.tail _ (.head _))))), by rw [k2]; decide, by rw [hc]⟩
  rcases List.mem_cons.mp hx with e | hx
  · cases e; exact ⟨.tail _ (.tail _ (.tail _ (.tail _ (.tail _ (.tail _ (.head _)))))), by rw [k3]; decide, by rw [hc]⟩
  cases hx
section
variable {prog : Program} {w : World} {T : Tabs} {h₁ : Heap}
set_option maxHeartbeats 8000000 in
theorem d2i_inner {f c' : Addr} {doc pm ctv : Value} {q : Str} {cl : List (Str × Addr)} {ds : List Nat} {n0 : Nat} (G : Gl T h₁) (ho : h₁.get? f = some (fnMade "inner" q (innerP "_digits2int") (innerB "_digits2int") (innerS "_digits2int") cl doc pm c' ctv)) (hcd : h₁.CodeRec (.ref c') q)
    (hcov : ∀ x c, cl.lookup x = some c → x ∈ (frD ds n0 f).map Prod.fst) (hap : ∀ x y c, cl.lookup x = some c → cl.lookup y = some c → x = y) (hn0 : n0 ≤ 100) (hds : ds.length ≤ 100) :
    ∀ k L R, L < R → R - L ≤ 2 ^ k → R ≤ ds.length → dv n0 (seg ds L R) < 2 ^ 64 → PurC prog w h₁ (k + 1) cl (frD ds n0 f) [.int (L : Nat), .int (R : Nat)] (fun us => call (.ref f) us) (.int (dv n0 (seg ds L R) : Nat))
  | k, L, R, hLR, hk, hR, hv => by
    refine PurC_call (T := T) (fd := fnX "inner" q (innerP "_digits2int") (innerB "_digits2int") (innerS "_digits2int") cl .none .none doc pm none (.ref c') ctv) (names := ["L", "R"]) (rest := ["mid", "shift"]) G ho rfl hcd rfl rfl rfl
      (fun us hu => ?_) rfl (fun x hx => ?_) ?_ (fun x hx => ?_) hcov (show ((["L", "R"] : List Str) ++ ((["mid", "shift"] : List Str) ++ (["digits", "inner", "n"] : List Str))).Nodup by decide +kernel) hap (fun L' => ?_) (by kernel_rfl) (by kernel_rfl) (by kernel_rfl)
    · match us, hu with
      | [u1, u2], _ => kernel_rfl
    · have h : (((["L", "R"] : List Str) ++ (["mid", "shift"] : List Str)).all fun x => (innerS "_digits2int").names.lookup x == some .local) = true := by kernel_rfl
      exact eq_of_beq (List.all_eq_true.mp h x hx)
    · have h : ((innerS "_digits2int").names.all fun x => x.2 != .cell) = true := by kernel_rfl
      exact fun x hx => by simpa using List.all_eq_true.mp h x hx
    · have h : ((["digits", "inner", "n"] : List Str).all fun x => (innerS "_digits2int").names.lookup x == some .free && !(x == ("__classdict__" : Str))) = true := by kernel_rfl
      have h' := Bool.and_eq_true_iff.mp (List.all_eq_true.mp h x hx)
      exact ⟨eq_of_beq h'.1, by simpa using h'.2⟩
    · show Exs prog w T h₁ k _ [("L", some (.int (L : Nat))), ("R", some (.int (R : Nat))), ("mid", none), ("shift", none), ("digits", some (.list (ds.map fun (x : Nat) => PV.int (x : Int)))), ("inner", some (.raw (.ref f))), ("n", some (.int (n0 : Nat)))] [] (innerB "_digits2int") _
      by_cases h1 : L + 1 = R
      · subst h1
        have c : ((L : Int) + 1 == ((L + 1 : Nat) : Int)) = true := by rw [beq_iff_eq]; omega
        have e : dv n0 (seg ds L (L + 1)) = ds[L] := by rw [seg_one (by omega)]; simp [dv]
        refine Exs_stop (Ex1_if_t (xcmp (xadd xvar Ev_int) xvar (c ▸ Cmp_eq)) (Exs_stop (Ex1_ret (xsubl xvar xvar (by omega) (by omega) ?_))))
        rw [e, Int.toNat_natCast, List.getElem?_map, List.getElem?_eq_getElem (by omega)]; rfl
      · have c : ((L : Int) + 1 == (R : Int)) = false := by rw [beq_eq_false_iff_ne]; omega
        obtain ⟨k, rfl⟩ : ∃ j, k = j + 1 := ⟨k - 1, by
          cases k with
          | zero => simp at hk; omega
          | succ k => omega⟩
        have hM : L < (L + R) / 2 ∧ (L + R) / 2 < R := by omega
        have hp : 2 ^ (k + 1) = 2 * 2 ^ k := by rw [Nat.pow_succ, Nat.mul_comm]
        generalize hm : (L + R) / 2 = M at hM
        have cut : dv n0 (seg ds L R) = dv n0 (seg ds L M) + 2 ^ ((M - L) * n0) * dv n0 (seg ds M R) := by
          rw [seg_cut ds (show L ≤ M by omega) (show M ≤ R by omega), dv_app, seg_len (by omega)]
        have p1 : 1 ≤ 2 ^ ((M - L) * n0) := Nat.pos_of_ne_zero (by simp)
        have lo : dv n0 (seg ds L M) < 2 ^ 64 := by omega
        have hi : dv n0 (seg ds M R) < 2 ^ 64 := by
          have := Nat.mul_le_mul_right (dv n0 (seg ds M R)) p1
          omega
        have ih1 := d2i_inner G ho hcd hcov hap hn0 hds k L M (by omega) (by omega) (by omega) lo
        have ih2 := d2i_inner G ho hcd hcov hap hn0 hds k M R (by omega) (by omega) (by omega) hi
        have call : Callable h₁ (.ref f) := .inr (.inr ⟨f, _, _, rfl, ho, rfl⟩)
        refine Exs_cons (Ex1_if_f (xcmp (xadd xvar Ev_int) xvar (c ▸ Cmp_eq)) Exs_nil) ?_
        refine Exs_cons (xassign (p := .int (M : Nat)) (Ev_to (xshr (a := L + R) (b := 1) (Ev_to (xadd xvar xvar) (by rw [Int.natCast_add])) (Ev_to Ev_int rfl)) (by rw [Nat.pow_one, hm]))) ?_
        refine Exs_cons (xassign (p := .int (((M - L) * n0 : Nat) : Int)) (Ev_to (Ev_bin (xsubi xvar xvar) xvar (Bin_mul ?_)) ?_)) ?_
        · exact IntMulOk.of_left (bits64 (by have : (M : Int) - L = ((M - L : Nat) : Int) := by omega
                                             rw [this, Int.natAbs_natCast]; omega))
        · rw [Int.natCast_mul, Int.natCast_sub (by omega)]
        · have hs : (M - L) * n0 ≤ 100 * 100 := Nat.mul_le_mul (by omega) hn0
          refine Exs_stop (Ex1_ret (Ev_to (xadd (xshl (Ev_callC xvar call (xcons xvar (xcons xvar xnil)) ih2 ?_ (by kernel_rfl)) xvar (by omega) (by omega) (by rw [Int.natAbs_natCast]; exact hi)) (Ev_callC xvar call (xcons xvar (xcons xvar xnil)) ih1 ?_ (by kernel_rfl))) ?_))
          · exact frD_mem rfl (by kernel_rfl) (by kernel_rfl) (by kernel_rfl)
          · exact frD_mem rfl (by kernel_rfl) (by kernel_rfl) (by kernel_rfl)
          · rw [cut, Int.toNat_natCast]
            congr 1
            push_cast
            rw [Int.mul_comm, Int.add_comm]
end
end Mine
end

section
open PySem PySem.W PyProof.Rows
set_option Elab.async false
set_option maxRecDepth 100000
set_option linter.unusedVariables false
namespace Mine
def FnC (h₀ : Heap) (name : Str) (a c : Addr) : Prop := ∃ o pm doc, h₀.get? a = some o ∧ o.data = .func (fdOf name pm (.ref c) doc) ∧ h₀.CodeRec (.ref c) (dOf name).name
theorem cl3 {x1 x2 x3 : Str} {a1 a2 a3 : Addr} {x : Str} {c : Addr} (h : List.lookup x [(x1, a1), (x2, a2), (x3, a3)] = some c) : (x = x1 ∧ c = a1) ∨ (x = x2 ∧ c = a2) ∨ (x = x3 ∧ c = a3) := by
  rcases List.mem_cons.mp (mem_of_lookup h) with e | h
  · cases e; exact .inl ⟨rfl, rfl⟩
  rcases List.mem_cons.mp h with e | h
  · cases e; exact .inr (.inl ⟨rfl, rfl⟩)
  rcases List.mem_cons.mp h with e | h
  · cases e; exact .inr (.inr ⟨rfl, rfl⟩)
  cases h
def zD (c z : Addr) : ZT := ⟨c, z, innerPos "_digits2int", "_digits2int.<locals>.inner"⟩
def zI (c z : Addr) : ZT := ⟨c, z, innerPos "_int2digits", "_int2digits.<locals>.inner"⟩
section
variable {prog : Program} {w : World} {d : Adr} {Z : List ZT} {h₀ : Heap}
set_option maxHeartbeats 8000000 in
theorem d2i_pur {a c z : Addr} {ds : List Nat} {n0 k : Nat} (G : Gl (T0 d) h₀) (B : BiAt h₀) (F : FnC h₀ "_digits2int" a c) (ht : zD c z ∈ Z) (inj : ∀ r ∈ Z, r.z = z → r = zD c z) (hz₀ : ∀ a ∈ zs Z, h₀.get? a = none) (hn0 : n0 ≤ 100) (hds : ds.length ≤ 100) (hk : ds.length ≤ 2 ^ k) (hv : dv n0 ds < 2 ^ 64) :
    PurZ prog w Z h₀ (k + 2) [.list (ds.map fun (x : Nat) => PV.int (x : Int)), .int (n0 : Nat)] (fun us => call (.ref a) us) (.int (dv n0 ds : Nat)) := by
  obtain ⟨o, pm, doc, ho, hd, hcd⟩ := F
  refine PurZ_call (fd := fdOf "_digits2int" pm (.ref c) doc) (names := ["digits", "n"]) (rest := ["inner"]) (vs' := [.list (ds.map fun (x : Nat) => PV.int (x : Int)), .int (n0 : Nat)]) G ho hd hcd rfl rfl rfl rfl (fun H h us _ hv => ?_) rfl (okNames_spec (by kernel_rfl)) (by decide +kernel) (fun L => ?_) (by kernel_rfl) (by kernel_rfl) (by kernel_rfl)
  · obtain ⟨u1, u2, rfl, _⟩ := hv.two
    exact ⟨[u1, u2], by kernel_rfl, hv⟩
  · refine ExsZ_def (t := zD c z) (clos := [("n", L + 2), ("inner", L + 3), ("digits", L + 1)]) (σ' := fun f => [("digits", some (.list (ds.map fun (x : Nat) => PV.int (x : Int)))), ("n", some (.int (n0 : Nat))), ("inner", some (.raw (.ref f)))]) ht inj hz₀ B (fun f => .tail (.tail .head)) (by kernel_rfl) (by kernel_rfl) (by kernel_rfl) rfl ?_
    intro h₁ f c' doc' pm' ctv ex hz₁ hf hcr
    have G₁ := G.ext ex
    have fcall : Callable h₁ (.ref f) := .inr (.inr ⟨f, _, _, rfl, hf, rfl⟩)
    refine Exs.z (Exs_stop (Ex1_ret ?_))
    by_cases h0 : ds = []
    · subst h0
      refine Ev_if (b := false) (EvB_val xvar ?_) (fun e => by cases e) (fun _ => Ev_int)
      exact Truth.list [] (by decide)
    · have hlen : 0 < ds.length := List.length_pos_iff.mpr h0
      have inner := d2i_inner (prog := prog) (w := w) (T := T0 d) (cl := [("n", L + 2), ("inner", L + 3), ("digits", L + 1)]) (ds := ds) (n0 := n0) G₁ hf hcr (fun x c h => ?_) (fun x y c h h' => ?_) hn0 hds k 0 ds.length hlen (by omega) (Nat.le_refl _) (by unfold seg; simpa using hv)
      · refine Ev_if (b := true) (EvB_val xvar ?_) (fun _ => ?_) (fun e => by cases e)
        · have t := Truth.list (ds.map fun (x : Nat) => PV.int (x : Int)) (by rw [List.length_map]; omega)
          rwa [show (!(ds.map fun (x : Nat) => PV.int (x : Int)).isEmpty) = true by cases ds with | nil => exact absurd rfl h0 | cons _ _ => rfl] at t
        · refine Ev_to (Ev_callC xvar fcall (xcons Ev_int (xcons (xcall (xbi (.builtin "len")) cbi (xcons xvar xnil) (Pur_len_list (by rw [List.length_map]; omega))) xnil)) (List.length_map (as := ds) (fun (x : Nat) => PV.int (x : Int)) ▸ inner) ?_ (by kernel_rfl)) ?_
          · intro x p hx
            unfold frD at hx
            rcases List.mem_cons.mp hx with e | hx
            · cases e; exact ⟨.head _, by rw [show Env.kindOf _ _ = some .cell by kernel_rfl]; decide, by kernel_rfl⟩
            rcases List.mem_cons.mp hx with e | hx
            · cases e; exact ⟨.tail _ (.tail _ (.head _)), by rw [show Env.kindOf _ _ = some .cell by kernel_rfl]; decide, by kernel_rfl⟩
            rcases List.mem_cons.mp hx with e | hx
            · cases e; exact ⟨.tail _ (.head _), by rw [show Env.kindOf _ _ = some .cell by kernel_rfl]; decide, by kernel_rfl⟩
            cases hx
          · unfold seg; simp
      · rcases cl3 h with ⟨rfl, _⟩ | ⟨rfl, _⟩ | ⟨rfl, _⟩ <;> (show _ ∈ (["digits", "inner", "n"] : List Str)) <;> decide +kernel
      · rcases cl3 h with ⟨rfl, e⟩ | ⟨rfl, e⟩ | ⟨rfl, e⟩ <;> rcases cl3 h' with ⟨rfl, e'⟩ | ⟨rfl, e'⟩ | ⟨rfl, e'⟩ <;> first | rfl | exact absurd (Nat.add_left_cancel (n := L) (e.symm.trans e')) (by decide)
end
end Mine
end

section
open PySem PySem.W PyProof.Rows
set_option Elab.async false
set_option maxRecDepth 100000
set_option linter.unusedVariables false
namespace Mine
section
variable {prog : Program} {w : World} {T : Tabs} {h₀ : Heap} {n : Nat} {env : Env} {σ : Sto} {own : Own}
theorem setItem_plain {A : Around} {E : Value → Shared → Prop} {s : Shared} {l : Addr} {items : Array Value} {k : Int} {t : Tok} {v : Value} {Q : Unit → Shared → Prop} (hl : s.heap.PlainList l items)
    (h0 : 0 ≤ k) (hfit : k < 2 ^ 63) (hn : k < items.size)
    (hQ : ∀ h', h'.PlainList l (items.setIfInBounds k.toNat v) → Heap.SameBut l s.heap h' → Q () { s with heap := h' }) :
    wpAny (model prog w) A (setItem (.ref l) (.int k t) v) Q E s := by
  obtain ⟨ne, ho⟩ := id hl
  exact PySem.W.ki_setAt ho h0 hfit hn (hQ _ ⟨_, PySem.IsL.update ho (·.setIfInBounds k.toNat v)⟩ (Heap.SameBut.update ..))
theorem VL.set {H : List Addr} {h : Heap} : ∀ {vs : List Value} {ps : List PV}, VL H h vs ps → ∀ (k : Nat) {v : Value} {p : PV}, V H h v p → VL H h (vs.set k v) (ps.set k p)
  | _, _, .nil, _, _, _, _ => .nil
  | _, _, .cons a r, 0, _, _, hv => .cons hv r
  | _, _, .cons a r, k + 1, _, _, hv => .cons a (r.set k hv)

theorem Ex1_setitem {o i value : PySem.Expr} {pos pos' : Pos} {a : Addr} {l : List PV} {k : Nat} {p : PV} (hv : Ev prog w T h₀ n env σ value p) (ho : Ev prog w T h₀ n env σ o (.raw (.ref a))) (hi : Ev prog w T h₀ n env σ i (.int (k : Nat))) (hk : k < l.length) (hk2 : k < 1000000)
    (hs : swapsWith value (some (.Subscript o i pos')) pos.line env = pure false := by kernel_rfl) : Ex1 prog w T h₀ n env σ ((a, l) :: own) (.Assign [.Subscript o i pos'] value pos) (.next σ ((a, l.set k p) :: own)) := fun A H W s Q E rm C hQ => by
  refine wpAny_Assign_Subscript (hs := hs) (hv A (W ++ H) s _ E rm C.E C.L fun v h1 t1 k1 v1 => ?_)
  have C1 := C.ext k1
  refine ho A (W ++ H) _ _ E rm C1.E C1.L fun ov h2 t2 k2 v2 => ?_
  have C2 := C1.ext k2
  obtain rfl := v2.raw_inv
  refine hi A (W ++ H) _ _ E rm C2.E C2.L fun iv h3 t3 k3 v3 => ?_
  have C3 := C2.ext k3
  obtain ⟨t, rfl⟩ := v3.int_inv
  obtain ⟨aW, vs, pl, lv⟩ := C3.O (a, l) List.mem_cons_self
  have hl := lv.length
  dsimp only at pl hl lv aW
  refine setItem_plain pl (by omega) (by omega) (by rw [List.size_toArray]; omega) fun h' pl' sb => ?_
  have pl2 : h'.PlainList a (vs.set k v).toArray := by
    have e : vs.toArray.setIfInBounds (k : Int).toNat v = (vs.set k v).toArray := by rw [Int.toNat_natCast]; simp
    rw [← e]; exact pl'
  have C4 := C3.ownAt (vs := vs) pl2 (lv.set k ((v1.ext k2).ext k3)) sb
  exact hQ .next h' t3 (fun b o q e => sb.extBut b o (fun z => q (z ▸ aW)) (k3 b o (k2 b o (k1 b o e)))) ⟨rfl, W, fun _ q => q, fun _ q => .inl q, C4⟩
end
end Mine
end

section
open PySem PySem.W PyProof.Rows
set_option Elab.async false
set_option maxRecDepth 100000
set_option linter.unusedVariables false
namespace Mine
def ExsM (prog : Program) (w : World) (T : Tabs) (h₀ : Heap) (n : Nat) (env : Env) (σ : Sto) (la : Addr) (l : List PV) (sts : List Stmt) (l' : List PV) : Prop :=
  ∀ (A : Around) (H W : List Addr) (s : Shared) (Q : Flow → Shared → Prop) (E : Value → Shared → Prop), Room n A → Ctx T h₀ H W env σ [(la, l)] s.heap →
    (∀ fl h' tk, KeepsOff W s.heap h' → fl = .next ∨ fl = .ret .none → (∃ ws : List Value, h'.PlainList la ws.toArray ∧ VL H h' ws l') → Q fl { s with heap := h', toks := tk }) → wpAny (model prog w) A (execs sts env) Q E s
def PurM (prog : Program) (w : World) (h₀ : Heap) (n : Nat) (cl : List (Str × Addr)) (fr : List (Str × PV)) (la : Addr) (l : List PV) (vs : List PV) (t : List Value → Sem Value) (l' : List PV) : Prop :=
  ∀ (A : Around) (H : List Addr) (s : Shared) (us : List Value) (Q : Value → Shared → Prop) (E : Value → Shared → Prop), Room n A → Ext h₀ s.heap → h₀.get? la = none → la ∉ H → VL (la :: H) s.heap us vs → Live (la :: H) s.heap → FreeAt cl fr (la :: H) s.heap →
    (∃ ws : List Value, s.heap.PlainList la ws.toArray ∧ VL (la :: H) s.heap ws l) →
    (∀ h' tk, KeepsOff [la] s.heap h' → (∃ ws : List Value, h'.PlainList la ws.toArray ∧ VL H h' ws l') → Q .none { s with heap := h', toks := tk }) → wpAny (model prog w) A (t us) Q E s
section
variable {prog : Program} {w : World} {T : Tabs} {h₀ : Heap} {n : Nat} {env : Env} {σ : Sto}
theorem ExsM_next {la : Addr} {l l' : List PV} {sts : List Stmt} {σ' : Sto} (h : Exs prog w T h₀ n env σ [(la, l)] sts (.next σ' [(la, l')])) : ExsM prog w T h₀ n env σ la l sts l' := fun A H W s Q E rm C hQ =>
  h A H W s Q E rm C fun fl h' tk k af => by
    obtain ⟨e, W', w1, w2, C'⟩ := af
    obtain ⟨_, ws, pl, lv⟩ := C'.O (la, l') List.mem_cons_self
    exact hQ fl h' tk k (.inl e) ⟨ws, pl, lv.weak fun a q => List.mem_append_right _ q⟩
theorem ExsM_cons {la : Addr} {l l1 l' : List PV} {st : Stmt} {rest : List Stmt} {σ1 : Sto} (h1 : Ex1 prog w T h₀ n env σ [(la, l)] st (.next σ1 [(la, l1)])) (h2 : ExsM prog w T h₀ n env σ1 la l1 rest l') : ExsM prog w T h₀ n env σ la l (st :: rest) l' := fun A H W s Q E rm C hQ => by
  refine wpAny_execs_cons (h1 A H W s _ E rm C fun fl h' tk k af => ?_)
  obtain ⟨rfl, W', w1, w2, C'⟩ := af
  exact h2 A H W' _ Q E rm C' fun fl h'' tk' k' e r => hQ fl h'' tk' (k.seq w2 k') e r
theorem ExsM_if_ret {la : Addr} {l l1 : List PV} {e : PySem.Expr} {st : Stmt} {orelse rest : List Stmt} {pos rp : Pos} {σ1 : Sto} (he : EvB prog w T h₀ n env σ e true) (h1 : Ex1 prog w T h₀ n env σ [(la, l)] st (.next σ1 [(la, l1)])) :
    ExsM prog w T h₀ n env σ la l (.If e [st, .Return none rp] orelse pos :: rest) l1 := fun A H W s Q E rm C hQ => by
  refine wpAny_execs_cons (wpAny_If (he A (W ++ H) s _ E rm C.E C.L fun h1' t1 k1 => ?_))
  show wpAny _ A (execs [st, .Return none rp] env) _ _ _
  refine wpAny_execs_cons (h1 A H W _ _ E rm (C.ext k1) fun fl h2 t2 k2 af => ?_)
  obtain ⟨rfl, W', w1, w2, C'⟩ := af
  obtain ⟨_, ws, pl, lv⟩ := C'.O (la, l1) List.mem_cons_self
  refine wpAny_execs_cons (wpAny_Return_none ?_)
  exact hQ _ h2 t2 (KeepsOff.trans (.ext k1) k2) (.inr rfl) ⟨ws, pl, lv.weak fun a q => List.mem_append_right _ q⟩
theorem PurM_call {a la : Addr} {l l' : List PV} {o : Obj} {fd : FuncData} {body : List Stmt} {names rest : List Str} {vs : List PV} {fr : List (Str × PV)} (G : Gl T h₀) (ho : h₀.get? a = some o) (hd : o.data = .func fd) (hcd : h₀.CodeRec fd.code fd.qualname)
    (hbody : fd.body = .stmts body) (hglob : fd.globals = mainGlobals) (hblt : fd.builtins = builtinsNs)
    (hbind : ∀ us : List Value, us.length = vs.length → bindArgs fd ⟨us, []⟩ = pure (names.zip us)) (hn : names.length = vs.length)
    (hnames : ∀ x ∈ names ++ rest, fd.scope.names.lookup x = some .local) (hcell : ∀ x ∈ fd.scope.names, x.2 ≠ .cell)
    (hfree : ∀ x ∈ fr.map Prod.fst, fd.scope.names.lookup x = some .free ∧ (x == ("__classdict__" : Str)) = false) (hcov : ∀ x c, fd.closure.lookup x = some c → x ∈ fr.map Prod.fst)
    (nd : (names ++ (rest ++ fr.map Prod.fst)).Nodup) (hap : ∀ x y c, fd.closure.lookup x = some c → fd.closure.lookup y = some c → x = y)
    (h : ∀ L, ExsM prog w T h₀ n (callEnv fd L a) (stoF names vs rest fr) la l body l')
    (hco : fd.scope.isCoroutine = false := by rfl) (hgen : fd.scope.isGenerator = false := by rfl) (hk : fd.scope.kind = .function := by rfl) :
    PurM prog w h₀ (n + 1) fd.closure fr la l vs (fun us => call (.ref a) us) l' := fun A H s us Q E rm ext hla hlaH hv lv F hO hQ => by
  have cells : ∀ c ∈ fr.filterMap (fun q => fd.closure.lookup q.1), ∃ u, s.heap.IsCell c u := fun c q => by
    obtain ⟨⟨x, p⟩, hx, e⟩ := List.mem_filterMap.mp q
    obtain ⟨c', v, e1, e2, _⟩ := F x p hx
    have e' : fd.closure.lookup x = some c := e
    rw [e1] at e'; cases e'
    exact ⟨_, e2⟩
  have hlaC : la ∉ fr.filterMap (fun q => fd.closure.lookup q.1) := fun q => by
    obtain ⟨u, o', e1, e2⟩ := cells la q
    obtain ⟨ws, ⟨k, e3⟩, _⟩ := hO
    rw [e3] at e1; cases e1; cases e2
  have sw : ∀ b ∈ [la] ++ (fr.filterMap (fun q => fd.closure.lookup q.1) ++ H), b ∈ fr.filterMap (fun q => fd.closure.lookup q.1) ++ (la :: H) := fun b q => mid (X := [la]) b q
  have lv' : Live ([la] ++ (fr.filterMap (fun q => fd.closure.lookup q.1) ++ H)) s.heap := fun b q => (List.mem_append.mp (sw b q)).elim (fun q => let ⟨u, o, e, _⟩ := cells b q; ⟨o, e⟩) (lv b)
  refine wpAny_call (codeAny_call_def (fd := fd) (body := body) (binds := names.zip us) (by have := rm.depth; omega) (ext _ _ ho) hd (G.ext ext).nolimit (hcd.keeps ext) hbody ?_ hcell (fun x hx => ?_) (fun h₁ hns keep => ?_) hco hgen hk)
  · intro M A Q E hq
    rw [hbind us hv.length]
    exact wpAny_pure hq
  · exact hnames _ (List.mem_append_left _ (List.of_mem_zip hx).1)
  · have C : Ctx T h₀ (fr.filterMap (fun q => fd.closure.lookup q.1) ++ H) [s.heap.objs.size, la] (callEnv fd s.heap.objs.size a) (stoF names vs rest fr) [(la, l)] h₁ :=
      enterF (own := [(la, l)]) (s := s) G ext lv' hglob hblt hk ((hv.offCell cells).weak sw) hn hnames hcell (fun x p hx => ⟨(hfree x (List.mem_map.mpr ⟨_, hx, rfl⟩)).1, (hfree x (List.mem_map.mpr ⟨_, hx, rfl⟩)).2, let ⟨c, v, e1, e2, e3⟩ := F x p hx; ⟨c, v, e1, e2, (e3.offCell cells).weak sw⟩⟩) nd hap
        (fun x c e => List.mem_append_left _ (by
          obtain ⟨q, hq, e'⟩ := List.mem_map.mp (hcov x c e)
          exact List.mem_filterMap.mpr ⟨q, hq, by rw [e']; exact e⟩)) (fun q hq => by
            rw [List.mem_singleton.mp hq]
            obtain ⟨ws, pl, lw⟩ := hO
            exact ⟨hla, fun z => (List.mem_append.mp z).elim hlaC hlaH, ws, pl, (lw.offCell cells).weak sw⟩) (by simp) hns keep
    refine h s.heap.objs.size (A.deeper _) _ _ _ _ _ rm.deeper C fun fl h' tk k e r => ?_
    have kk : KeepsOff [la] s.heap h' := fun b o q e => k b o (fun z => by
      rcases List.mem_cons.mp z with z | z
      · rw [z] at e; exact Nat.lt_irrefl _ (Heap.lt_size e)
      · exact q z) (keep b o e)
    obtain ⟨ws, pl, lw⟩ := r
    have := hQ h' tk kk ⟨ws, pl, lw.weak fun b q => List.mem_append_right _ q⟩
    rcases e with rfl | rfl
    · exact this
    · exact this
end
end Mine
end

section
open PySem PySem.W PyProof.Rows
set_option Elab.async false
set_option maxRecDepth 100000
set_option linter.unusedVariables false
namespace Mine
theorem VL_ints {H H2 : List Addr} {h h2 : Heap} : ∀ {ws : List Value} {l : List Int}, VL H h ws (l.map .int) → VL H2 h2 ws (l.map .int)
  | _, [], .nil => .nil
  | _, _ :: _, .cons a r => by
    obtain ⟨t, rfl⟩ := a.int_inv
    exact .cons (.int _ _) (VL_ints r)
section
variable {prog : Program} {w : World} {T : Tabs} {h₀ : Heap} {n : Nat} {env : Env} {σ : Sto} {own : Own}
theorem Ctx.ownM {H W : List Addr} {h h' : Heap} {a : Addr} {vs : List Value} {ps : List PV} (C : Ctx T h₀ H W env σ ((a, ps) :: own) h) {us : List Value} {qs : List PV} (hl : h'.PlainList a us.toArray) (hv : VL (W ++ H) h' us qs) (k : KeepsOff [a] h h') : Ctx T h₀ H W env σ ((a, qs) :: own) h' := by
  obtain ⟨aW, vs0, ⟨k0, pl0⟩, lv0⟩ := C.O (a, ps) List.mem_cons_self
  have ka : ∀ b o, b ≠ a → h.get? b = some o → h'.get? b = some o := fun b o q e => k b o (fun z => q (List.mem_singleton.mp z)) e
  have kk : KeepsOff (W ++ H) h h' := fun b o q e => ka b o (fun z => q (z ▸ List.mem_append_left _ aW)) e
  have a0 : h₀.get? a = none := C.R.new a aW
  obtain ⟨m, hm, hvs⟩ := C.E.vars
  have nl : env.locals ≠ a := fun q => by
    obtain ⟨o, es, ep, e1, e2, _⟩ := hm
    rw [q] at e1
    have : h.get? a = some { cls := .type "list", data := .seq vs0.toArray k0 } := pl0
    rw [this] at e1; cases e1; cases e2
  refine ⟨⟨C.E.kind, C.E.glb, C.E.blt, C.E.G, fun b o e => ka b o (fun z => by rw [z, a0] at e; cases e) (C.E.ext b o e), m, (let ⟨o, es, ep, e1, r⟩ := hm; ⟨o, es, ep, ka _ _ nl e1, r⟩), fun x o e => ?_⟩, fun b q => ?_, C.R, fun q hq => ?_, ?_, C.D, C.C, fun q hq => ?_⟩
  · rcases hvs x o e with ⟨b, c⟩ | ⟨c, u, b, d, e1, f⟩
    · exact .inl ⟨b, fun p q => let ⟨v, y, z⟩ := c p q; ⟨v, y, z.mono kk⟩⟩
    · refine .inr ⟨c, u, b, d, (let ⟨o', g1, g2⟩ := id e1; ⟨o', ka _ _ ?_ g1, g2⟩), fun p q => let ⟨v, y, z⟩ := f p q; ⟨v, y, z.mono kk⟩⟩
      intro q
      obtain ⟨o', g1, g2⟩ := e1
      have : h.get? a = some { cls := .type "list", data := .seq vs0.toArray k0 } := pl0
      rw [q, this] at g1; cases g1; cases g2
  · by_cases e : b = a
    · obtain ⟨k1, pl1⟩ := hl
      exact e ▸ ⟨_, pl1⟩
    · obtain ⟨o, ho⟩ := C.L b q
      exact ⟨o, ka b o e ho⟩
  · rcases List.mem_cons.mp hq with rfl | hq
    · exact ⟨aW, us, hl, hv⟩
    · obtain ⟨b, vs', ⟨k1, c⟩, e⟩ := C.O q (List.mem_cons_of_mem _ hq)
      refine ⟨b, vs', ⟨k1, ka _ _ (fun z => ?_) c⟩, e.mono kk⟩
      have nd := C.N
      rw [List.map_cons, List.nodup_cons] at nd
      exact nd.1 (List.mem_map.mpr ⟨q, hq, z⟩)
  · have nd := C.N
    rw [List.map_cons] at nd ⊢
    exact nd
  · rcases List.mem_cons.mp hq with rfl | hq
    · exact C.X (a, ps) List.mem_cons_self
    · exact C.X q (List.mem_cons_of_mem _ hq)
theorem Ex1_callM {x : Str} {np pos cp : Pos} {args : List PySem.Expr} {f : Value} {ps : List PV} {la : Addr} {l : List PV} {l' : List Int} {cl : List (Str × Addr)} {fr : List (Str × PV)} (hn : Ev prog w T h₀ n env σ (.Name x np) (.raw f)) (hf : Callable h₀ f) (ha : EvL prog w T h₀ n env σ args ps)
    (hp : PurM prog w h₀ n cl fr la l ps (fun us => call f us) (l'.map .int)) (hfr : ∀ x p, (x, p) ∈ fr → List.Mem (x, some p) σ ∧ env.kindOf x ≠ some .local ∧ env.cells.lookup x = cl.lookup x)
    (hst : (starEach args env).any (·.1) = false := by kernel_rfl) (hi : interactive env = false := by kernel_rfl) (hs : swapsWith (.Call (.Name x np) args [] cp) none pos.line env = pure false := by kernel_rfl) :
    Ex1 prog w T h₀ n env σ ((la, l) :: own) (.Expr (.Call (.Name x np) args [] cp) pos) (.next σ ((la, l'.map .int) :: own)) := fun A H W s Q E rm C hQ => by
  refine wpAny_Expr (hi := hi) (hs := hs) ?_
  show wpAny _ A (do callWith cp (← eval (.Name x np) env) [] (backTo cp (starEach args env)) (backToKw cp (keywordEach [] env))) _ E s
  refine wpAny_bind (hn A (W ++ H) s _ _ rm C.E C.L fun v h1 t1 k1 v1 => ?_)
  obtain rfl := v1.raw_inv
  have C1 := C.ext k1
  refine callWith_any (backTo_plain hst) ?_ (ha A (W ++ H) _ cp _ _ rm C1.E C1.L fun vs h2 t2 k2 v2 => ⟨k2, ?_⟩)
  · rcases hf with q | q | ⟨a, o, fd, rfl, ho, hd⟩
    · exact .inl q
    · exact .inr (.inl q)
    · exact .inr (.inr ⟨a, o, fd, rfl, C1.E.ext _ _ ho, hd⟩)
  · have C2 := C1.ext k2
    obtain ⟨aW, ws, pl, lv⟩ := C2.O (la, l) List.mem_cons_self
    dsimp only at aW pl lv
    have sub : ∀ b ∈ la :: (W ++ H).filter (· != la), b ∈ W ++ H := fun b q => by
      rcases List.mem_cons.mp q with rfl | q
      · exact List.mem_append_left _ aW
      · exact (List.mem_filter.mp q).1
    refine hp A ((W ++ H).filter (· != la)) _ _ _ _ rm C2.E.ext (C2.R.new la aW) (fun q => by simp at q) (v2.weak sub) (fun b q => C2.L b (sub b q)) ((C2.E.weak sub).free hfr) ⟨ws, pl, lv.weak sub⟩ fun h3 t3 k3 r => ?_
    obtain ⟨ws3, pl3, lv3⟩ := r
    have C3 := C2.ownM (vs := ws) pl3 (VL_ints lv3) k3
    exact hQ .next h3 t3 (fun b o q e => k3 b o (fun z => q (List.mem_singleton.mp z ▸ aW)) (k2 b o (k1 b o e))) ⟨rfl, W, fun _ q => q, fun _ q => .inl q, C3⟩
end
end Mine
end

section
open PySem PySem.W PyProof.Rows
set_option Elab.async false
set_option maxRecDepth 100000
set_option linter.unusedVariables false
namespace Mine
def dg (n : Nat) : Nat → Nat → List Nat
  | _, 0 => []
  | x, k + 1 => x % 2 ^ n :: dg n (x / 2 ^ n) k
theorem dg_len (n : Nat) : ∀ (k x : Nat), (dg n x k).length = k
  | 0, _ => rfl
  | k + 1, x => by rw [dg, List.length_cons, dg_len n k]
theorem dg_app (n : Nat) : ∀ (a b x : Nat), dg n x (a + b) = dg n (x % 2 ^ (a * n)) a ++ dg n (x / 2 ^ (a * n)) b
  | 0, b, x => by simp [dg, Nat.mod_one]
  | a + 1, b, x => by
    rw [show a + 1 + b = (a + b) + 1 by omega, dg, dg_app n a b, dg, List.cons_append]
    have e : (a + 1) * n = n + a * n := by rw [Nat.add_mul, Nat.one_mul, Nat.add_comm]
    congr 1
    · rw [e, Nat.pow_add, Nat.mod_mul_right_mod]
    · congr 2
      · rw [e, Nat.pow_add, Nat.mod_mul_right_div_self]
      · rw [e, Nat.pow_add, Nat.div_div_eq_div_mul]
theorem bitXor_nat (a b : Nat) : Builtin.bitXor (a : Int) (b : Int) = ((a ||| b : Nat) : Int) - ((a &&& b : Nat) : Int) := by
  have n1 : decide ((0 : Int) ≤ Builtin.bitNot (a : Int)) = false := by unfold Builtin.bitNot; exact decide_eq_false (by omega)
  have n2 : decide ((0 : Int) ≤ Builtin.bitNot (b : Int)) = false := by unfold Builtin.bitNot; exact decide_eq_false (by omega)
  have p1 : decide ((0 : Int) ≤ (a : Int)) = true := decide_eq_true (by omega)
  have p2 : decide ((0 : Int) ≤ (b : Int)) = true := decide_eq_true (by omega)
  have bb : ∀ x : Int, Builtin.bitNot (Builtin.bitNot x) = x := fun x => by unfold Builtin.bitNot; omega
  unfold Builtin.bitXor Builtin.bitOr Builtin.bitAnd
  rw [n1, n2, p1, p2]
  dsimp only
  rw [bb, bb, bb]
  rfl
theorem xor_cut (x s : Nat) : Builtin.bitXor (x : Int) ((x / 2 ^ s * 2 ^ s : Nat) : Int) = ((x % 2 ^ s : Nat) : Int) := by
  have e1 : x ||| (x / 2 ^ s * 2 ^ s) = x := by
    apply Nat.eq_of_testBit_eq
    intro i
    rw [Nat.testBit_or, Nat.testBit_mul_two_pow, Nat.testBit_div_two_pow]
    by_cases h : i < s
    · simp [Nat.not_le.mpr h]
    · simp [Nat.not_lt.mp h, Nat.sub_add_cancel (Nat.not_lt.mp h)]
  have e2 : x &&& (x / 2 ^ s * 2 ^ s) = x / 2 ^ s * 2 ^ s := by
    apply Nat.eq_of_testBit_eq
    intro i
    rw [Nat.testBit_and, Nat.testBit_mul_two_pow, Nat.testBit_div_two_pow]
    by_cases h : i < s
    · simp [Nat.not_le.mpr h]
    · simp [Nat.not_lt.mp h, Nat.sub_add_cancel (Nat.not_lt.mp h)]
  rw [bitXor_nat, e1, e2]
  have := Nat.div_add_mod x (2 ^ s)
  rw [Nat.mul_comm] at this
  omega
end Mine
end

section
open PySem PySem.W PyProof.Rows
set_option Elab.async false
set_option maxRecDepth 100000
set_option linter.unusedVariables false
namespace Mine
def put (l : List Int) (L : Nat) (ds : List Nat) : List Int := l.take L ++ (ds.map (fun (x : Nat) => (x : Int)) ++ l.drop (L + ds.length))
theorem put_put (l : List Int) (L M : Nat) (a b : List Nat) (h : L + a.length = M) (hl : L ≤ l.length) : put (put l L a) M b = put l L (a ++ b) := by
  subst h
  unfold put
  have hA : (l.take L ++ a.map (fun (x : Nat) => (x : Int))).length = L + a.length := by rw [List.length_append, List.length_take, List.length_map]; omega
  rw [show l.take L ++ (a.map (fun (x : Nat) => (x : Int)) ++ l.drop (L + a.length)) = (l.take L ++ a.map (fun (x : Nat) => (x : Int))) ++ l.drop (L + a.length) by rw [List.append_assoc]]
  generalize hB : l.take L ++ a.map (fun (x : Nat) => (x : Int)) = B at hA
  rw [List.take_append_of_le_length (by omega), List.take_of_length_le (by omega), List.drop_append, List.drop_of_length_le (by omega), List.drop_drop, List.map_append, List.length_append, ← hB, hB, hA, ← hB]
  simp only [List.append_assoc, List.nil_append]
  rw [show L + a.length + (L + a.length + b.length - (L + a.length)) = L + (a.length + b.length) by omega]
def frI (la f : Addr) (n : Nat) : List (Str × PV) := [("a_digits", .raw (.ref la)), ("inner", .raw (.ref f)), ("n", .int n)]
theorem frI_mem {la f : Addr} {n0 : Nat} {env : Env} {cl : List (Str × Addr)} {ox oM oS oL oR oU oW : Option PV} (hc : env.cells = cl) (k1 : env.kindOf "a_digits" = some .free) (k2 : env.kindOf "inner" = some .free) (k3 : env.kindOf "n" = some .free) :
    ∀ x p, (x, p) ∈ frI la f n0 → List.Mem (x, some p) [(("x" : Str), ox), ("L", oL), ("R", oR), ("mid", oM), ("shift", oS), ("upper", oU), ("lower", oW), ("a_digits", some (.raw (.ref la))), ("inner", some (.raw (.ref f))), ("n", some (.int (n0 : Nat)))] ∧ env.kindOf x ≠ some .local ∧ env.cells.lookup x = cl.lookup x := by
  intro x p hx
  unfold frI at hx
  rcases List.mem_cons.mp hx with e | hx
  · cases e; exact ⟨by repeat (first | exact .head _ | apply List.Mem.tail), by rw [k1]; decide, by rw [hc]⟩
  rcases List.mem_cons.mp hx with e | hx
  · cases e; exact ⟨by repeat (first | exact .head _ | apply List.Mem.tail), by rw [k2]; decide, by rw [hc]⟩
  rcases List.mem_cons.mp hx with e | hx
  · cases e; exact ⟨by repeat (first | exact .head _ | apply List.Mem.tail), by rw [k3]; decide, by rw [hc]⟩
  cases hx
section
variable {prog : Program} {w : World} {T : Tabs} {h₁ : Heap}
set_option maxHeartbeats 8000000 in
theorem i2d_inner {f c' la : Addr} {doc pm ctv : Value} {q : Str} {cl : List (Str × Addr)} {n0 : Nat} (G : Gl T h₁) (ho : h₁.get? f = some (fnMade "inner" q (innerP "_int2digits") (innerB "_int2digits") (innerS "_int2digits") cl doc pm c' ctv)) (hcd : h₁.CodeRec (.ref c') q)
    (hcov : ∀ x c, cl.lookup x = some c → x ∈ (frI la f n0).map Prod.fst) (hap : ∀ x y c, cl.lookup x = some c → cl.lookup y = some c → x = y) (hn0 : n0 ≤ 100) :
    ∀ k (l : List Int) (x L R : Nat), l.length ≤ 100 → L < R → R - L ≤ 2 ^ k → R ≤ l.length → x < 2 ^ ((R - L) * n0) → x < 2 ^ 64 →
      PurM prog w h₁ (k + 1) cl (frI la f n0) la (l.map .int) [.int (x : Nat), .int (L : Nat), .int (R : Nat)] (fun us => call (.ref f) us) ((put l L (dg n0 x (R - L))).map .int)
  | k, l, x, L, R, hl, hLR, hk, hR, hx, hx2 => by
    refine PurM_call (T := T) (fd := fnX "inner" q (innerP "_int2digits") (innerB "_int2digits") (innerS "_int2digits") cl .none .none doc pm none (.ref c') ctv) (names := ["x", "L", "R"]) (rest := ["mid", "shift", "upper", "lower"]) G ho rfl hcd rfl rfl rfl
      (fun us hu => ?_) rfl (fun x hx => ?_) ?_ (fun x hx => ?_) hcov (show ((["x", "L", "R"] : List Str) ++ ((["mid", "shift", "upper", "lower"] : List Str) ++ (["a_digits", "inner", "n"] : List Str))).Nodup by decide +kernel) hap (fun L' => ?_) (by kernel_rfl) (by kernel_rfl) (by kernel_rfl)
    · match us, hu with
      | [u1, u2, u3], _ => kernel_rfl
    · have h : (((["x", "L", "R"] : List Str) ++ (["mid", "shift", "upper", "lower"] : List Str)).all fun x => (innerS "_int2digits").names.lookup x == some .local) = true := by kernel_rfl
      exact eq_of_beq (List.all_eq_true.mp h x hx)
    · have h : ((innerS "_int2digits").names.all fun x => x.2 != .cell) = true := by kernel_rfl
      exact fun x hx => by simpa using List.all_eq_true.mp h x hx
    · have h : ((["a_digits", "inner", "n"] : List Str).all fun x => (innerS "_int2digits").names.lookup x == some .free && !(x == ("__classdict__" : Str))) = true := by kernel_rfl
      have h' := Bool.and_eq_true_iff.mp (List.all_eq_true.mp h x hx)
      exact ⟨eq_of_beq h'.1, by simpa using h'.2⟩
    · show ExsM prog w T h₁ k _ [("x", some (.int (x : Nat))), ("L", some (.int (L : Nat))), ("R", some (.int (R : Nat))), ("mid", none), ("shift", none), ("upper", none), ("lower", none), ("a_digits", some (.raw (.ref la))), ("inner", some (.raw (.ref f))), ("n", some (.int (n0 : Nat)))] la (l.map .int) (innerB "_int2digits") _
      by_cases h1 : L + 1 = R
      · subst h1
        have c : ((L : Int) + 1 == ((L + 1 : Nat) : Int)) = true := by rw [beq_iff_eq]; omega
        have e : (put l L (dg n0 x (L + 1 - L))).map PV.int = (l.map PV.int).set L (.int (x : Nat)) := by
          rw [show L + 1 - L = 1 by omega] at hx ⊢
          rw [Nat.one_mul] at hx
          unfold put
          rw [dg, dg, Nat.mod_eq_of_lt hx, List.set_eq_take_append_cons_drop, if_pos (by rw [List.length_map]; omega)]
          simp
        rw [e]
        exact ExsM_if_ret (xcmp (xadd xvar Ev_int) xvar (c ▸ Cmp_eq)) (Ex1_setitem xvar xvar xvar (by rw [List.length_map]; omega) (by omega))
      · have c : ((L : Int) + 1 == (R : Int)) = false := by rw [beq_eq_false_iff_ne]; omega
        obtain ⟨k, rfl⟩ : ∃ j, k = j + 1 := ⟨k - 1, by
          cases k with
          | zero => simp at hk; omega
          | succ k => omega⟩
        have hM : L < (L + R) / 2 ∧ (L + R) / 2 < R := by omega
        have hp : 2 ^ (k + 1) = 2 * 2 ^ k := by rw [Nat.pow_succ, Nat.mul_comm]
        generalize hm : (L + R) / 2 = M at hM
        have hs : (M - L) * n0 ≤ 100 * 100 := Nat.mul_le_mul (by omega) hn0
        generalize hS : (M - L) * n0 = S at hs
        have call : Callable h₁ (.ref f) := .inr (.inr ⟨f, _, _, rfl, ho, rfl⟩)
        have hlow : x % 2 ^ S < 2 ^ ((M - L) * n0) := by rw [hS]; exact Nat.mod_lt _ (Nat.pos_of_ne_zero (by simp))
        have hup : x / 2 ^ S < 2 ^ ((R - M) * n0) := by
          rw [Nat.div_lt_iff_lt_mul (Nat.pos_of_ne_zero (by simp)), ← Nat.pow_add, ← hS, ← Nat.add_mul, show R - M + (M - L) = R - L by omega]
          exact hx
        have hlen : (put l L (dg n0 (x % 2 ^ S) (M - L))).length = l.length := by
          unfold put; rw [List.length_append, List.length_append, List.length_take, List.length_map, List.length_drop, dg_len]; omega
        have ih1 := i2d_inner G ho hcd hcov hap hn0 k l (x % 2 ^ S) L M hl (by omega) (by omega) (by omega) hlow (Nat.lt_of_le_of_lt (Nat.mod_le _ _) hx2)
        have ih2 := i2d_inner G ho hcd hcov hap hn0 k (put l L (dg n0 (x % 2 ^ S) (M - L))) (x / 2 ^ S) M R (by omega) (by omega) (by omega) (by omega) hup (Nat.lt_of_le_of_lt (Nat.div_le_self _ _) hx2)
        have e : put (put l L (dg n0 (x % 2 ^ S) (M - L))) M (dg n0 (x / 2 ^ S) (R - M)) = put l L (dg n0 x (R - L)) := by
          rw [show R - L = (M - L) + (R - M) by omega, dg_app, hS]
          have h1 : (dg n0 (x % 2 ^ S) (M - L)).length = M - L := dg_len ..
          exact put_put l L M _ _ (by rw [h1]; omega) (by omega)
        rw [e] at ih2
        refine ExsM_cons (Ex1_if_f (xcmp (xadd xvar Ev_int) xvar (c ▸ Cmp_eq)) Exs_nil) ?_
        refine ExsM_cons (xassign (p := .int (M : Nat)) (Ev_to (xshr (a := L + R) (b := 1) (Ev_to (xadd xvar xvar) (by rw [Int.natCast_add])) (Ev_to Ev_int rfl)) (by rw [Nat.pow_one, hm]))) ?_
        refine ExsM_cons (xassign (p := .int ((S : Nat) : Int)) (Ev_to (Ev_bin (xsubi xvar xvar) xvar (Bin_mul ?_)) ?_)) ?_
        · exact IntMulOk.of_left (bits64 (by have : (M : Int) - L = ((M - L : Nat) : Int) := by omega
                                             rw [this, Int.natAbs_natCast]; omega))
        · rw [← hS, Int.natCast_mul, Int.natCast_sub (by omega)]
        · refine ExsM_cons (xassign (p := .int ((x / 2 ^ S : Nat) : Int)) (xshr (a := x) (b := S) xvar xvar)) ?_
          refine ExsM_cons (xassign (p := .int ((x % 2 ^ S : Nat) : Int)) (Ev_to (xxor xvar (xshl xvar xvar (by omega) (by omega) (by rw [Int.natAbs_natCast]; exact Nat.lt_of_le_of_lt (Nat.div_le_self _ _) hx2))) ?_)) ?_
          · rw [← xor_cut x S, Int.toNat_natCast]; congr 2
          · refine ExsM_cons (Ex1_callM xvar call (xcons xvar (xcons xvar (xcons xvar xnil))) ih1 (frI_mem rfl (by kernel_rfl) (by kernel_rfl) (by kernel_rfl))) ?_
            exact ExsM_next (Exs_cons (Ex1_callM xvar call (xcons xvar (xcons xvar (xcons xvar xnil))) ih2 (frI_mem rfl (by kernel_rfl) (by kernel_rfl) (by kernel_rfl))) Exs_nil)
end
end Mine
end

section
open PySem PySem.W PyProof.Rows
set_option Elab.async false
set_option maxRecDepth 100000
set_option linter.unusedVariables false
namespace Mine
section
variable {prog : Program} {w : World} {T : Tabs} {Z : List ZT} {h₀ : Heap} {n : Nat} {env : Env} {σ : Sto} {own : Own}
def IntsOf (σi σ : Sto) : Prop := ∀ x o, List.Mem (x, o) σi → List.Mem (x, o) σ ∧ ∃ i, o = some (.int i)
theorem IntsOf.nil : IntsOf [] σ := fun _ _ h => nomatch h
theorem IntsOf.cons {x : Str} {i : Int} {r : Sto} (h : List.Mem (x, some (.int i)) σ) (hr : IntsOf r σ) : IntsOf ((x, some (.int i)) :: r) σ := fun y o hy => by
  cases hy with
  | head => exact ⟨h, i, rfl⟩
  | tail _ hy => exact hr y o hy
theorem CtxE.ints {H H' : List Addr} {h : Heap} {σi : Sto} (C : CtxE T h₀ H env σ h) (hi : IntsOf σi σ) : CtxE T h₀ H' env σi h := by
  obtain ⟨m, a, b⟩ := C.vars
  refine ⟨C.kind, C.glb, C.blt, C.G, C.ext, m, a, fun x o e => ?_⟩
  obtain ⟨e', i, rfl⟩ := hi x o e
  rcases b x _ e' with ⟨k, r⟩ | ⟨c, u, k, l, d, r⟩
  · refine .inl ⟨k, fun p q => ?_⟩
    cases q
    obtain ⟨v, y, z⟩ := r _ rfl
    obtain ⟨t, rfl⟩ := z.int_inv
    exact ⟨_, y, .int _ _⟩
  · refine .inr ⟨c, u, k, l, d, fun p q => ?_⟩
    cases q
    obtain ⟨v, y, z⟩ := r _ rfl
    obtain ⟨t, rfl⟩ := z.int_inv
    exact ⟨_, y, .int _ _⟩
def liveOf (h : Heap) : List Addr := (List.range h.objs.size).filter fun a => (h.get? a).isSome
theorem liveOf_live (h : Heap) : Live (liveOf h) h := fun a q => Option.isSome_iff_exists.mp (List.mem_filter.mp q).2
theorem liveOf_none {h : Heap} {a : Addr} (q : a ∉ liveOf h) : h.get? a = none := by
  cases e : h.get? a with
  | none => rfl
  | some o => exact absurd (List.mem_filter.mpr ⟨List.mem_range.mpr (Heap.lt_size e), by rw [e]; rfl⟩) q
theorem Ctx.newList {H W : List Addr} {h h' : Heap} {a : Addr} {ws : List Value} {l : List Int} {H' : List Addr} (C : Ctx T h₀ H W env σ own h) (k : Ext h h') (new : h.get? a = none) (pl : h'.PlainList a ws.toArray) (lv : VL H' h' ws (l.map .int)) :
    Ctx T h₀ H (a :: W) env σ ((a, l.map .int) :: own) h' := by
  have C1 := C.ext k
  have fr : a ∉ W ++ H := fun q => let ⟨o, e⟩ := C.L a q; by rw [new] at e; cases e
  have fresh' : ∀ {v : Value} {q : PV}, V (W ++ H) h v q → V (a :: (W ++ H)) h' v q := fun z => (z.freshL (W := [a]) fun c q => by rw [List.mem_singleton.mp q]; exact new).ext k
  have freshL' : ∀ {v : List Value} {q : List PV}, VL (W ++ H) h v q → VL (a :: (W ++ H)) h' v q := fun z => (z.freshL (W := [a]) fun c q => by rw [List.mem_singleton.mp q]; exact new).ext k
  obtain ⟨m, hm, hv⟩ := C.E.vars
  refine ⟨⟨C.E.kind, C.E.glb, C.E.blt, C.E.G, C.E.ext.trans k, m, hm.keeps k, fun y o hy => ?_⟩, fun b q => ?_, ⟨List.mem_cons_of_mem _ C.R.loc, fun y c a b => List.mem_cons_of_mem _ (C.R.cel y c a b), C.R.apart, fun b q => ?_, C.R.names⟩, fun q hq => ?_, ?_, fun b q => ?_, fun x c e => List.mem_cons_of_mem _ (C.C x c e), fun q hq x c e => ?_⟩
  · rcases hv y o hy with ⟨a, b⟩ | ⟨c, u', a, b, d, e⟩
    · exact .inl ⟨a, fun p q => let ⟨z, f, g⟩ := b p q; ⟨z, f, fresh' g⟩⟩
    · exact .inr ⟨c, u', a, b, d.keeps k, fun p q => let ⟨z, f, g⟩ := e p q; ⟨z, f, fresh' g⟩⟩
  · rcases List.mem_cons.mp q with rfl | q
    · obtain ⟨k1, e⟩ := pl
      exact ⟨_, e⟩
    · exact C1.L b q
  · rcases List.mem_cons.mp q with rfl | q
    · cases e : h₀.get? b with
      | none => rfl
      | some o => have := C.E.ext _ _ e; rw [new] at this; cases this
    · exact C.R.new b q
  · rcases List.mem_cons.mp hq with rfl | hq
    · exact ⟨List.mem_cons_self, ws, pl, VL_ints lv⟩
    · obtain ⟨a, vs, b, c⟩ := C.O q hq
      exact ⟨List.mem_cons_of_mem _ a, vs, b.at fun o e => k _ _ e, freshL' c⟩
  · rw [List.map_cons, List.nodup_cons]
    refine ⟨fun hm => ?_, C.N⟩
    obtain ⟨q, hq, e⟩ := List.mem_map.mp hm
    exact fr (List.mem_append_left _ (show a ∈ W from (show q.1 = a from e) ▸ (C.O q hq).1))
  · rcases List.mem_cons.mp q with rfl | q
    · exact fun z => fr (List.mem_append_right _ z)
    · exact C.D b q
  · rcases List.mem_cons.mp hq with rfl | hq
    · exact fun z => fr ((show c = a from z) ▸ C.C x c e)
    · exact C.X q hq x c e

theorem ExsZ_new {x : Str} {value : PySem.Expr} {pos pos' : Pos} {rest : List Stmt} {σi : Sto} {l : List Int} {σ' : Addr → Sto} {p : PV} (hi : IntsOf σi σ) (he : Ev prog w T h₀ n env σi value (.list (l.map .int))) (hx : Storable env x = true) (u : ∀ a, Upd x (.raw (.ref a)) σ (σ' a))
    (hs : swapsWith value (some (.Name x pos')) pos.line env = pure false)
    (h : ∀ a, h₀.get? a = none → ExsZ prog w T Z h₀ n env (σ' a) ((a, l.map .int) :: own) rest (.ret p)) : ExsZ prog w T Z h₀ n env σ own (.Assign [.Name x pos'] value pos :: rest) (.ret p) := fun A H W s Q E rm C I hQ => by
  refine wpAny_execs_cons (wpAny_Assign_Name (hs := hs) (he A (liveOf s.heap) s _ E rm (C.E.ints hi) (liveOf_live _) fun v h1 t1 k1 v1 => ?_))
  obtain ⟨a, vs, rfl, ha, pl, lv⟩ := v1.list_inv
  have new := liveOf_none ha
  have C2 := C.newList k1 new pl lv
  have a0 : h₀.get? a = none := by
    cases e : h₀.get? a with
    | none => rfl
    | some o => have := C.E.ext _ _ e; rw [new] at this; cases this
  have I1 : Inv Z (a :: W ++ H) s.heap := I.sub fun b q => by
    rcases List.mem_cons.mp q with rfl | q
    · exact .inr new
    · exact .inl q
  have I2 := I1.ext k1
  refine store_ C2 (u a) hx (.raw _) fun h' tk k _ C' => ?_
  have w2 : ∀ b ∈ a :: W, b ∈ W ∨ s.heap.get? b = none := fun b q => (List.mem_cons.mp q).elim (fun e => .inr (e ▸ new)) .inl
  refine h a a0 A H _ _ _ E rm C' (I2.store C2 k) fun fl h'' tk' k' af => hQ fl h'' tk' (fun b o q e => ?_) ?_
  · refine k' b o (fun z => ?_) (k b o (fun z => ?_) (k1 b o e))
    · rcases List.mem_append.mp z with z | z
      · rcases w2 b z with r | r
        · exact q (List.mem_append_left _ r)
        · rw [r] at e; cases e
      · exact q (List.mem_append_right _ z)
    · rcases w2 b z with r | r
      · exact q (List.mem_append_left _ r)
      · rw [r] at e; cases e
  · obtain ⟨v, e1, e2, e3⟩ := af
    exact ⟨v, e1, e2, e3.sub fun b q => .inl ((List.mem_append.mp q).elim (fun q => List.mem_append_left _ (List.mem_cons_of_mem _ q)) (List.mem_append_right _))⟩

theorem Ctx.freeze {H W : List Addr} {h : Heap} {x : Str} {a : Addr} {ps : List PV} {σ' : Sto} (C : Ctx T h₀ H W env σ ((a, ps) :: own) h) (hx : List.Mem (x, some (.raw (.ref a))) σ) (u : Upd x (.list ps) σ σ') : Ctx T h₀ H (W.filter (· != a)) env σ' own h := by
  obtain ⟨aW, vs, pl, lv⟩ := C.O (a, ps) List.mem_cons_self
  have sub : ∀ c ∈ W.filter (· != a) ++ H, c ∈ W ++ H := fun c q => (List.mem_append.mp q).elim (fun q => List.mem_append_left _ (List.mem_filter.mp q).1) (List.mem_append_right _)
  have na : a ∉ W.filter (· != a) ++ H := fun q => (List.mem_append.mp q).elim (fun q => by have := (List.mem_filter.mp q).2; simp at this) (C.D a aW)
  obtain ⟨m, hm, hv⟩ := C.E.vars
  have aobj : ∀ {o : Obj}, h.get? a = some o → ∃ k, o = { cls := .type "list", data := .seq vs.toArray k } := fun e => by
    obtain ⟨k, z⟩ := pl; rw [z] at e; cases e; exact ⟨k, rfl⟩
  have keepW : ∀ c ∈ W, c ≠ a → c ∈ W.filter (· != a) := fun c q z => List.mem_filter.mpr ⟨q, by simpa using z⟩
  have nd := C.N
  rw [List.map_cons, List.nodup_cons] at nd
  have nl : env.locals ≠ a := fun q => by
    obtain ⟨o, es, ep, e1, e2, _⟩ := hm
    rw [q] at e1
    obtain ⟨k, rfl⟩ := aobj e1
    cases e2
  refine ⟨⟨C.E.kind, C.E.glb, C.E.blt, C.E.G, C.E.ext, m, hm, fun y o hy => ?_⟩, fun b q => C.L b (sub b q), ⟨keepW _ C.R.loc nl, fun y c q z => keepW _ (C.R.cel y c q z) (C.X (a, ps) List.mem_cons_self y c z), C.R.apart, fun b q => C.R.new b (List.mem_filter.mp q).1, by rw [u.names]; exact C.R.names⟩, fun q hq => ?_, nd.2, fun b q => C.D b (List.mem_filter.mp q).1, fun y c e => ?_, fun q hq => C.X q (List.mem_cons_of_mem _ hq)⟩
  · have hl : V (W.filter (· != a) ++ H) h (.ref a) (.list ps) := .list na pl (lv.weak sub)
    rcases u.mem C.R.names y o hy with ⟨rfl, rfl⟩ | ⟨ne, hy⟩
    · rcases hv y _ hx with ⟨b, c⟩ | ⟨c, w', b, d, e1, f⟩
      · refine .inl ⟨b, fun q e => ?_⟩
        cases e
        obtain ⟨v, y1, y2⟩ := c _ rfl
        obtain rfl := y2.raw_inv
        exact ⟨_, y1, hl⟩
      · refine .inr ⟨c, w', b, d, e1, fun q e => ?_⟩
        cases e
        obtain ⟨v, y1, y2⟩ := f _ rfl
        obtain rfl := y2.raw_inv
        exact ⟨_, y1, hl⟩
    · rcases hv y o hy with ⟨b, c⟩ | ⟨c, w', b, d, e1, f⟩
      · exact .inl ⟨b, fun q e => let ⟨v, y1, z⟩ := c q e; ⟨v, y1, z.weak sub⟩⟩
      · exact .inr ⟨c, w', b, d, e1, fun q e => let ⟨v, y1, z⟩ := f q e; ⟨v, y1, z.weak sub⟩⟩
  · obtain ⟨b, vs', c, e⟩ := C.O q (List.mem_cons_of_mem _ hq)
    exact ⟨keepW _ b (fun z => nd.1 (List.mem_map.mpr ⟨q, hq, z⟩)), vs', c, e.weak sub⟩
  · rcases List.mem_append.mp (C.C y c e) with q | q
    · exact List.mem_append_left _ (keepW _ q (C.X (a, ps) List.mem_cons_self y c e))
    · exact List.mem_append_right _ q
theorem Inv.addSeq {U U' : List Addr} {h : Heap} (I : Inv Z U h) (hU : ∀ b ∈ U', b ∈ U ∨ ∃ o vs k, h.get? b = some o ∧ o.data = .seq vs k) : Inv Z U' h := by
  intro t ht
  obtain ⟨a, ⟨b1, b2⟩, ps, c, d⟩ := I t ht
  have off : ∀ {x : Addr} {o : Obj} {vs : Array Value}, x ∉ U → h.get? x = some o → o.data = .fields vs → x ∉ U' := fun {x o vs} hx e f q => (hU x q).elim hx fun ⟨o', vs', k, e', f'⟩ => by
    rw [e] at e'; cases e'; rw [f] at f'; cases f'
  refine ⟨a, ⟨?_, b2⟩, ps, c, d.imp id fun ⟨c', e, ⟨f1, f2⟩, g⟩ => ⟨c', e, ⟨?_, f2⟩, g⟩⟩
  · obtain ⟨o, vs, file, tf, flags, tg, inF, text, tt, e, e', e2, r⟩ := a
    exact off b1 e e2
  · obtain ⟨c2, o, vs, t', e0, e1, e2, _⟩ := g
    cases e0
    exact off f1 e1 e2
theorem ExsZ_freeze {x : Str} {a : Addr} {ps : List PV} {rest : List Stmt} {p : PV} {σ' : Sto} (hx : List.Mem (x, some (.raw (.ref a))) σ) (u : Upd x (.list ps) σ σ') (h : ExsZ prog w T Z h₀ n env σ' own rest (.ret p)) : ExsZ prog w T Z h₀ n env σ ((a, ps) :: own) rest (.ret p) := fun A H W s Q E rm C I hQ => by
  have C1 := C.freeze hx u
  obtain ⟨aW, vs, ⟨k0, pl⟩, lv⟩ := C.O (a, ps) List.mem_cons_self
  dsimp only at aW pl
  have az : a ∉ zs Z := fun z => C.D a aW (List.mem_append_left _ z)
  refine h A H _ s Q E rm C1 (I.sub fun b q => .inl ((List.mem_append.mp q).elim (fun q => List.mem_append_left _ (List.mem_filter.mp q).1) (List.mem_append_right _))) fun fl h' tk k af => hQ fl h' tk (fun b o q e => k b o (fun z => q ((List.mem_append.mp z).elim (fun z => List.mem_append_left _ (List.mem_filter.mp z).1) (List.mem_append_right _))) e) ?_
  obtain ⟨v, e1, e2, e3⟩ := af
  refine ⟨v, e1, e2, e3.addSeq fun b q => ?_⟩
  by_cases hb : b = a
  · subst hb
    exact .inr ⟨_, _, _, k b _ (fun z => (List.mem_append.mp z).elim (fun z => by have := (List.mem_filter.mp z).2; simp at this) az) pl, rfl⟩
  · refine .inl ?_
    rcases List.mem_append.mp q with q | q
    · exact List.mem_append_left _ (List.mem_filter.mpr ⟨q, by simpa using hb⟩)
    · exact List.mem_append_right _ q
end
end Mine
end

section
open PySem PySem.W PyProof.Rows
set_option Elab.async false
set_option maxRecDepth 100000
set_option linter.unusedVariables false
namespace Mine
section
variable {prog : Program} {w : World} {T : Tabs} {h₀ : Heap} {n : Nat} {env : Env} {σ : Sto} {own : Own}
theorem Ex1_callMF {x y : Str} {np pos cp : Pos} {args : List PySem.Expr} {f : Value} {is : List Int} {la : Addr} {l : List PV} {l' : List Int} {σ' : Sto} {cl : List (Str × Addr)} {fr : List (Str × PV)} (hn : Ev prog w T h₀ n env σ (.Name x np) (.raw f)) (hf : Callable h₀ f) (hy : List.Mem (y, some (.raw (.ref la))) σ) (u : Upd y (.list l) σ σ') (ha : EvL prog w T h₀ n env σ' args (is.map .int))
    (hp : PurM prog w h₀ n cl fr la l (is.map .int) (fun us => call f us) (l'.map .int)) (hfr : ∀ x p, (x, p) ∈ fr → List.Mem (x, some p) σ ∧ env.kindOf x ≠ some .local ∧ env.cells.lookup x = cl.lookup x)
    (hst : (starEach args env).any (·.1) = false := by kernel_rfl) (hi : interactive env = false := by kernel_rfl) (hs : swapsWith (.Call (.Name x np) args [] cp) none pos.line env = pure false := by kernel_rfl) :
    Ex1 prog w T h₀ n env σ ((la, l) :: own) (.Expr (.Call (.Name x np) args [] cp) pos) (.next σ ((la, l'.map .int) :: own)) := fun A H W s Q E rm C hQ => by
  refine wpAny_Expr (hi := hi) (hs := hs) ?_
  show wpAny _ A (do callWith cp (← eval (.Name x np) env) [] (backTo cp (starEach args env)) (backToKw cp (keywordEach [] env))) _ E s
  refine wpAny_bind (hn A (W ++ H) s _ _ rm C.E C.L fun v h1 t1 k1 v1 => ?_)
  obtain rfl := v1.raw_inv
  have C1 := C.ext k1
  have C1f := C1.freeze hy u
  refine callWith_any (backTo_plain hst) ?_ (ha A _ _ cp _ _ rm C1f.E C1f.L fun vs h2 t2 k2 v2 => ⟨k2, ?_⟩)
  · rcases hf with q | q | ⟨a, o, fd, rfl, ho, hd⟩
    · exact .inl q
    · exact .inr (.inl q)
    · exact .inr (.inr ⟨a, o, fd, rfl, C1.E.ext _ _ ho, hd⟩)
  · have C2 := C1.ext k2
    obtain ⟨aW, ws, pl, lv⟩ := C2.O (la, l) List.mem_cons_self
    dsimp only at aW pl lv
    have sub : ∀ b ∈ la :: (W ++ H).filter (· != la), b ∈ W ++ H := fun b q => by
      rcases List.mem_cons.mp q with rfl | q
      · exact List.mem_append_left _ aW
      · exact (List.mem_filter.mp q).1
    refine hp A ((W ++ H).filter (· != la)) _ _ _ _ rm C2.E.ext (C2.R.new la aW) (fun q => by simp at q) (VL_ints v2) (fun b q => C2.L b (sub b q)) ((C2.E.weak sub).free hfr) ⟨ws, pl, lv.weak sub⟩ fun h3 t3 k3 r => ?_
    obtain ⟨ws3, pl3, lv3⟩ := r
    have C3 := C2.ownM (vs := ws) pl3 (VL_ints lv3) k3
    exact hQ .next h3 t3 (fun b o q e => k3 b o (fun z => q (List.mem_singleton.mp z ▸ aW)) (k2 b o (k1 b o e))) ⟨rfl, W, fun _ q => q, fun _ q => .inl q, C3⟩
end
def nd (a n0 : Nat) : Nat := (Builtin.Int.intBits (a : Int) + n0 - 1) / n0
theorem nd_int {a n0 : Nat} (h : 1 ≤ n0) : ((Builtin.Int.intBits (a : Int) : Nat) + (n0 : Int) - 1).fdiv (n0 : Int) = ((nd a n0 : Nat) : Int) := by
  rw [Int.fdiv_eq_ediv_of_nonneg _ (by omega)]
  unfold nd
  rw [Int.natCast_ediv, Int.natCast_sub (by omega)]
  rfl
theorem bits_lt (a : Nat) : a < 2 ^ Builtin.Int.intBits (a : Int) := by
  unfold Builtin.Int.intBits
  split
  · rename_i h
    have : a = 0 := by have := eq_of_beq h; omega
    subst this; decide
  · rename_i h
    rw [Int.natAbs_natCast]
    exact nat_log2_lt a _ (Nat.le_refl _)
theorem nd_lt {a n0 : Nat} (h : 1 ≤ n0) : a < 2 ^ (nd a n0 * n0) := by
  refine Nat.lt_of_lt_of_le (bits_lt a) (Nat.pow_le_pow_right (by decide) ?_)
  unfold nd
  have := Nat.div_add_mod (Builtin.Int.intBits (a : Int) + n0 - 1) n0
  have h2 := Nat.mod_lt (Builtin.Int.intBits (a : Int) + n0 - 1) (show n0 > 0 by omega)
  rw [Nat.mul_comm] at this
  omega
theorem nd_le {a n0 : Nat} (h : 1 ≤ n0) (ha : a < 2 ^ 64) : nd a n0 ≤ 64 := by
  unfold nd
  have := bits64 (a := (a : Int)) (by rw [Int.natAbs_natCast]; exact ha)
  have h2 : (Builtin.Int.intBits (a : Int) + n0 - 1) / n0 ≤ (64 * n0) / n0 := Nat.div_le_div_right (by
    have : 64 * n0 = 63 * n0 + n0 := by omega
    omega)
  rwa [Nat.mul_div_cancel _ (by omega)] at h2
theorem nd_zero {n0 : Nat} (h : 1 ≤ n0) : nd 0 n0 = 0 := by
  unfold nd
  rw [show Builtin.Int.intBits ((0 : Nat) : Int) = 0 by decide]
  exact Nat.div_eq_of_lt (by omega)
theorem nd_pos {a n0 : Nat} (h : 1 ≤ n0) (ha : a ≠ 0) : 0 < nd a n0 := by
  have := nd_lt (a := a) h
  rcases Nat.eq_zero_or_pos (nd a n0) with e | e
  · rw [e] at this; simp at this; omega
  · exact e
abbrev nints (l : List Nat) : List PV := l.map fun (x : Nat) => PV.int (x : Int)
section
variable {prog : Program} {w : World} {d : Adr} {Z : List ZT} {h₀ : Heap}
set_option maxHeartbeats 8000000 in
theorem i2d_pur {a c z : Addr} {x n0 k : Nat} (G : Gl (T0 d) h₀) (B : BiAt h₀) (F : FnC h₀ "_int2digits" a c) (ht : zI c z ∈ Z) (inj : ∀ r ∈ Z, r.z = z → r = zI c z) (hz₀ : ∀ a ∈ zs Z, h₀.get? a = none) (h1 : 1 ≤ n0) (hn0 : n0 ≤ 100) (hx : x < 2 ^ 64) (hk : nd x n0 ≤ 2 ^ k) :
    PurZ prog w Z h₀ (k + 2) [.int (x : Nat), .int (n0 : Nat)] (fun us => call (.ref a) us) (.list (nints (dg n0 x (nd x n0)))) := by
  obtain ⟨o, pm, doc, ho, hd, hcd⟩ := F
  have hK := nd_le (a := x) h1 hx
  have hlt := nd_lt (a := x) h1
  refine PurZ_call (fd := fdOf "_int2digits" pm (.ref c) doc) (names := ["a", "n"]) (rest := ["a_digits", "inner"]) (vs' := [.int (x : Nat), .int (n0 : Nat)]) G ho hd hcd rfl rfl rfl rfl (fun H h us _ hv => ?_) rfl (okNames_spec (by kernel_rfl)) (by decide +kernel) (fun L => ?_) (by kernel_rfl) (by kernel_rfl) (by kernel_rfl)
  · obtain ⟨u1, u2, rfl, _⟩ := hv.two
    exact ⟨[u1, u2], by kernel_rfl, hv⟩
  · refine ExsZ_new (l := List.replicate (nd x n0) 0) (σi := [("a", some (.int (x : Nat))), ("n", some (.int (n0 : Nat)))]) (σ' := fun la => [("a", some (.int (x : Nat))), ("n", some (.int (n0 : Nat))), ("a_digits", some (.raw (.ref la))), ("inner", none)])
      (.cons (.head _) (.cons (.tail _ (.head _)) .nil)) (Ev_to (Ev_bin (Ev_list (xcons Ev_int xnil) (by decide +kernel)) (xdiv (xsubi (xadd (Ev_bitlen xvar (by kernel_rfl) (by kernel_rfl)) xvar) Ev_int) xvar (by rw [beq_eq_false_iff_ne]; omega) (by omega)) (Bin_lmul (by rw [nd_int h1]; omega) (by rw [nd_int h1]; omega))) (by rw [nd_int h1, Int.toNat_natCast, List.map_replicate]))
      (by kernel_rfl) (fun la => .tail (.tail .head)) (by kernel_rfl) fun la hla => ?_
    refine ExsZ_def (t := zI c z) (clos := [("n", L + 1), ("inner", L + 3), ("a_digits", L + 2)]) (σ' := fun f => [("a", some (.int (x : Nat))), ("n", some (.int (n0 : Nat))), ("a_digits", some (.raw (.ref la))), ("inner", some (.raw (.ref f)))]) ht inj hz₀ B (fun f => .tail (.tail (.tail .head))) (by kernel_rfl) (by kernel_rfl) (by kernel_rfl) rfl ?_
    intro h₁ f c' doc' pm' ctv ex hz₁ hf hcr
    have G₁ := G.ext ex
    have fcall : Callable h₁ (.ref f) := .inr (.inr ⟨f, _, _, rfl, hf, rfl⟩)
    have fin : ∀ l : List Int, l = (dg n0 x (nd x n0)).map (fun (x : Nat) => (x : Int)) → Exs prog w (T0 d) h₁ (k + 1) (callEnvC (fdOf "_int2digits" pm (.ref c) doc) L a) [("a", some (.int (x : Nat))), ("n", some (.int (n0 : Nat))), ("a_digits", some (.raw (.ref la))), ("inner", some (.raw (.ref f)))] [(la, l.map .int)] [((dOf "_int2digits").body.getD 3 (.Pass default))] (.ret (.list (nints (dg n0 x (nd x n0))))) := by
      rintro l rfl
      refine Exs_freeze (.tail _ (.tail _ (.head _))) (.tail (.tail .head)) (Exs_stop (Ex1_ret (Ev_to xvar ?_)))
      rw [List.map_map]; rfl
    by_cases h0 : x = 0
    · subst h0
      refine Exs.z (Exs_cons (Ex1_if_f (EvB_val (b := false) xvar (.int _)) Exs_nil) (fin _ ?_))
      rw [nd_zero h1]; rfl
    · have hpos := nd_pos h1 h0
      have inner := i2d_inner (prog := prog) (w := w) (T := T0 d) (la := la) (cl := [("n", L + 1), ("inner", L + 3), ("a_digits", L + 2)]) (n0 := n0) G₁ hf hcr (fun x c h => ?_) (fun x y c h h' => ?_) hn0 k (List.replicate (nd x n0) 0) x 0 (nd x n0) (by rw [List.length_replicate]; omega) hpos (by omega) (by rw [List.length_replicate]; exact Nat.le_refl _) (by simpa using hlt) hx
      · have b : (((x : Nat) : Int) != 0) = true := by rw [bne_iff_ne]; omega
        refine Exs.z (Exs_cons (Ex1_if_t (EvB_val xvar (b ▸ Truth.int _)) (Exs_cons (Ex1_callMF (is := [(x : Int), ((0 : Nat) : Int), ((nd x n0 : Nat) : Int)]) (y := "a_digits") (σ' := [("a", some (.int (x : Nat))), ("n", some (.int (n0 : Nat))), ("a_digits", some (.list ((List.replicate (nd x n0) (0 : Int)).map PV.int))), ("inner", some (.raw (.ref f)))]) xvar fcall (.tail _ (.tail _ (.head _))) (.tail (.tail .head))
          (xcons xvar (xcons Ev_int (xcons (Ev_to (xcall (xbi (.builtin "len")) cbi (xcons xvar xnil) (Pur_len_list (by rw [List.length_map, List.length_replicate]; omega))) (by rw [List.length_map, List.length_replicate])) xnil))) inner ?_) Exs_nil)) (fin _ ?_))
        · intro x p hx
          unfold frI at hx
          rcases List.mem_cons.mp hx with e | hx
          · cases e; exact ⟨.tail _ (.tail _ (.head _)), by rw [show Env.kindOf _ _ = some .cell by kernel_rfl]; decide, by kernel_rfl⟩
          rcases List.mem_cons.mp hx with e | hx
          · cases e; exact ⟨.tail _ (.tail _ (.tail _ (.head _))), by rw [show Env.kindOf _ _ = some .cell by kernel_rfl]; decide, by kernel_rfl⟩
          rcases List.mem_cons.mp hx with e | hx
          · cases e; exact ⟨.tail _ (.head _), by rw [show Env.kindOf _ _ = some .cell by kernel_rfl]; decide, by kernel_rfl⟩
          cases hx
        · unfold put
          simp [dg_len]
      · rcases cl3 h with ⟨rfl, _⟩ | ⟨rfl, _⟩ | ⟨rfl, _⟩ <;> (show _ ∈ (["a_digits", "inner", "n"] : List Str)) <;> decide +kernel
      · rcases cl3 h with ⟨rfl, e⟩ | ⟨rfl, e⟩ | ⟨rfl, e⟩ <;> rcases cl3 h' with ⟨rfl, e'⟩ | ⟨rfl, e'⟩ | ⟨rfl, e'⟩ <;> first | rfl | exact absurd (Nat.add_left_cancel (n := L) (e.symm.trans e')) (by decide)
end
end Mine
end

section
open PySem PySem.W PyProof.Rows
set_option Elab.async false
set_option maxRecDepth 100000
set_option linter.unusedVariables false
namespace Mine
section
variable {prog : Program} {w : World} {T : Tabs} {h₀ : Heap} {n : Nat} {env : Env} {σ : Sto} {own : Own}
theorem EvI_rev {x : Str} {np pos : Pos} {e : PySem.Expr} {ps : List PV} (hn : Ev prog w T h₀ n env σ (.Name x np) (.raw (.type "reversed"))) (he : Ev prog w T h₀ n env σ e (.list ps)) (hst : starEach [e] env = (false, eval e env) :: starEach [] env) (hs : (starEach [e] env).any (·.1) = false) :
    EvI prog w T h₀ n env σ (.Call (.Name x np) [e] [] pos) ps.reverse := fun A H s Q E rm C l hQ => by
  show wpAny _ A (do callWith pos (← eval (.Name x np) env) [] (backTo pos (starEach [e] env)) (backToKw pos (keywordEach [] env))) _ E s
  refine wpAny_bind (hn A H s _ _ rm C l fun v h1 t1 k1 v1 => ?_)
  obtain rfl := v1.raw_inv
  refine callWith_any (backTo_plain hs) (.inr (.inl ⟨_, rfl⟩)) (EvL_cons he EvL_nil hst A H _ pos _ _ rm (C.ext' k1) (l.ext k1) fun vs h2 t2 k2 v2 => ⟨k2, ?_⟩)
  obtain ⟨_, rfl, v3⟩ := v2.one
  obtain ⟨a, vs, rfl, ha, pl, lv⟩ := v3.list_inv
  refine call_reversed_list pl.isList ?_
  have e1 : h2.get? h2.objs.size = none := get_none (Nat.le_refl _)
  have na : a ≠ h2.objs.size := fun q => by obtain ⟨k, z⟩ := pl; rw [q, e1] at z; cases z
  have k3 := Ext.push h2 (revObj a ((vs.toArray.size : Int) - 1))
  have hw := (Walks.listRev (prog := prog) (w := w) (A := A) rm.hh h2.objs.size a na vs.toArray).bound
  rw [show vs.toArray.size = ps.reverse.length by rw [List.size_toArray, lv.length, List.length_reverse]] at hw
  have hlen : ps.reverse.length = vs.length := by rw [List.length_reverse, lv.length]
  have hit : (h2.push (revObj a ((vs.toArray.size : Int) - 1))).IsRevIter h2.objs.size a ((vs.toArray.size : Int) - 1) := ⟨_, Heap.get?_push_size _ rfl, rfl, rfl⟩
  refine wpAny_pyIter_revIter hit (hQ h2.objs.size _ t2 (k1.trans (k2.trans k3)) ?_ ⟨_, _, _, hw, ⟨Nat.zero_le _, ?_, (pl.at fun o e => k3 _ _ e).isList⟩, ?_, ?_, ⟨_, Heap.get?_push_size _ rfl⟩, (fun i h' st => let ⟨o, e, _⟩ := st.2.1; ⟨o, e⟩), ?_⟩)
  · cases e2 : s.heap.get? h2.objs.size with
    | none => rfl
    | some o => have := (k1.trans k2) _ _ e2; rw [e1] at this; cases this
  · rw [show ((ps.reverse.length : Nat) : Int) - 1 - ((0 : Nat) : Int) = (vs.toArray.size : Int) - 1 by rw [hlen, List.size_toArray]; omega]
    exact hit
  · intro b hb
    simp at hb
    rcases hb with rfl | rfl
    · exact .inl rfl
    · exact .inr ha
  · intro b hb
    simp at hb
    rcases hb with rfl | rfl
    · exact ⟨_, Heap.get?_push_size _ rfl⟩
    · obtain ⟨k, z⟩ := pl; exact ⟨_, k3 _ _ z⟩
  · rintro i v ⟨hi, hv⟩
    obtain ⟨p, h1, h2'⟩ := lv.get' (by simpa using hv)
    refine ⟨p, ?_, (h2'.wide (H' := _ :: H) fun c q => (List.mem_cons.mp q).elim (fun z => .inr (z ▸ e1)) .inl).ext k3⟩
    rw [List.getElem?_reverse (by rw [← List.length_reverse]; exact hi), ← h1]

theorem Ex1_mappend {x : Str} {p1 ap cp pos : Pos} {e : PySem.Expr} {a : Addr} {ps : List PV} {p : PV} (hx : List.Mem (x, some (.raw (.ref a))) σ) (he : Ev prog w T h₀ n env σ e p) (hsz : ps.length ≤ 1000000) (hd : (x == ("__debug__" : Str)) = false) (hst : starEach [e] env = [(false, eval e env)])
    (hbase : attributeBase (.Name x p1) (Str.ofString "append") env (eval (.Name x p1) env) = eval (.Name x p1) env) (hline : (ap.endLine == cp.line) = true)
    (hi : interactive env = false) (hs : swapsWith (.Call (.Attribute (.Name x p1) (Str.ofString "append") ap) [e] [] cp) none pos.line env = pure false) :
    Ex1 prog w T h₀ n env σ ((a, ps) :: own) (.Expr (.Call (.Attribute (.Name x p1) (Str.ofString "append") ap) [e] [] cp) pos) (.next σ ((a, ps ++ [p]) :: own)) := fun A H W s Q E rm C hQ => by
  refine wpAny_Expr (hi := hi) (hs := hs) (Call_method1 hbase hst hline (Ev_var hx hd A (W ++ H) s _ E rm C.E C.L fun v h1 t1 k1 v1 => ?_))
  obtain rfl := v1.raw_inv
  have C1 := C.ext k1
  obtain ⟨aW1, vs1, ⟨kk1, pl1⟩, lv1⟩ := C1.O (a, ps) List.mem_cons_self
  refine ⟨"list", "list.append", F.plainAttrs_list, F.slot_list_append, F.type_list_append, ⟨_, pl1, rfl⟩, (fun b e => by cases e; exact ⟨_, pl1, rfl⟩), P.append_list (he A (W ++ H) _ _ _ rm C1.E C1.L fun z h2 t2 k2 z1 => ?_)⟩
  have C2 := C1.ext k2
  obtain ⟨aW, vs, ⟨kk, pl⟩, lv⟩ := C2.O (a, ps) List.mem_cons_self
  have sz : vs.toArray.size ≤ sizeLine := by rw [List.size_toArray, lv.length]; exact size_of hsz
  refine ⟨vs.toArray, kk, sz, pl, ?_⟩
  have sb : Heap.SameBut a h2 (h2.update a (Obj.mapSeq fun xs => xs.push z)) := Heap.SameBut.update ..
  have pl3 : (h2.update a (Obj.mapSeq fun xs => xs.push z)).PlainList a (vs ++ [z]).toArray := by
    have := IsL.update (h := h2) (l := a) (items := vs.toArray) (n := kk) pl (fun xs => xs.push z)
    exact ⟨_, by simpa using this⟩
  exact hQ .next _ t2 (KeepsOff.trans (.ext (k1.trans k2)) (own_keep aW sb)) ⟨rfl, W, fun _ q => q, fun _ q => .inl q, Ctx.ownAt (vs := vs) C2 pl3 (lv.append (.cons z1 .nil)) sb⟩
theorem Ex1_mreverse {x : Str} {p1 ap cp pos : Pos} {a : Addr} {ps : List PV} (hx : List.Mem (x, some (.raw (.ref a))) σ) (hsz : ps.length ≤ 1000000) (hd : (x == ("__debug__" : Str)) = false)
    (hbase : attributeBase (.Name x p1) (Str.ofString "reverse") env (eval (.Name x p1) env) = eval (.Name x p1) env) (hline : (ap.endLine == cp.line) = true)
    (hi : interactive env = false) (hs : swapsWith (.Call (.Attribute (.Name x p1) (Str.ofString "reverse") ap) [] [] cp) none pos.line env = pure false) :
    Ex1 prog w T h₀ n env σ ((a, ps) :: own) (.Expr (.Call (.Attribute (.Name x p1) (Str.ofString "reverse") ap) [] [] cp) pos) (.next σ ((a, ps.reverse) :: own)) := fun A H W s Q E rm C hQ => by
  refine wpAny_Expr (hi := hi) (hs := hs) (Call_method0 hbase hline (Ev_var hx hd A (W ++ H) s _ E rm C.E C.L fun v h1 t1 k1 v1 => ?_))
  obtain rfl := v1.raw_inv
  have C1 := C.ext k1
  obtain ⟨aW, vs, ⟨kk, pl⟩, lv⟩ := C1.O (a, ps) List.mem_cons_self
  have sz : vs.toArray.size ≤ sizeLine := by rw [List.size_toArray, lv.length]; exact size_of hsz
  refine ⟨"list", "list.reverse", F.plainAttrs_list, F.slot_list_reverse, F.type_list_reverse, ⟨_, pl, rfl⟩, (fun b e => by cases e; exact ⟨_, pl, rfl⟩), P.reverse_list pl ?_ sz⟩
  have sb : Heap.SameBut a h1 (h1.update a (Obj.mapSeq fun xs => xs.reverse)) := Heap.SameBut.update ..
  have pl3 : (h1.update a (Obj.mapSeq fun xs => xs.reverse)).PlainList a vs.reverse.toArray := by
    have := IsL.update (h := h1) (l := a) (items := vs.toArray) (n := kk) pl (fun xs => xs.reverse)
    exact ⟨_, by simpa using this⟩
  exact hQ .next _ t1 (KeepsOff.trans (.ext k1) (own_keep aW sb)) ⟨rfl, W, fun _ q => q, fun _ q => .inl q, Ctx.ownAt (vs := vs) C1 pl3 lv.reverse sb⟩
end
end Mine
end

section
open PySem PySem.W PyProof.Rows
set_option Elab.async false
set_option maxRecDepth 100000
set_option linter.unusedVariables false
namespace Mine
structure Top1 (d : Adr) (Z : List ZT) (h₀ : Heap) : Prop where
  t : Top0 d h₀
  enc : EncAt h₀ d.enc
  bi : BiAt h₀
  d2 : FnAt h₀ "_div2n1n" d.d2
  dmp : FnAt h₀ "_divmod_pos" d.dmp
  idm : FnAt h₀ "int_divmod" d.idm
  cut : FnAt h₀ "_law_cut" d.cut
  letters : FnAt h₀ "_law_letters" d.letters
  clausen : FnAt h₀ "_law_clausen" d.clausen
  i2d : ∃ c z, FnC h₀ "_int2digits" d.i2d c ∧ zI c z ∈ Z ∧ ∀ r ∈ Z, r.z = z → r = zI c z
  d2i : ∃ c z, FnC h₀ "_digits2int" d.d2i c ∧ zD c z ∈ Z ∧ ∀ r ∈ Z, r.z = z → r = zD c z
  hz₀ : ∀ a ∈ zs Z, h₀.get? a = none
theorem FnC.callable {h₀ : Heap} {name : Str} {a c : Addr} (F : FnC h₀ name a c) : Callable h₀ (.ref a) := let ⟨o, _, _, ho, hd, _⟩ := F; .inr (.inr ⟨a, o, _, rfl, ho, hd⟩)
def dmF (b n : Nat) (ds : List Nat) : Nat × List Nat := ds.foldl (fun q d => ((q.1 * 2 ^ n + d) % b, q.2 ++ [(q.1 * 2 ^ n + d) / b])) (0, [])
theorem dmF_app (b n : Nat) (ds : List Nat) (d : Nat) : dmF b n (ds ++ [d]) = (((dmF b n ds).1 * 2 ^ n + d) % b, (dmF b n ds).2 ++ [((dmF b n ds).1 * 2 ^ n + d) / b]) := by
  unfold dmF; rw [List.foldl_append]; rfl
theorem snocInd {P : List Nat → Prop} (h0 : P []) (h1 : ∀ l a, P l → P (l ++ [a])) (l : List Nat) : P l := by
  have key : ∀ l : List Nat, P l.reverse := fun l => by
    induction l with
    | nil => exact h0
    | cons a l ih => rw [List.reverse_cons]; exact h1 _ _ ih
  have := key l.reverse
  rwa [List.reverse_reverse] at this
theorem dmF_len (b n : Nat) : ∀ ds : List Nat, (dmF b n ds).2.length = ds.length := by
  intro ds
  induction ds using snocInd with
  | h0 => rfl
  | h1 ds d ih => rw [dmF_app, List.length_append, List.length_append, ih]; rfl
theorem dmF_lt {b : Nat} (n : Nat) (hb : 0 < b) (ds : List Nat) : (dmF b n ds).1 < b := by
  induction ds using snocInd with
  | h0 => exact hb
  | h1 ds d ih => rw [dmF_app]; exact Nat.mod_lt _ hb
def bl (b : Nat) : Nat := Builtin.Int.intBits (b : Int)
abbrev dmDs (a b : Nat) : List Nat := (dg (bl b) a (nd a (bl b))).reverse
def dmQ (a b : Nat) : Nat := dv (bl b) (dmF b (bl b) (dmDs a b)).2.reverse
def dmR (a b : Nat) : Nat := (dmF b (bl b) (dmDs a b)).1
theorem dg_lt (n : Nat) : ∀ (k x : Nat), ∀ y ∈ dg n x k, y < 2 ^ n
  | 0, x, y, h => by simp [dg] at h
  | k + 1, x, y, h => by
    rw [dg] at h
    rcases List.mem_cons.mp h with rfl | h
    · exact Nat.mod_lt _ (Nat.pos_of_ne_zero (by simp))
    · exact dg_lt n k _ y h
section
variable {prog : Program} {w : World} {T : Tabs} {d : Adr} {Z : List ZT} {h₀ : Heap} {n : Nat} {env : Env} {σ : Sto} {own : Own}
theorem xgi {x : Str} {i : Int} {t : Tok} {pos : Pos} (h : List.Mem (x, .int i t) T.g := by with_reducible repeat (first | exact .head _ | apply List.Mem.tail)) (hk : env.kindOf x = some .globalImplicit := by kernel_rfl) (hd : (x == ("__debug__" : Str)) = false := by kernel_rfl) : Ev prog w T h₀ n env σ (.Name x pos) (.int i) := Ev_glob h hk (fun _ _ => .int _ _) hd
set_option maxHeartbeats 8000000 in
theorem d2_pur (t : Top1 d Z h₀) {a b m : Nat} (ha : a < 2 ^ 64) (hb0 : 0 < b) (hb : b < 2 ^ 30) (hm : m ≤ 100) : Pur prog w h₀ (n + 1) [.int (a : Nat), .int (b : Nat), .int (m : Nat)] (fun us => call (.ref d.d2) us) (.tup [.int ((a / b : Nat) : Int), .int ((a % b : Nat) : Int)]) := by
  refine Fn3 (x1 := "a") (x2 := "b") (x3 := "n") [] t.t.G t.d2 fun L pm cd doc => ?_
  have hbits := bits64 (a := (a : Int)) (by rw [Int.natAbs_natCast]; exact ha)
  have c : decide (((Builtin.Int.intBits (a : Int) : Nat) : Int) - (m : Int) ≤ 4000) = true := decide_eq_true (by omega)
  refine Exs_stop (Ex1_if_t (xcmp (xsubi (Ev_bitlen xvar (by kernel_rfl) (by kernel_rfl)) xvar) xgi (c ▸ Cmp_le)) (Exs_stop (Ex1_ret (Ev_to (xcall (xbi (.builtin "divmod")) cbi (xcons xvar (xcons xvar xnil)) (Pur_divmod (by omega) (by rw [Bool.eq_false_iff]; exact noP (by omega)))) ?_))))
  rw [Int.fdiv_eq_ediv_of_nonneg _ (by omega), Int.fmod_eq_emod_of_nonneg _ (by omega), Int.natCast_ediv, Int.natCast_emod]
set_option maxHeartbeats 16000000 in
theorem dmp_pur (t : Top1 d Z h₀) {a b k : Nat} (ha : a < 2 ^ 64) (hb0 : 0 < b) (hb : b < 2 ^ 30) (hbl1 : 1 ≤ bl b) (hbl : bl b ≤ 30) (hk : nd a (bl b) ≤ 2 ^ k) (hq : dmQ a b < 2 ^ 64) :
    PurZ prog w Z h₀ (k + 3) [.int (a : Nat), .int (b : Nat)] (fun us => call (.ref d.dmp) us) (.tup [.int (dmQ a b : Nat), .int (dmR a b : Nat)]) := by
  obtain ⟨o, pm, cd, doc, ho, hd, hcd⟩ := t.dmp
  obtain ⟨c1, z1, F1, i1, j1⟩ := t.i2d
  obtain ⟨c2, z2, F2, i2, j2⟩ := t.d2i
  have hK := nd_le (a := a) hbl1 ha
  generalize hN : bl b = N at *
  refine PurZ_call (fd := fdOf "_divmod_pos" pm cd doc) (names := ["a", "b"]) (rest := ["n", "a_digits", "r", "q_digits", "a_digit", "q_digit", "q"]) (vs' := [.int (a : Nat), .int (b : Nat)]) t.t.G ho hd hcd rfl rfl rfl rfl (fun H h us _ hv => ?_) rfl (okNames_spec (by kernel_rfl)) (by decide +kernel) (fun L => ?_) (by kernel_rfl) (by kernel_rfl) (by kernel_rfl)
  · obtain ⟨u1, u2, rfl, _⟩ := hv.two
    exact ⟨[u1, u2], by kernel_rfl, hv⟩
  · show ExsZ prog w (T0 d) Z h₀ (k + 2) _ [("a", some (.int (a : Nat))), ("b", some (.int (b : Nat))), ("n", none), ("a_digits", none), ("r", none), ("q_digits", none), ("a_digit", none), ("q_digit", none), ("q", none)] [] _ _
    refine ExsZ_cons (Ex1.z (xassign (p := .int (N : Nat)) (Ev_to (Ev_bitlen xvar (by kernel_rfl) (by kernel_rfl)) (by rw [← hN]; rfl)))) ?_
    refine ExsZ_cons (Ex1Z_assign (p := .list (nints (dg N a (nd a N)))) (EvZ_call t.hz₀ xfn F1.callable (xcons xvar (xcons xvar xnil)) (i2d_pur t.t.G t.bi F1 i1 j1 t.hz₀ hbl1 (by omega) ha hk) (by kernel_rfl)) (.tail (.tail (.tail .head))) (by kernel_rfl) (by kernel_rfl)) ?_
    refine ExsZ_cons (Ex1.z (xassign (p := .int ((0 : Nat) : Int)) Ev_int)) ?_
    refine ExsZ_new (l := []) (σi := []) (σ' := fun la => [("a", some (.int (a : Nat))), ("b", some (.int (b : Nat))), ("n", some (.int (N : Nat))), ("a_digits", some (.list (nints (dg N a (nd a N))))), ("r", some (.int ((0 : Nat) : Int))), ("q_digits", some (.raw (.ref la))), ("a_digit", none), ("q_digit", none), ("q", none)])
      .nil (Ev_list xnil (by decide +kernel)) (by kernel_rfl) (fun la => .tail (.tail (.tail (.tail (.tail .head))))) (by kernel_rfl) fun la hla => ?_
    generalize hds : dg N a (nd a N) = ds
    have dslen : ds.length ≤ 64 := by rw [← hds, dg_len]; exact hK
    have dslt : ∀ y ∈ ds, y < 2 ^ N := by rw [← hds]; exact dg_lt N _ _
    let st := fun i => dmF b N (ds.reverse.take i)
    let σs : Nat → Sto := fun i => [("a", some (.int (a : Nat))), ("b", some (.int (b : Nat))), ("n", some (.int (N : Nat))), ("a_digits", some (.list (nints ds))), ("r", some (.int ((st i).1 : Nat))), ("q_digits", some (.raw (.ref la))), ("a_digit", none), ("q_digit", none), ("q", none)]
    refine ExsZ_cons (Ex1.z (Ex1_for (ps := (nints ds).reverse) σs (fun i => [(la, nints (st i).2)]) (EvI_rev (xbi (.type "reversed")) xvar (by kernel_rfl) (by kernel_rfl)) (by kernel_rfl) ?_)) ?_
    · intro i p hp
      rw [← List.map_reverse, List.getElem?_map] at hp
      cases hx : ds.reverse[i]? with
      | none => rw [hx] at hp; cases hp
      | some x =>
        rw [hx] at hp
        cases hp
        have hxm : x ∈ ds := List.mem_reverse.mp (List.mem_of_getElem? hx)
        have hxl := dslt x hxm
        have hil : i < ds.reverse.length := (List.getElem?_eq_some_iff.mp hx).1
        have hst : st (i + 1) = (((st i).1 * 2 ^ N + x) % b, (st i).2 ++ [((st i).1 * 2 ^ N + x) / b]) := by
          show dmF b N (ds.reverse.take (i + 1)) = _
          rw [List.take_add_one, hx]
          exact dmF_app b N _ _
        have hr : (st i).1 < b := dmF_lt N hb0 _
        have hql : (st i).2.length ≤ 64 := by
          show (dmF b N (ds.reverse.take i)).2.length ≤ 64
          rw [dmF_len, List.length_take, List.length_reverse]; omega
        have hpow : 2 ^ N ≤ 2 ^ 30 := Nat.pow_le_pow_right (by decide) hbl
        have hmul : (st i).1 * 2 ^ N ≤ 2 ^ 30 * 2 ^ 30 := Nat.mul_le_mul (by omega) hpow
        have hbig : (st i).1 * 2 ^ N + x < 2 ^ 64 := by omega
        generalize hS : st i = S at *
        refine ⟨[("a", some (.int (a : Nat))), ("b", some (.int (b : Nat))), ("n", some (.int (N : Nat))), ("a_digits", some (.list (nints ds))), ("r", some (.int ((st i).1 : Nat))), ("q_digits", some (.raw (.ref la))), ("a_digit", some (.int (x : Nat))), ("q_digit", none), ("q", none)], .tail (.tail (.tail (.tail (.tail (.tail .head))))), ?_⟩
        rw [hS]
        refine Exs_cons (Ex1_tup2 (p1 := .int (((S.1 * 2 ^ N + x) / b : Nat) : Int)) (p2 := .int (((S.1 * 2 ^ N + x) % b : Nat) : Int)) (xcall xfn t.d2.callable (xcons (Ev_to (xadd (xshl (a := (S.1 : Nat)) (b := (N : Nat)) xvar xvar (by omega) (by omega) (by rw [Int.natAbs_natCast]; omega)) xvar) ?_) (xcons xvar (xcons xvar xnil))) (d2_pur (n := k + 1) t hbig hb0 hb (by omega)))) ?_
        · rw [Int.toNat_natCast]; push_cast; rfl
        · refine Exs_cons (Ex1_mappend (by repeat (first | exact .head _ | apply List.Mem.tail)) xvar (by rw [List.length_map]; omega) (by kernel_rfl) (by kernel_rfl) (by kernel_rfl) (by kernel_rfl) (by kernel_rfl) (by kernel_rfl)) ?_
          have e1 : nints S.2 ++ [PV.int (((S.1 * 2 ^ N + x) / b : Nat) : Int)] = nints (st (i + 1)).2 := by rw [hst]; simp [nints]
          have e2 : (S.1 * 2 ^ N + x) % b = (st (i + 1)).1 := by rw [hst]
          rw [e1, e2]
          exact Exs_end
    · have hfin : st (nints ds).reverse.length = dmF b N ds.reverse := by
        show dmF b N (ds.reverse.take _) = _
        rw [List.take_of_length_le (by simp)]
      have eQ : dmQ a b = dv N (dmF b N ds.reverse).2.reverse := by unfold dmQ dmDs; rw [hN, hds]
      have eR : dmR a b = (dmF b N ds.reverse).1 := by unfold dmR dmDs; rw [hN, hds]
      have hql : (dmF b N ds.reverse).2.length ≤ 64 := by rw [dmF_len, List.length_reverse]; exact dslen
      have hql' : (dmF b N ds.reverse).2.length = nd a N := by rw [dmF_len, List.length_reverse, ← hds, dg_len]
      show ExsZ prog w (T0 d) Z h₀ (k + 2) _ [("a", some (.int (a : Nat))), ("b", some (.int (b : Nat))), ("n", some (.int (N : Nat))), ("a_digits", some (.list (nints ds))), ("r", some (.int ((st (nints ds).reverse.length).1 : Nat))), ("q_digits", some (.raw (.ref la))), ("a_digit", none), ("q_digit", none), ("q", none)] [(la, nints (st (nints ds).reverse.length).2)] _ _
      rw [hfin, ← eR]
      rw [eQ] at hq
      rw [eQ]
      generalize (dmF b N ds.reverse).2 = qs at *
      refine ExsZ_cons (Ex1.z (Ex1_mreverse (by repeat (first | exact .head _ | apply List.Mem.tail)) (by rw [List.length_map]; omega) (by kernel_rfl) (by kernel_rfl) (by kernel_rfl) (by kernel_rfl) (by kernel_rfl))) ?_
      have e3 : (nints qs).reverse = nints qs.reverse := by simp [nints]
      rw [e3]
      refine ExsZ_freeze (x := "q_digits") (by repeat (first | exact .head _ | apply List.Mem.tail)) (.tail (.tail (.tail (.tail (.tail .head))))) ?_
      refine ExsZ_cons (Ex1Z_assign (p := .int (dv N qs.reverse : Nat)) (EvZ_call t.hz₀ xfn F2.callable (xcons xvar (xcons xvar xnil)) (d2i_pur t.t.G t.bi F2 i2 j2 t.hz₀ (by omega) (by rw [List.length_reverse]; omega) (by rw [List.length_reverse, hql']; exact hk) hq) (by kernel_rfl)) (.tail (.tail (.tail (.tail (.tail (.tail (.tail (.tail .head)))))))) (by kernel_rfl) (by kernel_rfl)) ?_
      exact ExsZ_stop (Ex1.z (Ex1_ret (Ev_tuple (xcons xvar (xcons xvar xnil)) (size_of (by simp)))))
set_option maxHeartbeats 8000000 in
theorem idm_pur (t : Top1 d Z h₀) {a b k : Nat} (ha : a < 2 ^ 64) (hb0 : 0 < b) (hb : b < 2 ^ 30) (hbl1 : 1 ≤ bl b) (hbl : bl b ≤ 30) (hk : nd a (bl b) ≤ 2 ^ k) (hq : dmQ a b < 2 ^ 64) :
    PurZ prog w Z h₀ (k + 4) [.int (a : Nat), .int (b : Nat)] (fun us => call (.ref d.idm) us) (.tup [.int (dmQ a b : Nat), .int (dmR a b : Nat)]) := by
  obtain ⟨o, pm, cd, doc, ho, hd, hcd⟩ := t.idm
  refine PurZ_call (fd := fdOf "int_divmod" pm cd doc) (names := ["a", "b"]) (rest := []) (vs' := [.int (a : Nat), .int (b : Nat)]) t.t.G ho hd hcd rfl rfl rfl rfl (fun H h us _ hv => ?_) rfl (okNames_spec (by kernel_rfl)) (by decide +kernel) (fun L => ?_) (by kernel_rfl) (by kernel_rfl) (by kernel_rfl)
  · obtain ⟨u1, u2, rfl, _⟩ := hv.two
    exact ⟨[u1, u2], by kernel_rfl, hv⟩
  · show ExsZ prog w (T0 d) Z h₀ (k + 3) _ [("a", some (.int (a : Nat))), ("b", some (.int (b : Nat)))] [] _ _
    have c1 : ((b : Int) == 0) = false := by rw [beq_eq_false_iff_ne]; omega
    have c2 : decide ((b : Int) < 0) = false := decide_eq_false (by omega)
    have c3 : decide ((a : Int) < 0) = false := decide_eq_false (by omega)
    exact ExsZ_stop (Ex1Z_if_f (xcmp xvar Ev_int (c1 ▸ Cmp_eq)) (ExsZ_stop (Ex1Z_if_f (xcmp xvar Ev_int (c2 ▸ Cmp_lt)) (ExsZ_stop (Ex1Z_if_f (xcmp xvar Ev_int (c3 ▸ Cmp_lt)) (ExsZ_stop (Ex1Z_ret (EvZ_call t.hz₀ xfn t.dmp.callable (xcons xvar (xcons xvar xnil)) (dmp_pur t ha hb0 hb hbl1 hbl hk hq) (by kernel_rfl)))))))))
end
end Mine
end

section
open PySem PySem.W PyProof.Rows PySem.Builtin PySem.Builtin.Str
set_option Elab.async false
set_option maxRecDepth 100000
set_option linter.unusedVariables false
namespace Mine
def S (l : List Nat) : Str := ⟨l.toArray⟩
theorem S_of (x : Str) : x = S x.cps.toList := by cases x; simp [S]
theorem S_len (l : List Nat) : (S l).length = l.length := by simp [S, Str.length]
theorem S_list (l : List Nat) : (S l).cps.toList = l := by simp [S]
theorem S_inj {a b : List Nat} : S a = S b ↔ a = b := ⟨fun h => by have := congrArg (fun x : Str => x.cps.toList) h; simpa [S] using this, fun h => by rw [h]⟩
theorem S_app (a b : List Nat) : S a ++ S b = S (a ++ b) := by
  show Str.mk _ = Str.mk _
  simp [S]
theorem pick_str (x : Str) (lo hi : Option Int) : pick x.cps.toList lo hi none = (strSliceIndices lo hi 1 x.length).filterMap (x.cps[·]?) := by
  have hn : x.cps.toList.length = x.length := by simp [Str.length]
  unfold pick
  rw [hn]
  have e : strSliceIndices lo hi 1 x.length = sliceRange (sliceBounds lo hi none x.length).1 (sliceBounds lo hi none x.length).2.1 (sliceBounds lo hi none x.length).2.2 := by
    cases lo <;> cases hi <;> rfl
  rw [e]
  congr 1
  funext i
  simp
theorem idx_len (lo hi : Option Int) (n : Nat) : (strSliceIndices lo hi 1 n).length = hi.elim n (clipAt n) - lo.elim 0 (clipAt n) := by
  have e : strSliceIndices lo hi 1 n = sliceRange (sliceBounds lo hi none n).1 (sliceBounds lo hi none n).2.1 (sliceBounds lo hi none n).2.2 := by
    cases lo <;> cases hi <;> rfl
  rw [e, sliceBounds_plain]
  dsimp only
  rw [sliceRange_one, List.length_map, List.length_range]
theorem clip_le (n : Nat) (o : Option Int) (k : Nat) (hk : k ≤ n) : o.elim k (clipAt n) ≤ n := by
  cases o with
  | none => exact hk
  | some i =>
    show clipAt n i ≤ n
    have := clipAt_cast n i
    omega
theorem slice_eq (x : Str) (lo hi : Option Int) : Txt.slice x lo hi = S (pick x.cps.toList lo hi none) := by
  unfold Txt.slice
  split
  · rename_i h
    have h2 : (strSliceIndices lo hi 1 x.length).length = x.length := by simpa using h
    rw [idx_len] at h2
    have hn : x.cps.toList.length = x.length := by simp [Str.length]
    rw [pick_fwd, hn]
    have ha := clip_le x.length lo 0 (Nat.zero_le _)
    have hb := clip_le x.length hi x.length (Nat.le_refl _)
    generalize lo.elim 0 (clipAt x.length) = a at *
    generalize hi.elim x.length (clipAt x.length) = b at *
    by_cases h0 : x.length = 0
    · have : x.cps.toList = [] := List.length_eq_zero_iff.mp (by omega)
      rw [this]
      have hx : x.cps = #[] := Array.eq_empty_of_size_eq_zero h0
      cases x
      simp only at hx
      simp [S, hx]
    · have a0 : a = 0 := by omega
      have b0 : b = x.length := by omega
      rw [a0, b0, List.drop_zero, Nat.sub_zero, List.take_of_length_le (by omega)]
      exact S_of x
  · rw [pick_str]; rfl
theorem slice_S (l : List Nat) (a b : Nat) (h : a ≤ b) (hb : b ≤ l.length) : Txt.slice (S l) (some (a : Int)) (some (b : Int)) = S ((l.drop a).take (b - a)) := by
  rw [slice_eq, S_list, pick_fwd]
  show S ((l.drop (clipAt l.length a)).take (clipAt l.length b - clipAt l.length a)) = _
  rw [clipAt_nat, clipAt_nat, Nat.min_eq_left (show a ≤ l.length by omega), Nat.min_eq_left hb]
theorem slice_from (l : List Nat) (a : Nat) (ha : a ≤ l.length) : Txt.slice (S l) (some (a : Int)) none = S (l.drop a) := by
  rw [slice_eq, S_list, pick_fwd]
  show S ((l.drop (clipAt l.length a)).take (l.length - clipAt l.length a)) = _
  rw [clipAt_nat, Nat.min_eq_left ha, List.take_of_length_le (by rw [List.length_drop]; omega)]
theorem slice_to (l : List Nat) (b : Nat) (hb : b ≤ l.length) : Txt.slice (S l) none (some (b : Int)) = S (l.take b) := by
  rw [slice_eq, S_list, pick_fwd]
  show S ((l.drop 0).take (clipAt l.length b - 0)) = _
  rw [clipAt_nat, Nat.min_eq_left hb, List.drop_zero, Nat.sub_zero]
theorem slice_butlast (l : List Nat) (a : Nat) (ha : a ≤ l.length) : Txt.slice (S l) (some (a : Int)) (some (-1)) = S ((l.drop a).take (l.length - 1 - a)) := by
  rw [slice_eq, S_list, pick_fwd]
  show S ((l.drop (clipAt l.length a)).take (clipAt l.length (-1) - clipAt l.length a)) = _
  rw [clipAt_nat, Nat.min_eq_left ha, show clipAt l.length (-1) = l.length - 1 from clipAt_neg l.length 1 (by decide)]
theorem item_S (l : List Nat) (i : Nat) (hi : i < l.length) : Txt.item (S l) (i : Int) = S [l[i]] := by
  unfold Txt.item Txt.charAt
  have h1 : seqIndex? (i : Int) (S l).length = some i := by
    rw [S_len]
    have hn : ¬ ((i : Int) < 0) := by omega
    unfold seqIndex?
    simp [hn, hi]
  rw [h1]
  simp [S, hi]
theorem item_last_S (l : List Nat) (x : Nat) : Txt.item (S (l ++ [x])) (-1) = S [x] := by
  unfold Txt.item Txt.charAt
  have h1 : seqIndex? (-1) (S (l ++ [x])).length = some l.length := by
    rw [S_len, List.length_append, List.length_singleton]
    unfold seqIndex?
    simp
    omega
  rw [h1]
  simp [S]
end Mine
end

section
open PySem PySem.W PyProof.Rows
set_option Elab.async false
set_option maxRecDepth 100000
set_option linter.unusedVariables false
namespace Mine
theorem item_ne (L : List Nat) (j : Int) (p : Nat) (hj : j = (p : Int)) (hp : p < L.length) : (Txt.item (S L) j == ("=" : Str)) = (L[p]? == some 61) := by
  subst hj
  rw [item_S L p hp, List.getElem?_eq_getElem hp]
  have e : ("=" : Str) = S [61] := by decide +kernel
  rw [e, Bool.eq_iff_iff, beq_iff_eq, beq_iff_eq, S_inj]
  simp
theorem eq_S : ("=" : Str) = S [61] := by decide +kernel
theorem step_row {L : List Nat} {w e i more : Nat} (hw : 3 ≤ w) (he : 1 ≤ e) (hm : more = 1 ∨ more = 2 ∨ more = 3) (hp : w * (i + e) < L.length) (h0 : L[w * (i + e)]? = some 61) (h2 : L[w * (i + e) - 2]? ≠ some 61) (h1 : L[w * (i + e) - 1]? ≠ some 61) :
    stepW (S L) (((w * e + more : Nat) : Int) - 1) ((w * i : Nat) : Int) = (S ((L.drop (w * i)).take (w * e) ++ [61]), ((w * (i + e) : Nat) : Int)) := by
  have hwe : w * (i + e) = w * i + w * e := Nat.mul_add _ _ _
  have hwe3 : 3 ≤ w * e := Nat.le_trans hw (Nat.le_mul_of_pos_right w he)
  generalize hP : w * (i + e) = p at *
  generalize hI : w * i = s at *
  generalize hE : w * e = k at *
  have h61 : (L[p]? == some 61) = true := by rw [h0]; rfl
  have t1 : (L.drop s).take (k + 1) = (L.drop s).take k ++ [61] := by
    rw [List.take_add_one, List.getElem?_drop, ← hwe, h0]
    rfl
  unfold stepW
  rcases hm with rfl | rfl | rfl
  · rw [item_ne L _ (p - 2) (by omega) (by omega), item_ne L _ (p - 1) (by omega) (by omega)]
    rw [if_neg (by simpa using h2), if_neg (by simpa using h1)]
    have e1 : ((s : Nat) : Int) + (((k + 1 : Nat) : Int) - 1) = ((p : Nat) : Int) := by omega
    rw [e1, slice_S L s p (by omega) (by omega), eq_S, S_app, show p - s = k by omega]
  · rw [item_ne L _ (p - 1) (by omega) (by omega), item_ne L _ p (by omega) hp]
    rw [if_neg (by simpa using h1), if_pos h61]
    have e1 : ((s : Nat) : Int) + (((k + 2 : Nat) : Int) - 1) = ((p + 1 : Nat) : Int) := by omega
    have e2 : ((p + 1 : Nat) : Int) - 1 = ((p : Nat) : Int) := by omega
    rw [e1, slice_S L s (p + 1) (by omega) (by omega), show p + 1 - s = k + 1 by omega, t1, e2]
  · rw [item_ne L _ p (by omega) hp]
    rw [if_pos h61]
    have e1 : ((s : Nat) : Int) + (((k + 3 : Nat) : Int) - 1) - 1 = ((p + 1 : Nat) : Int) := by omega
    have e2 : ((s : Nat) : Int) + (((k + 3 : Nat) : Int) - 1) - 2 = ((p : Nat) : Int) := by omega
    rw [e1, e2, slice_S L s (p + 1) (by omega) (by omega), show p + 1 - s = k + 1 by omega, t1]

structure Bk (w : Nat) (b : List Nat) : Prop where
  len : b.length = w
  head : b[0]? = some 61
  pen : b[w - 2]? ≠ some 61
  last : b[w - 1]? ≠ some 61
theorem flat_len {w : Nat} : ∀ {bs : List (List Nat)}, (∀ b ∈ bs, b.length = w) → bs.flatten.length = w * bs.length
  | [], _ => by simp
  | b :: r, h => by
    rw [List.flatten_cons, List.length_append, flat_len fun x q => h x (List.mem_cons_of_mem _ q), h b List.mem_cons_self, List.length_cons, Nat.mul_succ]
    omega
theorem flat_get {w : Nat} : ∀ {bs : List (List Nat)}, (∀ b ∈ bs, b.length = w) → ∀ (i j : Nat) (b : List Nat), bs[i]? = some b → j < w → bs.flatten[w * i + j]? = b[j]?
  | [], _, i, j, b, e, _ => by simp at e
  | c :: r, h, 0, j, b, e, hj => by
    simp only [List.getElem?_cons_zero, Option.some.injEq] at e
    subst e
    rw [List.flatten_cons, Nat.mul_zero, Nat.zero_add, List.getElem?_append_left (by rw [h c List.mem_cons_self]; exact hj)]
  | c :: r, h, i + 1, j, b, e, hj => by
    simp only [List.getElem?_cons_succ] at e
    have hc := h c List.mem_cons_self
    rw [List.flatten_cons, List.getElem?_append_right (by rw [hc, Nat.mul_succ]; omega), hc, show w * (i + 1) + j - w = w * i + j by rw [Nat.mul_succ]; omega]
    exact flat_get (fun x q => h x (List.mem_cons_of_mem _ q)) i j b e hj
theorem flat_drop {w : Nat} : ∀ {bs : List (List Nat)}, (∀ b ∈ bs, b.length = w) → ∀ i, bs.flatten.drop (w * i) = (bs.drop i).flatten
  | [], _, i => by simp
  | b :: r, h, 0 => by simp
  | b :: r, h, i + 1 => by
    have hb := h b List.mem_cons_self
    rw [List.flatten_cons, List.drop_succ_cons, Nat.mul_succ, ← flat_drop (fun x q => h x (List.mem_cons_of_mem _ q)) i, List.drop_append, hb]
    rw [List.drop_eq_nil_of_le (by omega), List.nil_append]
    congr 1
    omega
theorem flat_take {w : Nat} : ∀ {bs : List (List Nat)}, (∀ b ∈ bs, b.length = w) → ∀ i, bs.flatten.take (w * i) = (bs.take i).flatten
  | [], _, i => by simp
  | b :: r, h, 0 => by simp
  | b :: r, h, i + 1 => by
    have hb := h b List.mem_cons_self
    rw [List.flatten_cons, List.take_succ_cons, List.flatten_cons, Nat.mul_succ, List.take_append, hb, ← flat_take (fun x q => h x (List.mem_cons_of_mem _ q)) i]
    rw [List.take_of_length_le (by omega)]
    congr 2
    omega

section
variable {bs : List (List Nat)} {w e more sg : Nat}
def mainL (bs : List (List Nat)) (sg : Nat) : List Nat := bs.flatten ++ [sg]
theorem mainL_len (hb : ∀ b ∈ bs, Bk w b) : (mainL bs sg).length = w * bs.length + 1 := by
  unfold mainL
  rw [List.length_append, flat_len fun b q => (hb b q).len]
  rfl
theorem mainL_get (hb : ∀ b ∈ bs, Bk w b) {i j : Nat} {b : List Nat} (hi : bs[i]? = some b) (hj : j < w) : (mainL bs sg)[w * i + j]? = b[j]? := by
  have hin : i < bs.length := (List.getElem?_eq_some_iff.mp hi).1
  have hlt : w * i + j < bs.flatten.length := by
    rw [flat_len fun b q => (hb b q).len]
    have : w * (i + 1) ≤ w * bs.length := Nat.mul_le_mul_left w hin
    rw [Nat.mul_succ] at this
    omega
  unfold mainL
  rw [List.getElem?_append_left hlt]
  exact flat_get (fun b q => (hb b q).len) i j b hi hj
theorem cut_at (hb : ∀ b ∈ bs, Bk w b) (hw : 3 ≤ w) (he : 1 ≤ e) (hm : more = 1 ∨ more = 2 ∨ more = 3) {i : Nat} (hi : i + e < bs.length) :
    stepW (S (mainL bs sg)) (((w * e + more : Nat) : Int) - 1) ((w * i : Nat) : Int) = (S (((bs.drop i).take e).flatten ++ [61]), ((w * (i + e) : Nat) : Int)) := by
  have hlen := mainL_len (sg := sg) hb
  have hp : w * (i + e) < (mainL bs sg).length := by
    rw [hlen]
    have : w * (i + e) ≤ w * bs.length := Nat.mul_le_mul_left w (by omega)
    omega
  obtain ⟨b, hbk⟩ : ∃ b, bs[i + e]? = some b := ⟨_, List.getElem?_eq_getElem hi⟩
  obtain ⟨c, hck⟩ : ∃ c, bs[i + e - 1]? = some c := ⟨_, List.getElem?_eq_getElem (by omega)⟩
  have hB := hb b (List.mem_of_getElem? hbk)
  have hC := hb c (List.mem_of_getElem? hck)
  have hk : w * (i + e) = w * (i + e - 1) + w := by
    have : i + e = (i + e - 1) + 1 := by omega
    rw [this, Nat.mul_succ]
    simp
  have g0 := mainL_get (sg := sg) hb hbk (show 0 < w by omega)
  have g1 := mainL_get (sg := sg) hb hck (show w - 1 < w by omega)
  have g2 := mainL_get (sg := sg) hb hck (show w - 2 < w by omega)
  rw [Nat.add_zero, hB.head] at g0
  rw [show w * (i + e - 1) + (w - 1) = w * (i + e) - 1 by omega] at g1
  rw [show w * (i + e - 1) + (w - 2) = w * (i + e) - 2 by omega] at g2
  rw [step_row hw he hm hp g0 (fun z => hC.pen (by rw [← g2, z])) (fun z => hC.last (by rw [← g1, z]))]
  have hd : ((mainL bs sg).drop (w * i)).take (w * e) = ((bs.drop i).take e).flatten := by
    unfold mainL
    have h1 : w * i ≤ bs.flatten.length := by rw [flat_len fun b q => (hb b q).len]; exact Nat.mul_le_mul_left w (by omega)
    rw [List.drop_append_of_le_length h1, flat_drop fun b q => (hb b q).len]
    have hbd : ∀ b ∈ bs.drop i, b.length = w := fun b q => (hb b (List.mem_of_mem_drop q)).len
    have h2 : w * e ≤ (bs.drop i).flatten.length := by rw [flat_len hbd, List.length_drop]; exact Nat.mul_le_mul_left w (by omega)
    rw [List.take_append_of_le_length h2, flat_take hbd]
  rw [hd]
theorem starts_at (hb : ∀ b ∈ bs, Bk w b) (hw : 3 ≤ w) (he : 1 ≤ e) (hm : more = 1 ∨ more = 2 ∨ more = 3) : ∀ t, e * t < bs.length → stW (S (mainL bs sg)) (((w * e + more : Nat) : Int) - 1) t = ((w * (e * t) : Nat) : Int)
  | 0, _ => by simp [stW]
  | t + 1, h => by
    rw [Nat.mul_succ] at h
    show (stepW _ _ (stW _ _ t)).2 = _
    rw [starts_at hb hw he hm t (by omega), cut_at hb hw he hm h, Nat.mul_succ]
theorem rows_are (hb : ∀ b ∈ bs, Bk w b) (hw : 3 ≤ w) (he : 1 ≤ e) (hm : more = 1 ∨ more = 2 ∨ more = 3) (R : Nat) (hR : e * R < bs.length) : rowsW (S (mainL bs sg)) (((w * e + more : Nat) : Int) - 1) R = (List.range R).map fun t => S (((bs.drop (e * t)).take e).flatten ++ [61]) := by
  unfold rowsW
  refine List.map_congr_left fun t ht => ?_
  have htR : t < R := List.mem_range.mp ht
  have h1 : e * (t + 1) ≤ e * R := Nat.mul_le_mul_left e htR
  rw [Nat.mul_succ] at h1
  rw [starts_at hb hw he hm t (by omega), cut_at hb hw he hm (by omega)]
end
end Mine
end

section
open PySem PySem.W PyProof.Rows
set_option Elab.async false
set_option maxRecDepth 100000
set_option linter.unusedVariables false
namespace Mine
theorem join_is (sep : Str) (l : List Str) : Txt.join sep l = Str.join sep l := by
  show Builtin.Str.glued sep l = _
  rw [StrLaws.glued_eq_join]
theorem sjoin_cons (sep x y : Str) (r : List Str) : Str.join sep (x :: y :: r) = x ++ sep ++ Str.join sep (y :: r) := rfl
theorem app_assoc (a b c : Str) : a ++ b ++ c = a ++ (b ++ c) := Str.append_assoc a b c
theorem sjoin_two (sep a b : Str) : ∀ (A B : List Str), Str.join sep (A ++ a :: b :: B) = Str.join sep (A ++ (a ++ sep ++ b) :: B)
  | [], [] => by show a ++ sep ++ b = _; rfl
  | [], c :: B => by
    show a ++ sep ++ (b ++ sep ++ Str.join sep (c :: B)) = a ++ sep ++ b ++ sep ++ Str.join sep (c :: B)
    simp only [app_assoc]
  | [x], B => by
    show x ++ sep ++ Str.join sep (a :: b :: B) = x ++ sep ++ Str.join sep ((a ++ sep ++ b) :: B)
    rw [show Str.join sep (a :: b :: B) = Str.join sep ((a ++ sep ++ b) :: B) from sjoin_two sep a b [] B]
  | x :: y :: A, B => by
    show x ++ sep ++ Str.join sep (y :: A ++ a :: b :: B) = x ++ sep ++ Str.join sep (y :: A ++ (a ++ sep ++ b) :: B)
    rw [sjoin_two sep a b (y :: A) B]
theorem empty_is : ("" : Str) = S [] := by decide +kernel
theorem app_empty (a : Str) : a ++ ("" : Str) = a := by
  rw [empty_is, S_of a, S_app, List.append_nil]

section
variable {bs : List (List Nat)} {w e more sg : Nat}
def rowsL (bs : List (List Nat)) (e R : Nat) : List Str := (List.range R).map fun t => S ((bs.drop (e * t)).take e).flatten
def lastL (bs : List (List Nat)) (e R : Nat) : Str := S (bs.drop (e * R)).flatten
theorem lastL_len (hb : ∀ b ∈ bs, Bk w b) {R : Nat} (hR : e * R ≤ bs.length) : (lastL bs e R).length + w * (e * R) = w * bs.length := by
  unfold lastL
  rw [S_len, flat_len (w := w) fun b q => (hb b (List.mem_of_mem_drop q)).len, List.length_drop, ← Nat.mul_add]
  congr 1
  omega
theorem lastN_S (l : List Nat) (x : Nat) : lastN (S (l ++ [x])) = x := by
  unfold lastN
  rw [item_last_S]
  rfl
theorem line_ok (hb : ∀ b ∈ bs, Bk w b) (hw : 3 ≤ w) (he : 1 ≤ e) (hm : more = 1 ∨ more = 2 ∨ more = 3) {R : Nat} (hR : e * R < bs.length) (hR2 : bs.length ≤ e * (R + 1)) (hlen : w * bs.length + 1 ≤ 5000) (hwe : w * e + more ≤ 5000) (hsg : sg < 256) :
    LineOk (S (mainL bs sg)) ((w * e + more : Nat) : Int) R := by
  have hL : (S (mainL bs sg)).length = w * bs.length + 1 := by rw [S_len, mainL_len hb]
  have hwe3 : 3 ≤ w * e := Nat.le_trans hw (Nat.le_mul_of_pos_right w he)
  have hRl : R ≤ bs.length := by
    have : R ≤ e * R := Nat.le_mul_of_pos_left R he
    omega
  have hbl : bs.length ≤ w * bs.length := Nat.le_mul_of_pos_left _ (by omega)
  refine ⟨by rw [hL]; exact hlen, by omega, by omega, by omega, fun k hk => ?_, ?_, ?_⟩
  · have h1 : e * (k + 1) ≤ e * R := Nat.mul_le_mul_left e hk
    have h2 : e * (k + 1) + 1 ≤ bs.length := by omega
    have h3 : w * (e * (k + 1) + 1) ≤ w * bs.length := Nat.mul_le_mul_left w h2
    rw [Nat.mul_succ, Nat.mul_succ, Nat.mul_add] at h3
    rw [starts_at hb hw he hm k (by rw [Nat.mul_succ] at h2; omega), hL]
    omega
  · rw [starts_at hb hw he hm R hR, hL]
    have h3 : w * bs.length ≤ w * (e * (R + 1)) := Nat.mul_le_mul_left w hR2
    rw [Nat.mul_succ, Nat.mul_add] at h3
    omega
  · unfold mainL; rw [lastN_S]; exact hsg
theorem room_is (hb : ∀ b ∈ bs, Bk w b) {R : Nat} (hR : e * R ≤ bs.length) : ((w * (e * R) : Nat) : Int) - ((S (mainL bs sg)).length - 1 - ((w * e + more : Nat) : Int)) = ((w * e + more : Nat) : Int) - (lastL bs e R).length := by
  have h := lastL_len (e := e) hb hR
  rw [S_len, mainL_len hb]
  omega
theorem line_pieces (hb : ∀ b ∈ bs, Bk w b) (hw : 3 ≤ w) (he : 1 ≤ e) (hm : more = 1 ∨ more = 2 ∨ more = 3) {R : Nat} (hR : e * R < bs.length) (eol : Str) (hsg : sg = 32 ∨ sg = 9 ∨ sg = 46) (A B : List Str) :
    Str.join eol (A ++ lineW (S (mainL bs sg)) (("=" : Str) ++ eol) ((w * e + more : Nat) : Int) R ++ B) = Str.join eol (A ++ letterL (rowsL bs e R) (lastL bs e R) (S [sg]) ((w * e + more : Nat) : Int) ++ B) := by
  have hL : (S (mainL bs sg)).length = w * bs.length + 1 := by rw [S_len, mainL_len hb]
  have hrows : rowsW (S (mainL bs sg)) (((w * e + more : Nat) : Int) - 1) R = (rowsL bs e R).map fun r => r ++ ("=" : Str) := by
    rw [rows_are hb hw he hm R hR]
    unfold rowsL
    rw [List.map_map]
    refine List.map_congr_left fun t _ => ?_
    show S _ = S _ ++ ("=" : Str)
    rw [eq_S, S_app]
  have hdrop : (mainL bs sg).drop (w * (e * R)) = (bs.drop (e * R)).flatten ++ [sg] := by
    unfold mainL
    rw [List.drop_append_of_le_length (by rw [flat_len fun b q => (hb b q).len]; exact Nat.mul_le_mul_left w (by omega)), flat_drop fun b q => (hb b q).len]
  have hle : w * (e * R) ≤ (mainL bs sg).length := by rw [mainL_len hb]; have := Nat.mul_le_mul_left w (Nat.le_of_lt hR); omega
  have hlast : ((bs.drop (e * R)).flatten).length + w * (e * R) = w * bs.length := by have := lastL_len (e := e) hb (Nat.le_of_lt hR); unfold lastL at this; rwa [S_len] at this
  have hs1 : Txt.slice (S (mainL bs sg)) (some ((w * (e * R) : Nat) : Int)) none = lastL bs e R ++ S [sg] := by
    rw [slice_from _ _ hle, hdrop, ← S_app]; rfl
  have hs2 : Txt.slice (S (mainL bs sg)) (some ((w * (e * R) : Nat) : Int)) (some (-1)) = lastL bs e R := by
    rw [slice_butlast _ _ hle, hdrop, mainL_len hb, show w * bs.length + 1 - 1 - w * (e * R) = ((bs.drop (e * R)).flatten).length by omega, List.take_left]
    rfl
  have hit : Txt.item (S (mainL bs sg)) (-1) = S [sg] := by unfold mainL; exact item_last_S _ _
  have hln : lastN (S (mainL bs sg)) = sg := by unfold mainL; exact lastN_S _ _
  have h0 : (S (mainL bs sg)).length ≠ 0 := by omega
  unfold lineW
  rw [starts_at hb hw he hm R hR, hrows]
  unfold finW
  rw [hs1, hs2, hit, hln, room_is hb (Nat.le_of_lt hR)]
  unfold letterL
  have hg : (S [sg]).cps.getD 0 0 = sg := rfl
  rw [hg]
  by_cases hdot : sg = 46
  · subst hdot
    have c1 : Txt.contains (" \t" : Str) (S [46]) = false := by decide +kernel
    have c2 : (S [46] == ("." : Str)) = true := by decide +kernel
    rw [if_neg (by rw [c1]; simp), if_pos c2]
  · have c1 : Txt.contains (" \t" : Str) (S [sg]) = true := by
      rcases hsg with rfl | rfl | rfl
      · decide +kernel
      · decide +kernel
      · exact absurd rfl hdot
    have c2 : (S [sg] == ("." : Str)) = false := by
      rcases hsg with rfl | rfl | rfl
      · decide +kernel
      · decide +kernel
      · exact absurd rfl hdot
    rw [if_pos (by rw [c1]; simp [h0]), if_neg (show ¬ (S [sg] == ("." : Str)) = true by rw [c2]; decide)]
    generalize (((w * e + more : Nat) : Int) - (lastL bs e R).length) = room
    by_cases r3 : room > 2
    · rw [if_pos (show room ≥ 3 by omega), if_pos r3]
    · rw [if_neg (show ¬ room ≥ 3 by omega), if_neg r3]
      by_cases r2 : room = 2
      · rw [if_pos r2, if_pos (by rw [r2]; rfl)]
        have := sjoin_two eol (lastL bs e R ++ S [sg] ++ ("=" : Str)) "" (A ++ (rowsL bs e R).map fun r => r ++ ("=" : Str)) B
        rw [app_empty] at this
        simp only [List.append_assoc, List.cons_append, List.nil_append, app_assoc] at this ⊢
        exact this.symm
      · rw [if_neg r2, if_neg (by simpa using r2)]
        have := sjoin_two eol (lastL bs e R ++ ("=" : Str)) (hexS sg) (A ++ (rowsL bs e R).map fun r => r ++ ("=" : Str)) B
        simp only [List.append_assoc, List.cons_append, List.nil_append, app_assoc] at this ⊢
        exact this.symm
end
end Mine
end

section
open PySem PySem.W PyProof.Rows PySem.Builtin PySem.Builtin.Str PySem.StrLaws
set_option Elab.async false
set_option maxRecDepth 100000
set_option linter.unusedVariables false
namespace Mine
def nxtL (s : Str) (st : LsSt) (i : Nat) : LsSt := if (decide (st.snd ≤ i) && Unicode.isLineBreak (s.cps.getD i 0)) = true then (st.fst.push (st.snd, i, lsNext s i), lsNext s i) else st
theorem run_fold (s : Str) : ∀ (l : List Nat) (st : LsSt), Id.run (forIn (m := Id) l st (lsBody s)) = l.foldl (nxtL s) st
  | [], st => rfl
  | i :: r, st => by
    rw [List.forIn_cons, List.foldl_cons]
    have e : lsBody s i st = pure (ForInStep.yield (nxtL s st i)) := by
      unfold lsBody nxtL
      split <;> rfl
    rw [e]
    exact run_fold s r _
theorem spans_fold (s : Str) : lineSpans s = lsEnd s ((List.range' 0 s.length).foldl (nxtL s) (#[], 0)) := by rw [ls_eq, run_fold]

section
variable {L : List Nat}
theorem getD_S (i : Nat) : (S L).cps.getD i 0 = L.getD i 0 := by
  show (L.toArray).getD i 0 = _
  simp [Array.getD_eq_getD_getElem?, List.getD_eq_getElem?_getD]
theorem get_S (i : Nat) : (S L).cps[i]? = L[i]? := by simp [S]
theorem fold_plain (st : LsSt) : ∀ (m cur : Nat), (∀ i, cur ≤ i → i < cur + m → Unicode.isLineBreak (L.getD i 0) = false) → (List.range' cur m).foldl (nxtL (S L)) st = st
  | 0, cur, _ => rfl
  | m + 1, cur, h => by
    rw [List.range'_succ, List.foldl_cons]
    have e : nxtL (S L) st cur = st := by
      unfold nxtL
      rw [getD_S, h cur (Nat.le_refl _) (by omega), Bool.and_false, if_neg (by decide)]
    rw [e]
    exact fold_plain st m (cur + 1) fun i h1 h2 => h i (by omega) (by omega)
def BrOk (br : List Nat) (next : Option Nat) : Prop := br = [10] ∨ br = [13, 10] ∨ (br = [13] ∧ next ≠ some 10)
theorem b10 : Unicode.isLineBreak 10 = true := by decide +kernel
theorem b13 : Unicode.isLineBreak 13 = true := by decide +kernel
theorem fold_br {lines : Array (Nat × Nat × Nat)} {start p : Nat} {br rest : List Nat} (hp : L.drop p = br ++ rest) (hs : start ≤ p) (hb : BrOk br rest.head?) :
    (List.range' p br.length).foldl (nxtL (S L)) (lines, start) = (lines.push (start, p, p + br.length), p + br.length) := by
  have g : ∀ j, L[p + j]? = (br ++ rest)[j]? := fun j => by rw [← hp, List.getElem?_drop]
  have gd : ∀ j, L.getD (p + j) 0 = ((br ++ rest)[j]?).getD 0 := fun j => by rw [List.getD_eq_getElem?_getD, g]
  rcases hb with rfl | rfl | ⟨rfl, hn⟩
  · have g0 := gd 0
    simp only [Nat.add_zero, List.cons_append, List.nil_append, List.getElem?_cons_zero, Option.getD_some] at g0
    show nxtL (S L) (lines, start) p = _
    unfold nxtL
    rw [getD_S, g0, b10]
    dsimp only
    rw [decide_eq_true hs, if_pos (by decide)]
    have : lsNext (S L) p = p + 1 := by unfold lsNext; rw [getD_S, g0, if_neg (by simp)]
    rw [this]
    rfl
  · have g0 := gd 0
    have g1 := g 1
    simp only [Nat.add_zero, List.cons_append, List.nil_append, List.getElem?_cons_zero, List.getElem?_cons_succ, Option.getD_some] at g0 g1
    show nxtL (S L) (nxtL (S L) (lines, start) p) (p + 1) = _
    have e1 : nxtL (S L) (lines, start) p = (lines.push (start, p, p + 2), p + 2) := by
      unfold nxtL
      rw [getD_S, g0, b13]
      dsimp only
      rw [decide_eq_true hs, if_pos (by decide)]
      have : lsNext (S L) p = p + 2 := by unfold lsNext; rw [getD_S, g0, get_S, g1, if_pos (by rfl)]
      rw [this]
    rw [e1]
    unfold nxtL
    dsimp only
    rw [decide_eq_false (by omega), Bool.false_and, if_neg (by decide)]
    rfl
  · have g0 := gd 0
    have g1 := g 1
    simp only [Nat.add_zero, List.cons_append, List.nil_append, List.getElem?_cons_zero, List.getElem?_cons_succ, Option.getD_some] at g0 g1
    show nxtL (S L) (lines, start) p = _
    unfold nxtL
    rw [getD_S, g0, b13]
    dsimp only
    rw [decide_eq_true hs, if_pos (by decide)]
    have hn' : rest[0]? ≠ some 10 := by rw [← List.head?_eq_getElem?]; exact hn
    have : lsNext (S L) p = p + 1 := by unfold lsNext; rw [getD_S, g0, get_S, g1, if_neg (by simp [hn'])]
    rw [this]
    rfl
theorem drop_get {p : Nat} {c rest : List Nat} (hp : L.drop p = c ++ rest) : ∀ i, p ≤ i → i < p + c.length → L.getD i 0 = c.getD (i - p) 0 := fun i h1 h2 => by
  have : L[i]? = (c ++ rest)[i - p]? := by rw [← hp, List.getElem?_drop]; congr 1; omega
  rw [List.getD_eq_getElem?_getD, this, List.getD_eq_getElem?_getD, List.getElem?_append_left (by omega)]
def Plain (c : List Nat) : Prop := ∀ x ∈ c, Unicode.isLineBreak x = false
theorem Plain.getD {c : List Nat} (h : Plain c) (i : Nat) (hi : i < c.length) : Unicode.isLineBreak (c.getD i 0) = false := by
  rw [List.getD_eq_getElem?_getD, List.getElem?_eq_getElem hi]
  exact h _ (List.getElem_mem hi)
theorem fold_line {lines : Array (Nat × Nat × Nat)} {p : Nat} {c br rest : List Nat} (hp : L.drop p = c ++ (br ++ rest)) (hc : Plain c) (hb : BrOk br rest.head?) :
    (List.range' p (c.length + br.length)).foldl (nxtL (S L)) (lines, p) = (lines.push (p, p + c.length, p + c.length + br.length), p + c.length + br.length) := by
  rw [← List.range'_append_1, List.foldl_append]
  rw [fold_plain (lines, p) c.length p fun i h1 h2 => by rw [drop_get hp i h1 h2]; exact hc.getD _ (by omega)]
  exact fold_br (by rw [← List.drop_drop, hp, List.drop_left]) (by omega) hb

inductive Segs : List (List Nat × List Nat) → List Nat → List Nat → Prop
  | nil {fin : List Nat} : Plain fin → Segs [] fin fin
  | cons {c br rest : List Nat} {r : List (List Nat × List Nat)} {fin : List Nat} : Plain c → BrOk br rest.head? → Segs r fin rest → Segs ((c, br) :: r) fin (c ++ (br ++ rest))
theorem fold_segs {sg : List (List Nat × List Nat)} {fin R : List Nat} (h : Segs sg fin R) : ∀ (p : Nat) (lines : Array (Nat × Nat × Nat)), L.drop p = R → p ≤ L.length →
    ∃ more : List (Nat × Nat × Nat), (List.range' p R.length).foldl (nxtL (S L)) (lines, p) = ((lines.toList ++ more).toArray, L.length - fin.length) ∧ fin.length ≤ L.length ∧ L.drop (L.length - fin.length) = fin ∧
      more.map (fun t => (L.drop t.1).take (t.2.1 - t.1)) = sg.map (·.1) ∧ ∀ t ∈ more, t.2.1 ≤ L.length := by
  induction h with
  | @nil fin hf =>
    intro p lines hp hl
    have h1 : fin.length = L.length - p := by rw [← hp, List.length_drop]
    refine ⟨[], ?_, by omega, ?_, rfl, fun t ht => nomatch ht⟩
    · rw [fold_plain _ _ _ fun i h1 h2 => by
        have := drop_get (c := fin) (rest := []) (by rw [hp, List.append_nil]) i h1 h2
        rw [this]; exact hf.getD _ (by omega)]
      simp
      omega
    · rw [show L.length - fin.length = p by omega]; exact hp
  | @cons c br rest r fin hc hb _ ih =>
    intro p lines hp hl
    have h1 : (c ++ (br ++ rest)).length = L.length - p := by rw [← hp, List.length_drop]
    simp only [List.length_append] at h1
    have hp2 : L.drop (p + c.length + br.length) = rest := by
      rw [← List.drop_drop, ← List.drop_drop, hp, List.drop_left, List.drop_left]
    obtain ⟨more, e1, e2, e3, e4, e5⟩ := ih (p + c.length + br.length) (lines.push (p, p + c.length, p + c.length + br.length)) hp2 (by omega)
    refine ⟨(p, p + c.length, p + c.length + br.length) :: more, ?_, e2, e3, ?_, ?_⟩
    · rw [show (c ++ (br ++ rest)).length = (c.length + br.length) + rest.length by simp only [List.length_append]; omega, ← List.range'_append_1, List.foldl_append, fold_line hp hc hb]
      rw [show p + (c.length + br.length) = p + c.length + br.length by omega, e1]
      simp
    · rw [List.map_cons, List.map_cons, e4]
      congr 1
      dsimp only
      rw [hp, show p + c.length - p = c.length by omega, List.take_left]
    · intro t ht
      rcases List.mem_cons.mp ht with rfl | ht
      · dsimp only; omega
      · exact e5 t ht
theorem lines_segs {sg : List (List Nat × List Nat)} {fin : List Nat} (h : Segs sg fin L) : linesOf (S L) = sg.map (fun t => S t.1) ++ (if fin = [] then [] else [S fin]) := by
  obtain ⟨more, e1, e2, e3, e4, e5⟩ := fold_segs (L := L) h 0 #[] rfl (Nat.zero_le _)
  have hspan : lineSpans (S L) = more ++ (if fin = [] then [] else [(L.length - fin.length, L.length, L.length)]) := by
    rw [spans_fold, S_len, e1]
    unfold lsEnd
    dsimp only
    rw [S_len]
    by_cases hf : fin = []
    · subst hf
      rw [if_neg (by simp), if_pos rfl]
      simp
    · have : 0 < fin.length := List.length_pos_iff.mpr hf
      rw [if_pos (by omega), if_neg hf]
      simp
  unfold linesOf lineCuts
  rw [hspan, List.map_append, List.map_append]
  have hsub : ∀ a b : Nat, strSub (S L) a b = S ((L.drop a).take (b - a)) := fun a b => by
    unfold strSub S
    simp
  congr 1
  · have e6 := congrArg (List.map S) e4
    rw [List.map_map, List.map_map] at e6
    rw [List.map_map, show (sg.map fun t => S t.1) = List.map (S ∘ fun x => x.1) sg from rfl, ← e6]
    refine List.map_congr_left fun t _ => ?_
    obtain ⟨a, b, c⟩ := t
    exact hsub a b
  · by_cases hf : fin = []
    · rw [if_pos hf, if_pos hf]; rfl
    · rw [if_neg hf, if_neg hf]
      show [strSub (S L) (L.length - fin.length) L.length] = _
      rw [hsub, e3, List.take_of_length_le (by omega)]
end
end Mine
end

section
open PySem PySem.W PyProof.Rows PySem.Builtin PySem.Builtin.Str PySem.StrLaws
set_option Elab.async false
set_option maxRecDepth 100000
set_option linter.unusedVariables false
namespace Mine
def encL (c : Nat) : List Nat := (encM c).cps.toList
theorem trS_S (l : List Nat) : trS encM (S l) = S (l.flatMap encL) := by
  unfold trS encL
  rw [S_list]
  rfl
def BrL (br : List Nat) : Prop := br = [] ∨ br = [10] ∨ br = [13, 10] ∨ br = [13]
theorem br_tr {br : List Nat} (h : BrL br) : br.flatMap encL = br := by
  rcases h with rfl | rfl | rfl | rfl <;> decide +kernel
theorem br_ok {br : List Nat} (h : BrL br) (h0 : br ≠ []) {next : Option Nat} (hn : next ≠ some 10) : BrOk br next := by
  rcases h with rfl | rfl | rfl | rfl
  · exact absurd rfl h0
  · exact .inl rfl
  · exact .inr (.inl rfl)
  · exact .inr (.inr ⟨rfl, hn⟩)
theorem sjoin_front (sep : Str) : ∀ (l : List Str), l ≠ [] → Str.join sep (("" : Str) :: l) = sep ++ Str.join sep l
  | [], h => absurd rfl h
  | x :: r, _ => by
    show ("" : Str) ++ sep ++ Str.join sep (x :: r) = _
    rw [show ("" : Str) ++ sep = sep by rw [empty_is, S_of sep, S_app, List.nil_append]]
theorem sjoin_back (sep a : Str) : ∀ (l : List Str), l ≠ [] → Str.join sep (l ++ [a]) = Str.join sep l ++ sep ++ a
  | [], h => absurd rfl h
  | [x], _ => rfl
  | x :: y :: r, _ => by
    show x ++ sep ++ Str.join sep (y :: r ++ [a]) = x ++ sep ++ Str.join sep (y :: r) ++ sep ++ a
    rw [sjoin_back sep a (y :: r) (by simp)]
    simp only [app_assoc]
section
variable {bs : List (List Nat)} {w e more sg : Nat}
theorem lineW_empty (soft : Str) (W : Int) : lineW (S []) soft W 0 = [("" : Str)] := by
  unfold lineW rowsW finW
  have h : (S []).length = 0 := rfl
  rw [if_neg (by rw [h]; simp)]
  show [Txt.slice (S []) (some ((0 : Nat) : Int)) none] = _
  rw [slice_from [] 0 (Nat.le_refl _), empty_is]
  rfl
theorem ok_empty {W : Int} (h : 4 ≤ W) (h2 : W ≤ 5000) : LineOk (S []) W 0 := by
  have hl : (S []).length = 0 := rfl
  refine ⟨by rw [hl]; omega, h, h2, by omega, fun k hk => absurd hk (Nat.not_lt_zero _), ?_, by decide +kernel⟩
  rw [hl]
  show ¬ (0 : Int) ≤ _
  omega
theorem contains_dot : Txt.contains (" \t" : Str) (S [46]) = false := by decide +kernel
theorem lineW_short (c : Nat) (soft : Str) (W : Int) : lineW (S [c, 46]) soft W 0 = [S [c, 46]] := by
  unfold lineW rowsW finW
  have hi : Txt.item (S [c, 46]) (-1) = S [46] := item_last_S [c] 46
  rw [hi, contains_dot, Bool.and_false, if_neg (by decide)]
  show [Txt.slice (S [c, 46]) (some ((0 : Nat) : Int)) none] = _
  rw [slice_from _ 0 (Nat.zero_le _)]
  rfl
theorem ok_short {W : Int} (c : Nat) (h : 4 ≤ W) (h2 : W ≤ 5000) : LineOk (S [c, 46]) W 0 := by
  have hl : (S [c, 46]).length = 2 := rfl
  refine ⟨by rw [hl]; omega, h, h2, by omega, fun k hk => absurd hk (Nat.not_lt_zero _), ?_, ?_⟩
  · rw [hl]
    show ¬ (0 : Int) ≤ _
    omega
  · rw [show lastN (S [c, 46]) = 46 from lastN_S [c] 46]; decide
def tailL (back : List Nat) (c : Nat) : List Nat := if back = [] then [] else back ++ ([c, 46] ++ back)
def NsOf (m : Str) (R : Nat) (l : Str) : Nat := if l = m then R else 0
theorem lines_text {front back : List Nat} {c : Nat} (hf : BrL front) (hk : BrL back) (hc : c = 32 ∨ c = 9 ∨ c = 46) {m : List Nat} (hm : Plain m) (h61 : m.head? = some 61) :
    linesOf (S (front ++ (m ++ tailL back c))) = (if front = [] then [] else [("" : Str)]) ++ [S m] ++ (if back = [] then [] else [S [c, 46]]) := by
  have hm0 : m ≠ [] := by rintro rfl; simp at h61
  have hps : Plain [c, 46] := by
    intro x hx
    rcases List.mem_cons.mp hx with rfl | hx
    · rcases hc with rfl | rfl | rfl <;> decide +kernel
    · rw [List.mem_singleton.mp hx]; decide +kernel
  have htail : ∃ sg fin, Segs sg fin (m ++ tailL back c) ∧ sg.map (fun t => S t.1) ++ (if fin = [] then [] else [S fin]) = [S m] ++ (if back = [] then [] else [S [c, 46]]) := by
    by_cases hb : back = []
    · refine ⟨[], m ++ tailL back c, ?_, ?_⟩
      · have : m ++ tailL back c = m := by unfold tailL; rw [if_pos hb, List.append_nil]
        rw [this]; exact .nil hm
      · have : m ++ tailL back c = m := by unfold tailL; rw [if_pos hb, List.append_nil]
        rw [this, if_neg hm0, if_pos hb]; rfl
    · refine ⟨[(m, back), ([c, 46], back)], [], ?_, ?_⟩
      · unfold tailL
        rw [if_neg hb]
        refine .cons hm (br_ok hk hb (by rcases hc with rfl | rfl | rfl <;> simp)) ?_
        have : [c, 46] ++ back = [c, 46] ++ (back ++ []) := by rw [List.append_nil]
        rw [this]
        exact .cons hps (br_ok hk hb (by simp)) (.nil fun x hx => nomatch hx)
      · rw [if_neg hb, if_pos rfl]; rfl
  obtain ⟨sg, fin, hs, he⟩ := htail
  by_cases h0 : front = []
  · rw [h0, List.nil_append, if_pos rfl, List.nil_append, lines_segs hs, he]
  · have hs2 : Segs (([], front) :: sg) fin ([] ++ (front ++ (m ++ tailL back c))) := .cons (fun x hx => nomatch hx) (br_ok hf h0 (by
      cases m with
      | nil => exact absurd rfl hm0
      | cons y r => simp only [List.head?_cons, Option.some.injEq] at h61; subst h61; simp)) hs
    rw [List.nil_append] at hs2
    rw [lines_segs hs2, if_neg h0, List.map_cons, List.cons_append, he, empty_is]
    rfl
end
end Mine
end

section
open PySem PySem.W PyProof.Rows PySem.Builtin PySem.Builtin.Str PySem.StrLaws
set_option Elab.async false
set_option maxRecDepth 100000
set_option linter.unusedVariables false
namespace Mine
theorem stepW_len (line : Str) (m1 s : Int) : (stepW line m1 s).1.length ≤ line.length + 1 := by
  unfold stepW
  split
  · exact Nat.le_succ_of_le (Txt.slice_le _ _ _)
  · split
    · exact Nat.le_succ_of_le (Txt.slice_le _ _ _)
    · show (Txt.slice line (some s) (some (s + m1)) ++ ("=" : Str)).length ≤ _
      rw [slen, eqL]
      have := Txt.slice_le line (some s) (some (s + m1))
      omega
theorem finW_len (line soft : Str) (W s : Int) : (finW line soft W s).length ≤ line.length + soft.length + 4 := by
  unfold finW
  have h1 := Txt.slice_le line (some s) (some (-1))
  have h2 := Txt.slice_le line (some s) none
  split
  · rw [slen]
    split
    · rw [hexS_len]; omega
    · split
      · rw [slen, show (Txt.item line (-1)).length = 1 from rfl]; omega
      · rw [slen, hexS_len]; omega
  · omega
theorem lineW_lens (line soft : Str) (W : Int) (N : Nat) : ∀ p ∈ lineW line soft W N, p.length ≤ line.length + soft.length + 4 := by
  intro p hp
  unfold lineW rowsW at hp
  rcases List.mem_append.mp hp with hp | hp
  · obtain ⟨i, _, rfl⟩ := List.mem_map.mp hp
    have := stepW_len line (W - 1) (stW line (W - 1) i)
    omega
  · rw [List.mem_singleton.mp hp]; exact finW_len _ _ _ _
theorem sum_le {l : List Str} {k : Nat} (h : ∀ x ∈ l, x.length ≤ k) : (l.map (·.length)).sum ≤ l.length * k := by
  induction l with
  | nil => simp
  | cons x r ih =>
    rw [List.map_cons, List.sum_cons, List.length_cons, Nat.succ_mul]
    have h1 := ih fun y q => h y (List.mem_cons_of_mem _ q)
    have h2 := h x List.mem_cons_self
    omega

structure Blk (w : Nat) (p : List Nat × List Nat) : Prop where
  tr : p.1.flatMap encL = p.2
  bk : Bk w p.2
  plain : Plain p.2
  signs : ∀ c ∈ p.1, c < 256
  len : p.1.length ≤ w

section
variable {ps : List (List Nat × List Nat)} {w e more sg c : Nat} {front back : List Nat}
theorem flat_tr (hb : ∀ p ∈ ps, Blk w p) : (ps.map (·.1)).flatten.flatMap encL = (ps.map (·.2)).flatten := by
  induction ps with
  | nil => rfl
  | cons p r ih =>
    rw [List.map_cons, List.map_cons, List.flatten_cons, List.flatten_cons, List.flatMap_append, (hb p List.mem_cons_self).tr, ih fun q z => hb q (List.mem_cons_of_mem _ z)]
theorem flat_len1 (hb : ∀ p ∈ ps, Blk w p) : (ps.map (·.1)).flatten.length ≤ w * ps.length := by
  induction ps with
  | nil => simp
  | cons p r ih =>
    have h1 := ih fun q z => hb q (List.mem_cons_of_mem _ z)
    have h2 := (hb p List.mem_cons_self).len
    rw [List.map_cons, List.flatten_cons, List.length_append, List.length_cons, Nat.mul_succ]
    omega
theorem sg_enc (h : sg = 32 ∨ sg = 9 ∨ sg = 46) : encL sg = [sg] := by rcases h with rfl | rfl | rfl <;> decide +kernel
theorem tail_tr (hk : BrL back) (hc : c = 32 ∨ c = 9 ∨ c = 46) : (tailL back c).flatMap encL = tailL back c := by
  unfold tailL
  split
  · rfl
  · rw [List.flatMap_append, List.flatMap_append, br_tr hk]
    congr 2
    rw [List.flatMap_cons, List.flatMap_cons, sg_enc hc, show encL 46 = [46] by decide +kernel]
    rfl
def textL (ps : List (List Nat × List Nat)) (sg c : Nat) (front back : List Nat) : List Nat := front ++ ((ps.map (·.1)).flatten ++ ([sg] ++ tailL back c))
theorem text_tr (hb : ∀ p ∈ ps, Blk w p) (hf : BrL front) (hk : BrL back) (hs : sg = 32 ∨ sg = 9 ∨ sg = 46) (hc : c = 32 ∨ c = 9 ∨ c = 46) : (textL ps sg c front back).flatMap encL = front ++ (mainL (ps.map (·.2)) sg ++ tailL back c) := by
  unfold textL mainL
  rw [List.flatMap_append, List.flatMap_append, List.flatMap_append, br_tr hf, flat_tr hb, tail_tr hk hc, List.flatMap_cons, sg_enc hs]
  simp
theorem main_plain (hb : ∀ p ∈ ps, Blk w p) (hs : sg = 32 ∨ sg = 9 ∨ sg = 46) : Plain (mainL (ps.map (·.2)) sg) := by
  intro x hx
  rcases List.mem_append.mp hx with hx | hx
  · obtain ⟨b, hbm, hxb⟩ := List.mem_flatten.mp hx
    obtain ⟨p, hp, rfl⟩ := List.mem_map.mp hbm
    exact (hb p hp).plain x hxb
  · rw [List.mem_singleton.mp hx]
    rcases hs with rfl | rfl | rfl <;> decide +kernel
theorem main_head (hb : ∀ p ∈ ps, Blk w p) (hw : 3 ≤ w) (h0 : ps ≠ []) : (mainL (ps.map (·.2)) sg).head? = some 61 := by
  cases ps with
  | nil => exact absurd rfl h0
  | cons p r =>
    have h1 := (hb p List.mem_cons_self).bk
    unfold mainL
    rw [List.map_cons, List.flatten_cons, List.append_assoc]
    have h2 := h1.head
    cases hp : p.2 with
    | nil => rw [hp] at h2; simp at h2
    | cons y z => rw [hp] at h2; simpa using h2
theorem br_len {br : List Nat} (h : BrL br) : br.length ≤ 2 := by rcases h with rfl | rfl | rfl | rfl <;> decide
theorem tail_len (hk : BrL back) : (tailL back c).length ≤ 6 := by
  unfold tailL
  have := br_len hk
  split
  · simp
  · simp only [List.length_append, List.length_cons, List.length_nil]; omega
theorem crlf_back {x : Nat} (l : List Nat) (h : x = 10 ∨ x = 13) : Txt.contains (⟨#[13, 10]⟩ : Str) (Txt.item (S (l ++ [x])) (-1)) = true := by
  rw [item_last_S]
  rcases h with rfl | rfl <;> decide +kernel
theorem crlf_sg {x : Nat} (l : List Nat) (h : x = 32 ∨ x = 9 ∨ x = 46) : Txt.contains (⟨#[13, 10]⟩ : Str) (Txt.item (S (l ++ [x])) (-1)) = false := by
  rw [item_last_S]
  rcases h with rfl | rfl | rfl <;> decide +kernel
theorem br_last (h : BrL back) (h0 : back ≠ []) : ∃ l x, back = l ++ [x] ∧ (x = 10 ∨ x = 13) := by
  rcases h with rfl | rfl | rfl | rfl
  · exact absurd rfl h0
  · exact ⟨[], 10, rfl, .inl rfl⟩
  · exact ⟨[13], 10, rfl, .inl rfl⟩
  · exact ⟨[], 13, rfl, .inr rfl⟩
theorem ends_with (hk : BrL back) (hs : sg = 32 ∨ sg = 9 ∨ sg = 46) (m0 : List Nat) : Txt.contains (⟨#[13, 10]⟩ : Str) (Txt.item (S (front ++ ((m0 ++ [sg]) ++ tailL back c))) (-1)) = !(back == []) := by
  by_cases h0 : back = []
  · subst h0
    have : front ++ ((m0 ++ [sg]) ++ tailL [] c) = (front ++ m0) ++ [sg] := by unfold tailL; rw [if_pos rfl]; simp
    rw [this, crlf_sg _ hs]; rfl
  · obtain ⟨l, x, e, hx⟩ := br_last hk h0
    have : front ++ ((m0 ++ [sg]) ++ tailL back c) = (front ++ ((m0 ++ [sg]) ++ (back ++ ([c, 46] ++ l)))) ++ [x] := by
      unfold tailL
      rw [if_neg h0]
      conv => lhs; rw [e]
      rw [e]
      simp
    rw [this, crlf_back _ hx]
    simp [h0]
end
end Mine
end

section
open PySem PySem.W PyProof.Rows PySem.Builtin PySem.Builtin.Str PySem.StrLaws
set_option Elab.async false
set_option maxRecDepth 100000
set_option linter.unusedVariables false
namespace Mine
section
variable {ps : List (List Nat × List Nat)} {w e more sg c : Nat} {front back : List Nat}
abbrev bsOf (ps : List (List Nat × List Nat)) : List (List Nat) := ps.map (·.2)
theorem ne_main_empty {m : List Nat} (h : m.head? = some 61) : S [] ≠ S m := fun q => by have := S_inj.mp q; rw [← this] at h; simp at h
theorem ne_main_short {m : List Nat} (h : m.head? = some 61) (hc : c = 32 ∨ c = 9 ∨ c = 46) : S [c, 46] ≠ S m := fun q => by
  have := S_inj.mp q
  rw [← this] at h
  simp only [List.head?_cons, Option.some.injEq] at h
  omega
theorem pieces_text {eol : Str} {W : Int} {R : Nat} (hb : ∀ p ∈ ps, Blk w p) (hw : 3 ≤ w) (h0 : ps ≠ []) (hf : BrL front) (hk : BrL back) (hs : sg = 32 ∨ sg = 9 ∨ sg = 46) (hc : c = 32 ∨ c = 9 ∨ c = 46) :
    piecesW (S (front ++ (mainL (bsOf ps) sg ++ tailL back c))) eol W (NsOf (S (mainL (bsOf ps) sg)) R) =
      (if front = [] then [] else [("" : Str)]) ++ lineW (S (mainL (bsOf ps) sg)) (("=" : Str) ++ eol) W R ++ (if back = [] then [] else [S [c, 46], ("" : Str)]) := by
  have hm := main_plain hb hs
  have h61 := main_head (sg := sg) hb hw h0
  unfold piecesW
  rw [lines_text hf hk hc hm h61]
  have e1 : Txt.contains (⟨#[13, 10]⟩ : Str) (Txt.item (S (front ++ (mainL (bsOf ps) sg ++ tailL back c))) (-1)) = !(back == []) := ends_with hk hs _
  rw [e1]
  have n1 : NsOf (S (mainL (bsOf ps) sg)) R (S (mainL (bsOf ps) sg)) = R := by unfold NsOf; rw [if_pos rfl]
  have n2 : NsOf (S (mainL (bsOf ps) sg)) R (S []) = 0 := by unfold NsOf; rw [if_neg (ne_main_empty h61)]
  have n3 : NsOf (S (mainL (bsOf ps) sg)) R (S [c, 46]) = 0 := by unfold NsOf; rw [if_neg (ne_main_short h61 hc)]
  have q1 : (if front = [] then [] else [("" : Str)]).flatMap (fun l => lineW l (("=" : Str) ++ eol) W (NsOf (S (mainL (bsOf ps) sg)) R l)) = (if front = [] then [] else [("" : Str)]) := by
    split
    · rfl
    · rw [List.flatMap_cons, empty_is, n2, lineW_empty, List.flatMap_nil, List.append_nil, empty_is]
  have q2 : (if back = [] then [] else [S [c, 46]]).flatMap (fun l => lineW l (("=" : Str) ++ eol) W (NsOf (S (mainL (bsOf ps) sg)) R l)) = (if back = [] then [] else [S [c, 46]]) := by
    split
    · rfl
    · rw [List.flatMap_cons, n3, lineW_short, List.flatMap_nil, List.append_nil]
  rw [List.flatMap_append, List.flatMap_append, q1, q2, List.flatMap_cons, n1, List.flatMap_nil, List.append_nil, List.append_assoc]
  congr 1
  by_cases hb0 : back = []
  · subst hb0; rfl
  · rw [if_neg hb0, if_neg hb0, if_pos (by simp [hb0])]
    rfl
theorem letterL_ne (init : List Str) (last sign : Str) (W : Int) : letterL init last sign W ≠ [] := by
  unfold letterL
  intro h
  rw [List.append_eq_nil_iff] at h
  have h2 := h.2
  split at h2
  · cases h2
  · split at h2
    · cases h2
    · split at h2 <;> cases h2
theorem enc_text {eol : List Nat} {R : Nat} (hb : ∀ p ∈ ps, Blk w p) (hw : 3 ≤ w) (he : 1 ≤ e) (hm : more = 1 ∨ more = 2 ∨ more = 3) (h0 : ps ≠ []) (hR : e * R < ps.length) (hf : BrL front) (hk : BrL back) (hs : sg = 32 ∨ sg = 9 ∨ sg = 46) (hc : c = 32 ∨ c = 9 ∨ c = 46) :
    encV (S (textL ps sg c front back)) (S eol) ((w * e + more : Nat) : Int) (NsOf (S (mainL (bsOf ps) sg)) R) =
      (if front = [] then ("" : Str) else S eol) ++ Txt.join (S eol) (letterL (rowsL (bsOf ps) e R) (lastL (bsOf ps) e R) (S [sg]) ((w * e + more : Nat) : Int)) ++ (if back = [] then ("" : Str) else S eol ++ S [c, 46] ++ S eol) := by
  have hbk : ∀ b ∈ bsOf ps, Bk w b := fun b q => by obtain ⟨p, hp, rfl⟩ := List.mem_map.mp q; exact (hb p hp).bk
  have hl : (S (textL ps sg c front back)).length ≠ 0 := by rw [S_len]; unfold textL; simp
  unfold encV
  rw [if_neg hl, trS_S, text_tr hb hf hk hs hc, pieces_text hb hw h0 hf hk hs hc, join_is, join_is]
  rw [line_pieces hbk hw he hm (by rw [List.length_map]; exact hR) (S eol) hs]
  have hne := letterL_ne (rowsL (bsOf ps) e R) (lastL (bsOf ps) e R) (S [sg]) ((w * e + more : Nat) : Int)
  generalize letterL (rowsL (bsOf ps) e R) (lastL (bsOf ps) e R) (S [sg]) ((w * e + more : Nat) : Int) = LL at hne ⊢
  have hB : ∀ l : List Str, l ≠ [] → Str.join (S eol) (l ++ (if back = [] then [] else [S [c, 46], ("" : Str)])) = Str.join (S eol) l ++ (if back = [] then ("" : Str) else S eol ++ S [c, 46] ++ S eol) := by
    intro l hl
    by_cases hb0 : back = []
    · rw [if_pos hb0, if_pos hb0, List.append_nil, app_empty]
    · rw [if_neg hb0, if_neg hb0, show l ++ [S [c, 46], ("" : Str)] = (l ++ [S [c, 46]]) ++ [("" : Str)] by simp, sjoin_back _ _ _ (by simp), sjoin_back _ _ _ hl, app_empty]
      simp only [app_assoc]
  by_cases hf0 : front = []
  · rw [if_pos hf0, if_pos hf0, List.nil_append, hB _ hne, show ("" : Str) ++ Str.join (S eol) LL = Str.join (S eol) LL by rw [empty_is, S_of (Str.join (S eol) LL), S_app, List.nil_append]]
  · rw [if_neg hf0, if_neg hf0, List.append_assoc, List.singleton_append, sjoin_front _ _ (by simp [hne]), hB _ hne]
    simp only [app_assoc]
theorem enc_ok {eol : List Nat} {R : Nat} (hb : ∀ p ∈ ps, Blk w p) (hw : 3 ≤ w) (hw6 : w ≤ 6) (he : 1 ≤ e) (he6 : e ≤ 6) (hm : more = 1 ∨ more = 2 ∨ more = 3) (h0 : ps ≠ []) (hn : ps.length ≤ 6) (hR : e * R < ps.length) (hR2 : ps.length ≤ e * (R + 1)) (hf : BrL front) (hk : BrL back) (hs : sg = 32 ∨ sg = 9 ∨ sg = 46) (hc : c = 32 ∨ c = 9 ∨ c = 46) (heol : eol.length ≤ 2) :
    EncOk (S (textL ps sg c front back)) (S eol) ((w * e + more : Nat) : Int) (NsOf (S (mainL (bsOf ps) sg)) R) := by
  have hbk : ∀ b ∈ bsOf ps, Bk w b := fun b q => by obtain ⟨p, hp, rfl⟩ := List.mem_map.mp q; exact (hb p hp).bk
  have hwe3 : 3 ≤ w * e := Nat.le_trans hw (Nat.le_mul_of_pos_right w he)
  have hwe : w * e ≤ 36 := Nat.le_trans (Nat.mul_le_mul hw6 he6) (by decide)
  have hwn : w * ps.length ≤ 36 := Nat.le_trans (Nat.mul_le_mul hw6 hn) (by decide)
  have hbl : (bsOf ps).length = ps.length := List.length_map _
  have hfl := flat_len1 hb
  have htl := tail_len (c := c) hk
  have hfr := br_len hf
  have hml : (mainL (bsOf ps) sg).length = w * ps.length + 1 := by rw [mainL_len hbk, hbl]
  have hX : trS encM (S (textL ps sg c front back)) = S (front ++ (mainL (bsOf ps) sg ++ tailL back c)) := by rw [trS_S, text_tr hb hf hk hs hc]
  have hm' := main_plain hb hs
  have h61 := main_head (sg := sg) hb hw h0
  have hlines := lines_text hf hk hc hm' h61
  have hR6 : R ≤ 6 := by have : R ≤ e * R := Nat.le_mul_of_pos_left R he; omega
  have hmain : LineOk (S (mainL (bsOf ps) sg)) ((w * e + more : Nat) : Int) R := line_ok hbk hw he hm (by rw [hbl]; exact hR) (by rw [hbl]; exact hR2) (by rw [hbl]; omega) (by omega) (by omega)
  have n1 : NsOf (S (mainL (bsOf ps) sg)) R (S (mainL (bsOf ps) sg)) = R := by unfold NsOf; rw [if_pos rfl]
  have n2 : NsOf (S (mainL (bsOf ps) sg)) R (S []) = 0 := by unfold NsOf; rw [if_neg (ne_main_empty h61)]
  have n3 : NsOf (S (mainL (bsOf ps) sg)) R (S [c, 46]) = 0 := by unfold NsOf; rw [if_neg (ne_main_short h61 hc)]
  refine ⟨by omega, fun x hx => ?_, ?_, fun _ => ?_, ?_, by rw [S_len]; omega, ?_, fun l hl => ?_, ?_⟩
  · rw [S_list] at hx
    unfold textL at hx
    have hbr : ∀ {br : List Nat}, BrL br → ∀ x ∈ br, x < 256 := fun h => by rcases h with rfl | rfl | rfl | rfl <;> decide
    rcases List.mem_append.mp hx with hx | hx
    · exact hbr hf x hx
    · rcases List.mem_append.mp hx with hx | hx
      · obtain ⟨b, hbm, hxb⟩ := List.mem_flatten.mp hx
        obtain ⟨p, hp, rfl⟩ := List.mem_map.mp hbm
        exact (hb p hp).signs x hxb
      · rcases List.mem_append.mp hx with hx | hx
        · rw [List.mem_singleton.mp hx]; omega
        · unfold tailL at hx
          split at hx
          · cases hx
          · rcases List.mem_append.mp hx with hx | hx
            · exact hbr hk x hx
            · rcases List.mem_append.mp hx with hx | hx
              · rcases List.mem_cons.mp hx with rfl | hx
                · omega
                · rw [List.mem_singleton.mp hx]; decide
              · exact hbr hk x hx
  · rw [S_len]
    unfold textL
    simp only [List.length_append, List.length_cons, List.length_nil]
    omega
  · rw [hX, S_len]
    simp only [List.length_append, hml]
    omega
  · rw [hX, S_len]
    simp only [List.length_append, hml]
    omega
  · rw [hX, hlines]
    simp only [List.length_append]
    split <;> split <;> simp
  · rw [hX, hlines] at hl
    rcases List.mem_append.mp hl with hl | hl
    · rcases List.mem_append.mp hl with hl | hl
      · split at hl
        · cases hl
        · rw [List.mem_singleton.mp hl, empty_is, n2]
          exact ok_empty (by omega) (by omega)
      · rw [List.mem_singleton.mp hl, n1]
        exact hmain
    · split at hl
      · cases hl
      · rw [List.mem_singleton.mp hl, n3]
        exact ok_short c (by omega) (by omega)
  · rw [hX, pieces_text hb hw h0 hf hk hs hc]
    have hsoft : (("=" : Str) ++ S eol).length ≤ 3 := by rw [slen, eqL, S_len]; omega
    have hall : ∀ p ∈ (if front = [] then [] else [("" : Str)]) ++ lineW (S (mainL (bsOf ps) sg)) (("=" : Str) ++ S eol) ((w * e + more : Nat) : Int) R ++ (if back = [] then [] else [S [c, 46], ("" : Str)]), p.length ≤ 100 := by
      intro p hp
      have he0 : ("" : Str).length = 0 := by decide +kernel
      rcases List.mem_append.mp hp with hp | hp
      · rcases List.mem_append.mp hp with hp | hp
        · split at hp
          · cases hp
          · rw [List.mem_singleton.mp hp, he0]; omega
        · have := lineW_lens _ _ _ _ p hp
          rw [S_len, hml] at this
          omega
      · split at hp
        · cases hp
        · rcases List.mem_cons.mp hp with rfl | hp
          · rw [S_len]; simp
          · rw [List.mem_singleton.mp hp, he0]; omega
    have hcnt : ((if front = [] then [] else [("" : Str)]) ++ lineW (S (mainL (bsOf ps) sg)) (("=" : Str) ++ S eol) ((w * e + more : Nat) : Int) R ++ (if back = [] then [] else [S [c, 46], ("" : Str)])).length ≤ 20 := by
      simp only [List.length_append, lineW_len]
      split <;> split <;> simp <;> omega
    have h1 := sum_le hall
    rw [S_len]
    have h2 := Nat.mul_le_mul hcnt heol
    omega
end
end Mine
end

section
open PySem PySem.W PyProof.Rows PySem.Builtin PySem.Builtin.Str PySem.StrLaws
set_option Elab.async false
set_option maxRecDepth 100000
set_option linter.unusedVariables false
namespace Mine
def escL (c : Nat) : List Nat := [61, hexD (c / 16), hexD (c % 16)]
theorem hexS_S (c : Nat) : hexS c = S (escL c) := rfl
theorem chrS_S (c : Nat) : chrS c = S [c] := rfl
theorem join_chars : ∀ l : List Nat, Str.join (S []) (l.map fun c => S [c]) = S l
  | [] => rfl
  | [x] => rfl
  | x :: y :: r => by
    show S [x] ++ S [] ++ Str.join (S []) ((y :: r).map fun c => S [c]) = _
    rw [join_chars (y :: r), S_app, S_app]
    rfl
def signsN (rest : Int) (k : Nat) : List Nat := (List.range k).map fun i => plainN (rest + (i : Nat))
theorem join_signs (rest : Int) (k : Int) : Txt.join "" (signsL rest k) = S (signsN rest k.toNat) := by
  rw [join_is, empty_is]
  unfold signsL signsN
  refine Eq.trans ?_ (join_chars _)
  rw [List.map_map]
  rfl
def blkA (x : Int) (w : Nat) : List Nat := if (w == 6 && (x.fdiv 159).fmod 2 == 1) = true then [farN x, farN ((x.fdiv 159).fdiv 2)] else farN x :: signsN (x.fdiv 159) (w - 3)
def blkB (x : Int) (w : Nat) : List Nat := if (w == 6 && (x.fdiv 159).fmod 2 == 1) = true then escL (farN x) ++ escL (farN ((x.fdiv 159).fdiv 2)) else escL (farN x) ++ signsN (x.fdiv 159) (w - 3)
theorem w6 (w : Nat) : ((w : Int) == 6) = (w == 6) := by rw [Bool.eq_iff_iff, beq_iff_eq, beq_iff_eq]; omega
theorem blockA_S (x : Int) {w : Nat} (hw : 3 ≤ w) : blockA x w = S (blkA x w) := by
  unfold blockA blkA
  rw [w6]
  split
  · rw [chrS_S, chrS_S, S_app]; rfl
  · rw [join_signs, chrS_S, S_app, show ((w : Int) - 3).toNat = w - 3 by omega]; rfl
theorem blockB_S (x : Int) {w : Nat} (hw : 3 ≤ w) : blockB x w = S (blkB x w) := by
  unfold blockB blkB
  rw [w6]
  split
  · rw [hexS_S, hexS_S, S_app]
  · rw [join_signs, hexS_S, S_app, show ((w : Int) - 3).toNat = w - 3 by omega]
theorem far_enc : ∀ c ∈ farL, encL c = escL c := by decide +kernel
theorem plain_enc : ∀ c ∈ plainL, encL c = [c] := by decide +kernel
theorem plain_61 : ∀ c ∈ plainL, c ≠ 61 := by decide +kernel
theorem plain_nb : ∀ c ∈ plainL, Unicode.isLineBreak c = false := by decide +kernel
theorem hex_facts : ∀ c, c < 256 → (hexD (c / 16) ≠ 61 ∧ hexD (c % 16) ≠ 61) ∧ Unicode.isLineBreak 61 = false ∧ Unicode.isLineBreak (hexD (c / 16)) = false ∧ Unicode.isLineBreak (hexD (c % 16)) = false := by decide +kernel
theorem signs_mem (rest : Int) (k : Nat) : ∀ c ∈ signsN rest k, c ∈ plainL := by
  intro c hc
  obtain ⟨i, _, rfl⟩ := List.mem_map.mp hc
  exact (plain_get _).2.2
theorem signs_len (rest : Int) (k : Nat) : (signsN rest k).length = k := by unfold signsN; simp
theorem signs_enc (rest : Int) (k : Nat) : (signsN rest k).flatMap encL = signsN rest k := by
  have key : ∀ l : List Nat, (∀ c ∈ l, c ∈ plainL) → l.flatMap encL = l := by
    intro l
    induction l with
    | nil => intro _; rfl
    | cons c r ih =>
      intro h
      rw [List.flatMap_cons, plain_enc c (h c List.mem_cons_self), ih fun d q => h d (List.mem_cons_of_mem _ q)]
      rfl
  exact key _ (signs_mem rest k)
theorem esc_plain {c : Nat} (hc : c < 256) : Plain (escL c) := by
  have h := hex_facts c hc
  intro x hx
  unfold escL at hx
  rcases List.mem_cons.mp hx with rfl | hx
  · exact h.2.1
  · rcases List.mem_cons.mp hx with rfl | hx
    · exact h.2.2.1
    · rw [List.mem_singleton.mp hx]; exact h.2.2.2
theorem get_signs {c w : Nat} (rest : Int) (hc : c < 256) (hw : 3 ≤ w) (j : Nat) (h1 : 1 ≤ j) (hj : j < w) : (escL c ++ signsN rest (w - 3))[j]? ≠ some 61 := by
  have h := hex_facts c hc
  intro q
  by_cases h3 : j < 3
  · rw [List.getElem?_append_left (show j < (escL c).length from h3)] at q
    have : j = 1 ∨ j = 2 := by omega
    rcases this with rfl | rfl
    · simp only [escL, List.getElem?_cons_succ, List.getElem?_cons_zero, Option.some.injEq] at q
      exact h.1.1 q
    · simp only [escL, List.getElem?_cons_succ, List.getElem?_cons_zero, Option.some.injEq] at q
      exact h.1.2 q
  · rw [List.getElem?_append_right (show (escL c).length ≤ j by show 3 ≤ j; omega)] at q
    exact plain_61 61 (signs_mem rest (w - 3) 61 (List.mem_of_getElem? q)) rfl
theorem blk_ok (x : Int) {w : Nat} (hw : 3 ≤ w) (hw6 : w ≤ 6) : Blk w (blkA x w, blkB x w) := by
  have f1 := far_get x
  have f2 := far_get ((x.fdiv 159).fdiv 2)
  have g1 := hex_facts _ f1.2.1
  have g2 := hex_facts _ f2.2.1
  unfold blkA blkB
  by_cases hc : (w == 6 && (x.fdiv 159).fmod 2 == 1) = true
  · rw [if_pos hc, if_pos hc]
    rw [Bool.and_eq_true] at hc
    have hw' : w = 6 := by simpa using hc.1
    subst hw'
    refine ⟨?_, ⟨rfl, rfl, ?_, ?_⟩, fun z hz => (List.mem_append.mp hz).elim (esc_plain f1.2.1 z) (esc_plain f2.2.1 z), fun z hz => ?_, by simp⟩
    · dsimp only
      rw [List.flatMap_cons, List.flatMap_cons, far_enc _ f1.2.2, far_enc _ f2.2.2]
      rfl
    · intro q
      simp only [escL, List.cons_append, List.nil_append, List.getElem?_cons_succ, List.getElem?_cons_zero, Option.some.injEq] at q
      exact g2.1.1 q
    · intro q
      simp only [escL, List.cons_append, List.nil_append, List.getElem?_cons_succ, List.getElem?_cons_zero, Option.some.injEq] at q
      exact g2.1.2 q
    · rcases List.mem_cons.mp hz with rfl | hz
      · exact f1.2.1
      · rw [List.mem_singleton.mp hz]; exact f2.2.1
  · rw [if_neg hc, if_neg hc]
    refine ⟨?_, ⟨?_, rfl, get_signs _ f1.2.1 hw (w - 2) (by omega) (by omega), get_signs _ f1.2.1 hw (w - 1) (by omega) (by omega)⟩, fun z hz => ?_, fun z hz => ?_, ?_⟩
    · dsimp only
      rw [List.flatMap_cons, far_enc _ f1.2.2, signs_enc]
    · dsimp only
      rw [List.length_append, signs_len]
      show 3 + (w - 3) = w
      omega
    · exact (List.mem_append.mp hz).elim (esc_plain f1.2.1 z) fun hz => plain_nb z (signs_mem _ _ z hz)
    · rcases List.mem_cons.mp hz with rfl | hz
      · exact f1.2.1
      · exact plain_lt z (signs_mem _ _ z hz)
    · dsimp only
      rw [List.length_cons, signs_len]
      omega
end Mine
end

section
open PySem PySem.W PyProof.Rows PySem.Builtin PySem.Builtin.Str PySem.StrLaws
set_option Elab.async false
set_option maxRecDepth 100000
set_option linter.unusedVariables false
namespace Mine
def dots (k : Nat) : List Nat := List.replicate k 46 ++ [32, 46]
theorem dots_enc (k : Nat) : (dots k).flatMap encL = dots k := by
  have h1 : ∀ k : Nat, (List.replicate k 46).flatMap encL = List.replicate k 46 := by
    intro k
    induction k with
    | zero => rfl
    | succ k ih => rw [List.replicate_succ, List.flatMap_cons, ih, show encL 46 = [46] by decide +kernel]; rfl
  unfold dots
  rw [List.flatMap_append, h1, show [32, 46].flatMap encL = [32, 46] by decide +kernel]
theorem dots_len (k : Nat) : (dots k).length = k + 2 := by unfold dots; simp
theorem dots_plain (k : Nat) : Plain (dots k) := by
  intro x hx
  rcases List.mem_append.mp hx with hx | hx
  · rw [(List.mem_replicate.mp hx).2]; decide +kernel
  · rcases List.mem_cons.mp hx with rfl | hx
    · decide +kernel
    · rw [List.mem_singleton.mp hx]; decide +kernel
theorem mul_rep : ∀ (k : Nat) (acc : Array Nat), ((List.replicate k #[46]).foldl (· ++ ·) acc) = (acc.toList ++ List.replicate k 46).toArray
  | 0, acc => by simp
  | k + 1, acc => by
    rw [List.replicate_succ, List.foldl_cons, mul_rep k, List.replicate_succ]
    simp
theorem mul_dot (k : Nat) : Txt.mul ("." : Str) (k : Int) = S (List.replicate k 46) := by
  have e : ("." : Str) = S [46] := by decide +kernel
  rw [e]
  unfold Txt.mul
  by_cases h0 : k = 0
  · subst h0; rfl
  · rw [if_neg (by omega)]
    by_cases h1 : k = 1
    · subst h1; rfl
    · have hk : ((k : Int) == 1) = false := beq_eq_false_iff_ne.mpr (fun z => h1 (by omega))
      rw [hk, if_neg (by decide)]
      show Str.mk _ = _
      rw [show ((k : Int)).toNat = k by omega]
      have := mul_rep k #[]
      simp only [S] at this ⊢
      rw [this]
      simp
theorem stops_S {cl : List Nat} (h : cl.length ≤ 75) : stopsS (S cl) = S (dots (75 - cl.length)) := by
  unfold stopsS
  rw [S_len, show (75 : Int) - (cl.length : Int) = ((75 - cl.length : Nat) : Int) by omega, mul_dot, show (" ." : Str) = S [32, 46] by decide +kernel, S_app]
  rfl
section
variable {al cl : List Nat}
theorem dflt_line' (h : Plain cl) (k : Nat) : linesOf (S (cl ++ dots k)) = [S (cl ++ dots k)] := by
  have hs : Segs [] (cl ++ dots k) (cl ++ dots k) := .nil fun x hx => (List.mem_append.mp hx).elim (h x) (dots_plain k x)
  rw [lines_segs hs, if_neg (by unfold dots; simp)]
  rfl
theorem dflt_last (k : Nat) : ∃ l, cl ++ dots k = l ++ [46] := ⟨cl ++ (List.replicate k 46 ++ [32]), by unfold dots; simp⟩
theorem dflt_dot {k j : Nat} (h1 : cl.length ≤ j) (h2 : j < cl.length + k) : (cl ++ dots k)[j]? = some 46 := by
  unfold dots
  rw [List.getElem?_append_right h1, List.getElem?_append_left (by rw [List.length_replicate]; omega), List.getElem?_replicate, if_pos (by omega)]
theorem dflt_step {k : Nat} (hl : cl.length ≤ 60) (hk : cl.length + k = 75) : stepW (S (cl ++ dots k)) (76 - 1) 0 = (S ((cl ++ dots k).take 75 ++ [61]), 75) := by
  have hlen : (cl ++ dots k).length = 77 := by rw [List.length_append, dots_len]; omega
  unfold stepW
  rw [item_ne _ _ 73 (by decide) (by omega), item_ne _ _ 74 (by decide) (by omega), dflt_dot (by omega) (by omega), dflt_dot (by omega) (by omega)]
  rw [if_neg (by decide), if_neg (by decide)]
  have e1 : (0 : Int) + (76 - 1) = ((75 : Nat) : Int) := by decide
  have e0 : (0 : Int) = ((0 : Nat) : Int) := rfl
  rw [e1]
  conv => lhs; rw [e0]
  rw [slice_S _ 0 75 (by decide) (by omega), eq_S, S_app]
  rfl
theorem fin_dflt {k : Nat} (s : Nat) (hs : s ≤ (cl ++ dots k).length) (soft : Str) (W : Int) : finW (S (cl ++ dots k)) soft W (s : Int) = S ((cl ++ dots k).drop s) := by
  obtain ⟨l, hl⟩ := dflt_last (cl := cl) k
  have hi : Txt.item (S (cl ++ dots k)) (-1) = S [46] := by rw [hl]; exact item_last_S l 46
  unfold finW
  rw [hi, contains_dot, Bool.and_false, if_neg (by decide), slice_from _ _ hs]
theorem dflt_crlf (k : Nat) : Txt.contains (⟨#[13, 10]⟩ : Str) (Txt.item (S (cl ++ dots k)) (-1)) = false := by
  obtain ⟨l, hl⟩ := dflt_last (cl := cl) k
  rw [hl]
  exact crlf_sg l (.inr (.inr rfl))
theorem dflt_lastN (k : Nat) : lastN (S (cl ++ dots k)) < 256 := by
  obtain ⟨l, hl⟩ := dflt_last (cl := cl) k
  rw [hl, lastN_S]; decide
theorem nl_S : (⟨#[10]⟩ : Str) = S [10] := rfl
theorem dflt_two {k : Nat} (ht : al.flatMap encL = cl) (hp : Plain cl) (hl : cl.length ≤ 60) (hk : cl.length + k = 75) :
    encV (S (al ++ dots k)) (S [10]) 76 (fun _ => 1) = S ((cl ++ dots k).take 75) ++ ("=\n" : Str) ++ S ((cl ++ dots k).drop 75) := by
  have hlen : (cl ++ dots k).length = 77 := by rw [List.length_append, dots_len]; omega
  unfold encV
  rw [if_neg (by rw [S_len, List.length_append, dots_len]; omega), trS_S, List.flatMap_append, ht, dots_enc]
  unfold piecesW
  rw [dflt_line' hp, dflt_crlf, if_neg (by decide), List.append_nil, List.flatMap_cons, List.flatMap_nil, List.append_nil]
  unfold lineW rowsW
  have e1 : stW (S (cl ++ dots k)) (76 - 1) 1 = 75 := by show (stepW _ _ 0).2 = 75; rw [dflt_step hl hk]
  rw [e1, show (75 : Int) = ((75 : Nat) : Int) from rfl, fin_dflt 75 (by omega)]
  show Txt.join (S [10]) [(stepW (S (cl ++ dots k)) (76 - 1) 0).1, S ((cl ++ dots k).drop 75)] = _
  rw [dflt_step hl hk, join_is]
  show S _ ++ S [10] ++ S _ = _
  rw [show ("=\n" : Str) = S [61, 10] by decide +kernel, S_app, S_app, S_app, S_app]
  simp
theorem dflt_one {k : Nat} (ht : al.flatMap encL = cl) (hp : Plain cl) (hl : cl.length ≤ 60) (hk : cl.length + k = 74) :
    encV (S (al ++ dots k)) (S [10]) 76 (fun _ => 0) = S (cl ++ dots k) := by
  have hlen : (cl ++ dots k).length = 76 := by rw [List.length_append, dots_len]; omega
  unfold encV
  rw [if_neg (by rw [S_len, List.length_append, dots_len]; omega), trS_S, List.flatMap_append, ht, dots_enc]
  unfold piecesW
  rw [dflt_line' hp, dflt_crlf, if_neg (by decide), List.append_nil, List.flatMap_cons, List.flatMap_nil, List.append_nil]
  unfold lineW rowsW
  show Txt.join (S [10]) [finW (S (cl ++ dots k)) _ 76 ((0 : Nat) : Int)] = _
  rw [fin_dflt 0 (Nat.zero_le _), List.drop_zero, join_is]
  rfl
theorem dflt_ok {k N : Nat} (ht : al.flatMap encL = cl) (hp : Plain cl) (hal : ∀ c ∈ al, c < 256) (hal2 : al.length ≤ 100) (hl : cl.length ≤ 60) (hk : (cl.length + k = 75 ∧ N = 1) ∨ (cl.length + k = 74 ∧ N = 0)) : EncOk (S (al ++ dots k)) (S [10]) 76 (fun _ => N) := by
  have hX : trS encM (S (al ++ dots k)) = S (cl ++ dots k) := by rw [trS_S, List.flatMap_append, ht, dots_enc]
  have hlen : (cl ++ dots k).length = cl.length + k + 2 := by rw [List.length_append, dots_len]; omega
  have hline : LineOk (S (cl ++ dots k)) 76 N := by
    refine ⟨by rw [S_len]; omega, by decide, by decide, by omega, fun j hj => ?_, ?_, dflt_lastN k⟩
    · rcases hk with ⟨h1, rfl⟩ | ⟨h1, rfl⟩
      · obtain rfl : j = 0 := by omega
        show (0 : Int) ≤ _
        rw [S_len]; omega
      · omega
    · rcases hk with ⟨h1, rfl⟩ | ⟨h1, rfl⟩
      · have e1 : stW (S (cl ++ dots k)) (76 - 1) 1 = 75 := by show (stepW _ _ 0).2 = 75; rw [dflt_step hl h1]
        rw [e1, S_len]; omega
      · show ¬ (0 : Int) ≤ _
        rw [S_len]; omega
  have hd : ∀ c ∈ dots k, c < 256 := fun c hc => by
    rcases List.mem_append.mp hc with hc | hc
    · rw [(List.mem_replicate.mp hc).2]; decide
    · rcases List.mem_cons.mp hc with rfl | hc
      · decide
      · rw [List.mem_singleton.mp hc]; decide
  refine ⟨by decide, fun c hc => ?_, ?_, fun _ => ?_, ?_, by decide, ?_, fun l hl' => ?_, ?_⟩
  · rw [S_list] at hc
    exact (List.mem_append.mp hc).elim (hal c) (hd c)
  · rw [S_len, List.length_append, dots_len]; omega
  · rw [hX, S_len]; omega
  · rw [hX, S_len]; omega
  · rw [hX, dflt_line' hp]; show 1 ≤ 100; decide
  · rw [hX, dflt_line' hp] at hl'
    rw [List.mem_singleton.mp hl']
    exact hline
  · rw [hX]
    unfold piecesW
    rw [dflt_line' hp, dflt_crlf, if_neg (by decide), List.append_nil, List.flatMap_cons, List.flatMap_nil, List.append_nil]
    dsimp only
    have h1 := sum_le (lineW_lens (S (cl ++ dots k)) (("=" : Str) ++ S [10]) 76 N)
    rw [lineW_len] at h1 ⊢
    rw [slen, eqL, S_len, S_len] at h1
    rw [S_len]
    have hN : N ≤ 1 := by omega
    have h2 : (N + 1) * ((cl ++ dots k).length + (1 + [10].length) + 4) ≤ 2 * 100 := Nat.mul_le_mul (by omega) (by rw [hlen]; show _ + (1 + 1) + 4 ≤ 100; omega)
    have h3 : (N + 1) * [10].length ≤ 2 * 1 := Nat.mul_le_mul (by omega) (by simp)
    omega
end
end Mine
end

section
open PySem PySem.W PyProof.Rows
set_option Elab.async false
set_option maxRecDepth 100000
set_option linter.unusedVariables false
namespace Mine
def cutQ (m e : Nat) : Nat := dmQ (16 ^ (m - 1)) (16 ^ e - 1)
def cutDs (m e : Nat) : List Nat := dg 4 (cutQ m e) (nd (cutQ m e) 4)
def cutR (m e : Nat) : Nat := (m - 1) / e
abbrev cutX (m e : Nat) : List Nat := (List.range (cutR m e)).map fun t => e * (t + 1)
def cutOk (m e : Nat) : Bool := ((decide (16 ^ (m - 1) < 2 ^ 64) && decide (0 < 16 ^ e - 1) && decide (16 ^ e - 1 < 2 ^ 30) && decide (1 ≤ bl (16 ^ e - 1)) && decide (bl (16 ^ e - 1) ≤ 30)) && (decide (nd (16 ^ (m - 1)) (bl (16 ^ e - 1)) ≤ 2 ^ 3) && decide (cutQ m e < 2 ^ 64) && decide (nd (cutQ m e) 4 ≤ 2 ^ 3)) &&
    (decide ((cutDs m e).length ≤ m) && decide (((List.range (cutDs m e).length).filter (fun i => (cutDs m e).getD i 0 == 1)).map (fun i => m - 1 - i) = (cutX m e).reverse) && decide (dmR (16 ^ (m - 1)) (16 ^ e - 1) = 16 ^ (m - e * cutR m e - 1))) && (decide (e * cutR m e < m) && decide (m ≤ e * (cutR m e + 1))))
theorem cut_oks : ∀ m, m < 7 → ∀ e, e < 7 → 1 ≤ e → e ≤ m → cutOk m e = true := by decide +kernel
theorem cut_facts (m : Nat) (hm : m < 7) (e : Nat) (he : e < 7) (h1 : 1 ≤ e) (h2 : e ≤ m) : (16 ^ (m - 1) < 2 ^ 64 ∧ 0 < 16 ^ e - 1 ∧ 16 ^ e - 1 < 2 ^ 30 ∧ 1 ≤ bl (16 ^ e - 1) ∧ bl (16 ^ e - 1) ≤ 30) ∧ (nd (16 ^ (m - 1)) (bl (16 ^ e - 1)) ≤ 2 ^ 3 ∧ cutQ m e < 2 ^ 64 ∧ nd (cutQ m e) 4 ≤ 2 ^ 3) ∧
    ((cutDs m e).length ≤ m ∧ ((List.range (cutDs m e).length).filter (fun i => (cutDs m e).getD i 0 == 1)).map (fun i => m - 1 - i) = (cutX m e).reverse ∧ dmR (16 ^ (m - 1)) (16 ^ e - 1) = 16 ^ (m - e * cutR m e - 1)) ∧ (e * cutR m e < m ∧ m ≤ e * (cutR m e + 1)) := by
  have h := cut_oks m hm e he h1 h2
  unfold cutOk at h
  simp only [Bool.and_eq_true, decide_eq_true_eq] at h
  obtain ⟨⟨⟨⟨⟨⟨⟨a, b⟩, c⟩, d⟩, f⟩, ⟨⟨g, i⟩, j⟩⟩, ⟨⟨k, l⟩, n⟩⟩, o, p⟩ := h
  exact ⟨⟨a, b, c, d, f⟩, ⟨g, i, j⟩, ⟨k, l, n⟩, o, p⟩
theorem pick_nat {α : Type} (l : List α) {a b : Nat} (h : a ≤ b) (hb : b ≤ l.length) : pick l (some (a : Int)) (some (b : Int)) none = (l.drop a).take (b - a) := by
  rw [pick_fwd]
  show (l.drop (clipAt l.length a)).take (clipAt l.length b - clipAt l.length a) = _
  rw [clipAt_nat, clipAt_nat, Nat.min_eq_left (show a ≤ l.length by omega), Nat.min_eq_left hb]
theorem pick_rev {α : Type} (l : List α) : pick l none none (some (-1)) = l.reverse := by
  unfold pick
  show (sliceRange ((l.length : Int) - 1) (-1) (-1)).filterMap (l[·]?) = _
  rw [krv_sliceRange, krv_range, List.filterMap_reverse]
  congr 1
  have h := filterMap_run l 0 l.length
  rw [List.drop_zero, List.take_of_length_le (Nat.le_refl _)] at h
  refine Eq.trans ?_ h
  congr 1
  funext i
  rw [Nat.zero_add]
theorem join_flat : ∀ l : List (List Nat), Str.join (S []) (l.map S) = S l.flatten
  | [] => rfl
  | [x] => by show S x = S (x ++ []); rw [List.append_nil]
  | x :: y :: r => by
    show S x ++ S [] ++ Str.join (S []) ((y :: r).map S) = _
    rw [join_flat (y :: r), S_app, S_app, List.append_nil]
    rfl
abbrev pstrs (l : List Str) : List PV := l.map .str
abbrev bstr (bs : List (List Nat)) : List PV := bs.map fun b => .str (S b)
def rowsT (bs : List (List Nat)) (e : Nat) : List Str := rowsL bs e (cutR bs.length e) ++ [lastL bs e (cutR bs.length e)]
def edN (m e : Nat) : List Nat := (List.range (cutR m e + 1)).map (fun t => e * t) ++ [m]
theorem edN_eq (m e : Nat) : ([PV.int 0] ++ (nints (cutX m e).reverse).reverse) ++ [PV.int (m : Nat)] = nints (edN m e) := by
  unfold edN
  rw [List.range_succ_eq_map]
  simp [nints, Function.comp_def]
theorem edN_get {m e j : Nat} (h : j ≤ cutR m e) : (nints (edN m e))[j]? = some (.int ((e * j : Nat) : Int)) := by
  unfold edN
  rw [List.getElem?_map, List.getElem?_append_left (by rw [List.length_map, List.length_range]; omega), List.getElem?_map, List.getElem?_range (by omega)]
  rfl
theorem edN_last {m e : Nat} : (nints (edN m e))[cutR m e + 1]? = some (.int (m : Int)) := by
  unfold edN
  rw [List.getElem?_map, List.getElem?_append_right (by rw [List.length_map, List.length_range]; omega)]
  simp
theorem edN_len (m e : Nat) : (nints (edN m e)).length = cutR m e + 2 := by unfold edN; simp
def rowAt (bs : List (List Nat)) (e j : Nat) : Str := if j < cutR bs.length e then S ((bs.drop (e * j)).take e).flatten else S (bs.drop (e * cutR bs.length e)).flatten
theorem rowsT_eq (bs : List (List Nat)) (e : Nat) : (List.range (cutR bs.length e + 1)).map (rowAt bs e) = rowsT bs e := by
  unfold rowsT rowsL lastL
  rw [List.range_succ, List.map_append]
  congr 1
  · apply List.map_congr_left
    intro j hj
    unfold rowAt
    rw [if_pos (List.mem_range.mp hj)]
  · unfold rowAt
    rw [List.map_singleton, if_neg (Nat.lt_irrefl _)]
end Mine
end

section
open PySem PySem.W PyProof.Rows
set_option Elab.async false
set_option maxRecDepth 100000
set_option linter.unusedVariables false
namespace Mine
section
variable {prog : Program} {w : World} {d : Adr} {Z : List ZT} {h₀ : Heap}
theorem PurZ.le {n m : Nat} {vs : List PV} {f : List Value → Sem Value} {r : PV} (h : PurZ prog w Z h₀ n vs f r) (hl : n ≤ m) : PurZ prog w Z h₀ m vs f r := fun A H s us Q E rm => h A H s us Q E (rm.le hl)
theorem flat_le : ∀ {l : List (List Nat)} {k : Nat}, (∀ b ∈ l, b.length ≤ k) → ((l.map S).map (·.length)).sum ≤ l.length * k
  | [], k, _ => by simp
  | b :: l, k, h => by
    have ih := flat_le (l := l) (k := k) fun x hx => h x (List.mem_cons_of_mem _ hx)
    have hb := h b List.mem_cons_self
    rw [List.map_cons, List.map_cons, List.sum_cons, List.length_cons, S_len, Nat.add_mul, Nat.one_mul]
    omega
set_option maxHeartbeats 16000000 in
theorem cut_pur (t : Top1 d Z h₀) {bs : List (List Nat)} {e : Nat} (hm : bs.length < 7) (he1 : 1 ≤ e) (hem : e ≤ bs.length) (hb : ∀ b ∈ bs, b.length ≤ 100) :
    PurZ prog w Z h₀ 8 [.list (bstr bs), .int (e : Nat)] (fun us => call (.ref d.cut) us) (.tup [.list (pstrs (rowsT bs e)), .int (cutQ bs.length e : Nat), .bool true]) := by
  obtain ⟨o, pm, cd, doc, ho, hd, hcd⟩ := t.cut
  obtain ⟨c1, z1, F1, i1, j1⟩ := t.i2d
  obtain ⟨⟨f1, f2, f3, f4, f5⟩, ⟨g1, g2, g3⟩, ⟨k1, k2, k3⟩, l1, l2⟩ := cut_facts bs.length hm e (by omega) he1 hem
  have hbl : (bstr bs).length = bs.length := List.length_map ..
  refine PurZ_call (fd := fdOf "_law_cut" pm cd doc) (names := ["blocks", "each"]) (rest := ["last", "quotient", "rest", "digits_v", "cuts", "edges", "rows"]) (vs' := [.list (bstr bs), .int (e : Nat)]) t.t.G ho hd hcd rfl rfl rfl rfl (fun H h us _ hv => ?_) rfl (okNames_spec (by kernel_rfl)) (by decide +kernel) (fun L => ?_) (by kernel_rfl) (by kernel_rfl) (by kernel_rfl)
  · obtain ⟨u1, u2, rfl, _⟩ := hv.two
    exact ⟨[u1, u2], by kernel_rfl, hv⟩
  · show ExsZ prog w (T0 d) Z h₀ 7 _ [("blocks", some (.list (bstr bs))), ("each", some (.int (e : Nat))), ("last", none), ("quotient", none), ("rest", none), ("digits_v", none), ("cuts", none), ("edges", none), ("rows", none)] [] _ _
    generalize hM : bs.length = m at *
    generalize hQ : cutQ m e = q at *
    refine ExsZ_cons (Ex1.z (xassign (p := .int ((m - 1 : Nat) : Int)) (Ev_to (xsubi (xcall (xbi (.builtin "len")) cbi (xcons xvar xnil) (Pur_len_list (by rw [hbl]; omega))) Ev_int) (by rw [hbl, Int.natCast_sub (by omega)]; rfl)))) ?_
    have idm := idm_pur (prog := prog) (w := w) (k := 3) t f1 f2 f3 f4 f5 g1 (by rw [show dmQ (16 ^ (m - 1)) (16 ^ e - 1) = q from hQ]; exact g2)
    rw [show dmQ (16 ^ (m - 1)) (16 ^ e - 1) = q from hQ, k3] at idm
    refine ExsZ_cons (Ex1Z_tup2 (p1 := .int (q : Nat)) (p2 := .int ((16 ^ (m - e * cutR m e - 1) : Nat) : Int)) (EvZ_call t.hz₀ xfn t.idm.callable (xcons (Ev_to (xpow (a := 16) (b := ((m - 1 : Nat) : Int)) Ev_int xvar (by omega) (by omega) (by decide)) ?_) (xcons (Ev_to (xsubi (xpow (a := 16) (b := (e : Int)) Ev_int xvar (by omega) (by omega) (by decide)) Ev_int) ?_) xnil)) idm (by kernel_rfl))) ?_
    · rw [Int.toNat_natCast]; push_cast; rfl
    · have hp : 1 ≤ 16 ^ e := Nat.pos_of_ne_zero (by simp)
      rw [Int.toNat_natCast, Int.natCast_sub hp]; push_cast; rfl
    · refine ExsZ_cons (Ex1Z_assign (p := .list (nints (dg 4 q (nd q 4)))) (EvZ_call t.hz₀ xfn F1.callable (xcons xvar (xcons Ev_int xnil)) (PurZ.le (i2d_pur (k := 3) (n0 := 4) t.t.G t.bi F1 i1 j1 t.hz₀ (by decide) (by decide) g2 g3) (by decide)) (by kernel_rfl)) (.tail (.tail (.tail (.tail (.tail .head))))) (by kernel_rfl) (by kernel_rfl)) ?_
      have hds : cutDs m e = dg 4 q (nd q 4) := by unfold cutDs; rw [hQ]
      rw [hds] at k1 k2
      generalize dg 4 q (nd q 4) = ds at *
      have hdl : (nints ds).length = ds.length := List.length_map ..
      refine ExsZ_cons (Ex1.z (xcompA [("last", some (.int ((m - 1 : Nat) : Int))), ("digits_v", some (.list (nints ds)))] (fun p => match p with | .int j => ds.getD j.toNat 0 == 1 | _ => false) (fun p => match p with | .int j => .int (((m - 1 : Nat) : Int) - j) | p => p) (rs := nints (cutX m e).reverse)
        (xrng (xrange1 (xcall (xbi (.builtin "len")) cbi (xcons xvar xnil) (Pur_len_list (by rw [hdl]; omega))) (xbi _)) (by omega) (by omega) (by rw [hdl]; omega) (by rw [hdl]; omega)) ?_ ?_ ?_)) ?_
      · rw [rngL_length, hdl]; omega
      · intro p hp cl Ca
        obtain ⟨i, hi, rfl⟩ := List.mem_map.mp hp
        have hi' : i < ds.length := by have := List.mem_range.mp hi; rw [hdl] at this; omega
        have e0 : ((0 : Int) + (i : Int)).toNat = i := by omega
        refine ⟨EvT_one ?_, fun _ => xsubi xvar xvar⟩
        have hg : (nints ds)[((0 : Int) + (i : Int)).toNat]? = some (.int ((ds.getD i 0 : Nat) : Int)) := by
          rw [e0, List.getElem?_map, List.getElem?_eq_getElem hi', List.getD_eq_getElem?_getD, List.getElem?_eq_getElem hi']; rfl
        have c : ((((ds.getD i 0 : Nat) : Int)) == 1) = (ds.getD ((0 : Int) + (i : Int)).toNat 0 == 1) := by
          rw [e0, Bool.eq_iff_iff, beq_iff_eq, beq_iff_eq]; omega
        show EvB prog w (T0 d) h₀ _ _ _ _ (ds.getD ((0 : Int) + (i : Int)).toNat 0 == 1)
        exact c ▸ xcmp (xsubl xvar xvar (by omega) (by omega) hg) Ev_int Cmp_eq
      · have e1 : rngL 0 (nints ds).length = (List.range ds.length).map fun (i : Nat) => PV.int (0 + (i : Nat)) := by
          unfold rngL; rw [hdl, Int.sub_zero, Int.toNat_natCast]
        rw [e1, List.filter_map, List.map_map, ← k2]
        unfold nints
        rw [List.map_map]
        have e2 : ((fun p : PV => match p with | .int j => ds.getD j.toNat 0 == 1 | _ => false) ∘ fun (i : Nat) => PV.int (0 + (i : Nat))) = fun i => ds.getD i 0 == 1 := by
          funext i
          show (ds.getD ((0 : Int) + (i : Int)).toNat 0 == 1) = _
          rw [show ((0 : Int) + (i : Int)).toNat = i by omega]
        rw [e2]
        apply List.map_congr_left
        intro i hi
        have hi' := List.mem_range.mp (List.mem_filter.mp hi).1
        show PV.int (((m - 1 : Nat) : Int) - (0 + (i : Int))) = PV.int ((m - 1 - i : Nat) : Int)
        congr 1; omega
      · have hcl : (nints (cutX m e).reverse).length = cutR m e := by simp
        have hR : cutR m e < 7 := by
          have : cutR m e ≤ e * cutR m e := Nat.le_mul_of_pos_left _ he1
          omega
        refine ExsZ_cons (Ex1.z (xassign (p := .list (nints (edN m e))) (Ev_to (xladd (xladd (xlist1 Ev_int) (xsll xvar EvP_none EvP_none (EvP_some (xneg Ev_int)) (by decide) (by rw [hcl]; omega) (pick_rev _)) (by rw [List.length_reverse, hcl, List.length_singleton]; omega)) (xlist1 (xcall (xbi (.builtin "len")) cbi (xcons xvar xnil) (Pur_len_list (by rw [hbl]; omega)))) ?_) ?_))) ?_
        · rw [List.length_append, List.length_reverse, hcl, List.length_singleton, List.length_singleton]; omega
        · rw [hbl]; exact congrArg PV.list (edN_eq m e)
        · refine ExsZ_cons (Ex1.z (xcompA [("blocks", some (.list (bstr bs))), ("edges", some (.list (nints (edN m e))))] (fun _ => true) (fun p => match p with | .int j => .str (rowAt bs e j.toNat) | p => p) (rs := pstrs (rowsT bs e))
            (xrng (xrange1 (xadd (xcall (xbi (.builtin "len")) cbi (xcons xvar xnil) (Pur_len_list (by rw [hcl]; omega))) Ev_int) (xbi _)) (by omega) (by omega) (by rw [hcl]; omega) (by rw [hcl]; omega)) ?_ ?_ ?_)) ?_
          · rw [rngL_length, hcl]; omega
          · intro p hp cl Ca
            obtain ⟨i, hi, rfl⟩ := List.mem_map.mp hp
            have hi' : i < cutR m e + 1 := by have := List.mem_range.mp hi; rw [hcl] at this; omega
            have e0 : ((0 : Int) + (i : Int)).toNat = i := by omega
            have e0' : ((0 : Int) + (i : Int) + 1).toNat = i + 1 := by omega
            refine ⟨EvT_nil, fun _ => ?_⟩
            show Ev prog w (T0 d) h₀ _ _ _ _ (.str (rowAt bs e ((0 : Int) + (i : Int)).toNat))
            rw [e0]
            have hup : ∃ u : Nat, (nints (edN m e))[i + 1]? = some (.int (u : Int)) ∧ e * i ≤ u ∧ u ≤ m ∧ S ((bs.drop (e * i)).take (u - e * i)).flatten = rowAt bs e i := by
              by_cases hlt : i < cutR m e
              · refine ⟨e * (i + 1), edN_get hlt, Nat.mul_le_mul_left e (by omega), ?_, ?_⟩
                · have : e * (i + 1) ≤ e * cutR m e := Nat.mul_le_mul_left e (by omega)
                  omega
                · unfold rowAt
                  rw [hM, if_pos hlt, Nat.mul_add, Nat.mul_one, Nat.add_sub_cancel_left]
              · have hi2 : i = cutR m e := by omega
                subst hi2
                refine ⟨m, edN_last, by omega, Nat.le_refl _, ?_⟩
                unfold rowAt
                rw [hM, if_neg (Nat.lt_irrefl _), List.take_of_length_le (by rw [List.length_drop]; omega)]
            obtain ⟨u, hu1, hu2, hu3, hu4⟩ := hup
            have hp1 : pick (bstr bs) (some ((e * i : Nat) : Int)) (some (u : Int)) none = pstrs (((bs.drop (e * i)).take (u - e * i)).map S) := by
              rw [pick_nat _ hu2 (by rw [hbl]; exact hu3)]
              simp [bstr, pstrs, List.map_drop, List.map_take, Function.comp_def]
            refine Ev_to (xjoin (x := "") Ev_str (xsll xvar (EvP_some (xsubl xvar xvar (by omega) (by omega) (by rw [e0]; exact edN_get (by omega)))) (EvP_some (xsubl xvar (xadd xvar Ev_int) (by omega) (by omega) (by rw [e0']; exact hu1))) EvP_none (by decide) (by rw [hbl]; omega) hp1) ?_) ?_
            · have h3 := flat_le (l := (bs.drop (e * i)).take (u - e * i)) (k := 100) fun b q => hb b (List.mem_of_mem_drop (List.mem_of_mem_take q))
              have h4 : ((bs.drop (e * i)).take (u - e * i)).length ≤ 7 := by rw [List.length_take, List.length_drop]; omega
              rw [show ("" : Str).length = 0 from by decide +kernel]
              omega
            · rw [← hu4, join_is, empty_is, join_flat]
          · have e1 : rngL 0 (((nints (cutX m e).reverse).length : Int) + 1) = (List.range (cutR m e + 1)).map fun (i : Nat) => PV.int (0 + (i : Nat)) := by
              unfold rngL; rw [hcl]; congr 2
            rw [e1, filter_tt, List.map_map, ← rowsT_eq, hM]
            unfold pstrs
            rw [List.map_map]
            apply List.map_congr_left
            intro i hi
            show PV.str (rowAt bs e ((0 : Int) + (i : Int)).toNat) = PV.str (rowAt bs e i)
            rw [show ((0 : Int) + (i : Int)).toNat = i by omega]
          · have hel := edN_len m e
            have hidx : (nints (edN m e))[((-2 : Int) + (nints (edN m e)).length).toNat]? = some (.int ((e * cutR m e : Nat) : Int)) := by
              rw [hel, show ((-2 : Int) + ((cutR m e + 2 : Nat) : Int)).toNat = cutR m e by omega]
              exact edN_get (Nat.le_refl _)
            have c : ((((16 ^ (m - e * cutR m e - 1) : Nat) : Int)) == (16 : Int) ^ ((m : Int) - ((e * cutR m e : Nat) : Int) - 1).toNat) = true := by
              rw [beq_iff_eq, show ((m : Int) - ((e * cutR m e : Nat) : Int) - 1).toNat = m - e * cutR m e - 1 by omega]; push_cast; rfl
            refine ExsZ_stop (Ex1.z (Ex1_ret (Ev_tuple (xcons xvar (xcons xvar (xcons (xcmpv (y := .bool true) xvar (xpow (b := (m : Int) - ((e * cutR m e : Nat) : Int) - 1) Ev_int (Ev_to (xsubi (xsubi (xcall (xbi (.builtin "len")) cbi (xcons xvar xnil) (Pur_len_list (by rw [hbl]; omega))) (xsubn xvar (xneg Ev_int) (by decide) (by rw [hel]; omega) (by rw [hel]; omega) hidx)) Ev_int) (by rw [hbl])) (by omega) (by omega) (by decide)) (c ▸ Cmp_eq)) xnil))) (size_of (by simp)))))
end
end Mine
end

section
open PySem PySem.W PyProof.Rows
set_option Elab.async false
set_option maxRecDepth 100000
set_option linter.unusedVariables false
namespace Mine
section
variable {prog : Program} {w : World} {T : Tabs} {Z : List ZT} {h₀ : Heap} {n : Nat} {env : Env} {σ : Sto} {own : Own}
theorem Ctx.perm {H H' W : List Addr} {h : Heap} (C : Ctx T h₀ H W env σ own h) (e : ∀ a, a ∈ H' ↔ a ∈ H) : Ctx T h₀ H' W env σ own h := by
  have sub : ∀ c ∈ W ++ H', c ∈ W ++ H := fun c q => (List.mem_append.mp q).elim (List.mem_append_left _) fun q => List.mem_append_right _ ((e c).mp q)
  have sub' : ∀ c ∈ W ++ H, c ∈ W ++ H' := fun c q => (List.mem_append.mp q).elim (List.mem_append_left _) fun q => List.mem_append_right _ ((e c).mpr q)
  exact ⟨C.E.weak sub, fun a q => C.L a (sub a q), C.R, fun q hq => let ⟨a, vs, b, c⟩ := C.O q hq; ⟨a, vs, b, c.weak sub⟩, C.N, fun a q z => C.D a q ((e a).mp z), fun x c z => sub' c (C.C x c z), C.X⟩
theorem permI {I : Addr} {Y H : List Addr} (a : Addr) : a ∈ Y ++ I :: H ↔ a ∈ I :: (Y ++ H) := by
  simp only [List.mem_append, List.mem_cons]
  constructor
  · rintro (h | h | h)
    · exact .inr (.inl h)
    · exact .inl h
    · exact .inr (.inr h)
  · rintro (h | h | h)
    · exact .inr (.inl h)
    · exact .inl h
    · exact .inr (.inr h)
theorem Ex1Z_for {x : Str} {px pos : Pos} {iter : PySem.Expr} {body : List Stmt} {ps : List PV} (σs : Nat → Sto) (owns : Nat → Own) (hi : EvI prog w T h₀ n env (σs 0) iter ps) (hx : Storable env x = true)
    (turn : ∀ i p, ps[i]? = some p → ∃ σ₁, Upd x p (σs i) σ₁ ∧ ExsZ prog w T Z h₀ n env σ₁ (owns i) body (.next (σs (i + 1)) (owns (i + 1))))
    (hf : ∀ v, foldedSetIterable iter env v = pure v := by intro _; rfl) :
    Ex1Z prog w T Z h₀ n env (σs 0) (owns 0) (.For (.Name x px) iter body [] pos) (.next (σs ps.length) (owns ps.length)) := fun A H W s Q E rm C I0 hQ => by
  refine wpAny_For (hs := hf) (hi A (W ++ (zs Z ++ H)) s _ E rm C.E C.L fun I h1 t1 k1 fr ok => ?_)
  obtain ⟨fp, P, St, wk, st0, hfp, hfl, hIl, hSt, items⟩ := ok
  have hI0 : h₀.get? I = none := by
    cases e : h₀.get? I with
    | none => rfl
    | some o => have := C.E.ext _ _ e; rw [fr] at this; cases this
  have hcI : ∀ x c, env.cells.lookup x = some c → c ≠ I := fun x c e z => by
    obtain ⟨o, e2⟩ := C.L c (C.C x c e)
    rw [z, fr] at e2; cases e2
  have nIz : I ∉ zs Z := fun q => by
    obtain ⟨o, e⟩ := I0.live I q
    rw [fr] at e; cases e
  have nIW : I ∉ W := fun q => by
    obtain ⟨o, e⟩ := C.L I (List.mem_append_left _ q)
    rw [fr] at e; cases e
  have nIH : I ∉ H := fun q => by
    obtain ⟨o, e⟩ := C.L I (List.mem_append_right _ (List.mem_append_right _ q))
    rw [fr] at e; cases e
  have live1 : ∀ b ∈ W ++ (zs Z ++ H), ∃ o, h1.get? b = some o := fun b q => let ⟨o, e⟩ := C.L b q; ⟨o, k1 _ _ e⟩
  have inv1 : Inv Z (W ++ I :: H) h1 := (I0.sub (U' := W ++ I :: H) fun a q => by
    rcases List.mem_append.mp q with q | q
    · exact .inl (List.mem_append_left _ q)
    · rcases List.mem_cons.mp q with rfl | q
      · exact .inr fr
      · exact .inl (List.mem_append_right _ q)).ext k1
  refine codeAny_forLoop (fun k s' => ∃ i W' h' tk, s' = { s with heap := h', toks := tk } ∧ k = ps.length - i ∧ i ≤ ps.length ∧ (∀ a ∈ W, a ∈ W') ∧ (∀ a ∈ W', a ∈ W ∨ h1.get? a = none) ∧ Ctx T h₀ (zs Z ++ I :: H) W' env (σs i) (owns i) h' ∧ Inv Z (W' ++ I :: H) h' ∧
      St i h' ∧ KeepsOff (W ++ (zs Z ++ [I])) h1 h') ?_ ps.length ⟨0, W, h1, t1, rfl, rfl, Nat.zero_le _, fun _ q => q, fun _ q => .inl q, (C.wideI fr k1 hIl).perm permI, inv1, st0, fun _ _ _ e => e⟩
  rintro k s' ⟨i, W', h', tk, rfl, rfl, hiN, w1, w2, C', I', st, kp⟩
  have nI : I ∉ W' := fun q => C'.D I q (List.mem_append_right _ List.mem_cons_self)
  by_cases hlt : i < ps.length
  · refine wk.item i _ _ _ hlt st fun v h2 tk2 hP st2 k2 => ?_
    obtain ⟨p, hp, hV⟩ := items i v hP
    obtain ⟨σ₁, u, ex⟩ := turn i p hp
    have C2 : Ctx T h₀ (zs Z ++ I :: H) W' env (σs i) (owns i) h2 := ((C'.perm fun a => (permI a).symm).offI hI0 hcI k2 (hSt _ _ st2)).perm permI
    have I2 : Inv Z (W' ++ I :: H) h2 := I'.step k2 (fun a q => by rw [List.mem_singleton.mp q]; exact List.mem_append_right _ List.mem_cons_self) (fun a q => by rw [List.mem_singleton.mp q]; exact nIz) fun a q => .inl q
    have kp2 : KeepsOff (W ++ (zs Z ++ [I])) h1 h2 := fun b o q e => k2 b o (fun z => q (List.mem_append_right _ (List.mem_append_right _ z))) (kp b o q e)
    have hV2 : V (W' ++ (zs Z ++ I :: H)) h2 v p := by
      refine (hV.wide (H' := W' ++ (zs Z ++ I :: H)) fun c q => ?_).mono fun b o q e => kp2 b o (fun z => q ?_) e
      · rcases List.mem_append.mp q with q | q
        · exact (w2 c q).imp (fun z => List.mem_cons_of_mem _ (List.mem_append_left _ z)) id
        · rcases List.mem_append.mp q with q | q
          · exact .inl (List.mem_cons_of_mem _ (List.mem_append_right _ (List.mem_append_left _ q)))
          · rcases List.mem_cons.mp q with rfl | q
            · exact .inl List.mem_cons_self
            · exact .inl (List.mem_cons_of_mem _ (List.mem_append_right _ (List.mem_append_right _ q)))
      · rcases List.mem_append.mp z with z | z
        · exact List.mem_append_left _ (w1 b z)
        · rcases List.mem_append.mp z with z | z
          · exact List.mem_append_right _ (List.mem_append_left _ z)
          · exact List.mem_append_right _ (List.mem_append_right _ (List.mem_singleton.mp z ▸ List.mem_cons_self))
    refine wpAny_assign_Name (store_ C2 u hx hV2 fun h3 tk3 k3 _ C3 => ?_)
    have I3 := I2.store C2 k3
    refine ex A (I :: H) W' _ _ _ rm C3 I3 fun fl h4 tk4 k4 af => ?_
    obtain ⟨rfl, W'', w1', w2', C4, I4⟩ := af
    have kw : KeepsOff (W' ++ zs Z) h2 h4 := fun b o q e => k4 b o q (k3 b o (fun z => q (List.mem_append_left _ z)) e)
    have lf : ∀ b ∈ W'', b ∈ W ∨ h1.get? b = none := fun b q => by
      rcases w2' b q with r | r
      · exact w2 b r
      · by_cases hb : b ∈ W
        · exact .inl hb
        · refine .inr ?_
          cases e : h1.get? b with
          | none => rfl
          | some o =>
            exfalso
            have r' : h3.get? b = none := r
            by_cases hbI : b ∈ zs Z ++ I :: H
            · obtain ⟨o', e'⟩ := C3.L b (List.mem_append_right _ hbI)
              rw [e'] at r'; cases r'
            · have hbI' : b ≠ I := fun z => hbI (z ▸ List.mem_append_right _ List.mem_cons_self)
              have hbz : b ∉ zs Z := fun z => hbI (List.mem_append_left _ z)
              have e2 := kp2 b o (fun z => (List.mem_append.mp z).elim hb fun z => (List.mem_append.mp z).elim hbz fun z => hbI' (List.mem_singleton.mp z)) e
              have hbW' : b ∉ W' := fun z => (w2 b z).elim hb fun z => by rw [z] at e; cases e
              have e3 : h3.get? b = some o := k3 b o hbW' e2
              rw [e3] at r'; cases r'
    refine ⟨ps.length - (i + 1), by omega, i + 1, W'', h4, tk4, rfl, rfl, hlt, fun a q => w1' a (w1 a q), lf, C4, I4, ?_, fun b o q e => ?_⟩
    · refine wk.frame _ _ _ st2 fun b hb o e => kw b o (fun z => ?_) e
      rcases hfp b hb with rfl | hb'
      · exact (List.mem_append.mp z).elim nI nIz
      · obtain ⟨o', e'⟩ := hfl b hb
        rcases List.mem_append.mp z with z | z
        · exact (w2 b z).elim (fun z => hb' (List.mem_append_left _ z)) fun z => by rw [z] at e'; cases e'
        · exact hb' (List.mem_append_right _ (List.mem_append_left _ z))
    · refine kw b o (fun z => ?_) (kp2 b o q e)
      rcases List.mem_append.mp z with z | z
      · exact (w2 b z).elim (fun z => q (List.mem_append_left _ z)) fun z => by rw [z] at e; cases e
      · exact q (List.mem_append_right _ (List.mem_append_left _ z))
  · obtain rfl : i = ps.length := by omega
    refine wk.done _ _ _ st fun h2 tk2 k2 => ?_
    have kall : KeepsOff (W ++ zs Z) s.heap h2 := fun b o q e => by
      have hbI : b ≠ I := fun z => by rw [z, fr] at e; cases e
      refine k2 b o (fun z => hbI (List.mem_singleton.mp z)) (kp b o (fun z => ?_) (k1 b o e))
      rcases List.mem_append.mp z with z | z
      · exact q (List.mem_append_left _ z)
      · rcases List.mem_append.mp z with z | z
        · exact q (List.mem_append_right _ z)
        · exact hbI (List.mem_singleton.mp z)
    refine wpAny_execs_nil (hQ .next h2 tk2 kall ⟨rfl, W', w1, fun a q => ?_, ?_, ?_⟩)
    · rcases w2 a q with r | r
      · exact .inl r
      · refine .inr ?_
        cases e : s.heap.get? a with
        | none => rfl
        | some o => rw [k1 a o e] at r; cases r
    · exact (C'.perm fun a => (permI a).symm).letGo (fun q => (List.mem_append.mp q).elim nIz nIH) hI0 hcI k2
    · exact I'.step k2 (fun a q => by rw [List.mem_singleton.mp q]; exact List.mem_append_right _ List.mem_cons_self) (fun a q => by rw [List.mem_singleton.mp q]; exact nIz) fun a q => .inl ((List.mem_append.mp q).elim (List.mem_append_left _) fun q => List.mem_append_right _ (List.mem_cons_of_mem _ q))
end
end Mine
end

section
open PySem PySem.W PyProof.Rows
set_option Elab.async false
set_option maxRecDepth 100000
set_option linter.unusedVariables false
namespace Mine
def sgN (a : Int) : Nat := ([32, 9, 46] : List Nat).getD (a.fmod 3).toNat 0
def endL (a : Int) : List Nat := ([[], [10], [13, 10], [13]] : List (List Nat)).getD (a.fmod 4).toNat []
def eolL (a : Int) : List Nat := ([[10], [13, 10]] : List (List Nat)).getD (a.fmod 2).toNat []
def endsP : List PV := [.str "", .str "\n", .str "\r\n", .str "\r"]
def eolsP : List PV := [.str "\n", .str "\r\n"]
theorem sg_facts (a : Int) : (sgN a = 32 ∨ sgN a = 9 ∨ sgN a = 46) ∧ Txt.item (" \t." : Str) (a.fmod 3) = S [sgN a] := by
  have h := fmod_rng (a := a) (b := 3) (by decide)
  have h3 : a.fmod 3 = 0 ∨ a.fmod 3 = 1 ∨ a.fmod 3 = 2 := by omega
  unfold sgN
  rcases h3 with h | h | h <;> rw [h] <;> decide +kernel
theorem end_facts (a : Int) : BrL (endL a) ∧ endsP[(a.fmod 4).toNat]? = some (.str (S (endL a))) := by
  have h := fmod_rng (a := a) (b := 4) (by decide)
  have h3 : a.fmod 4 = 0 ∨ a.fmod 4 = 1 ∨ a.fmod 4 = 2 ∨ a.fmod 4 = 3 := by omega
  unfold endL BrL
  rcases h3 with h | h | h | h <;> rw [h] <;> exact ⟨by decide, by kernel_rfl⟩
theorem eol_facts (a : Int) : (eolL a = [10] ∨ eolL a = [13, 10]) ∧ eolsP[(a.fmod 2).toNat]? = some (.str (S (eolL a))) := by
  have h := fmod_rng (a := a) (b := 2) (by decide)
  have h3 : a.fmod 2 = 0 ∨ a.fmod 2 = 1 := by omega
  unfold eolL
  rcases h3 with h | h <;> rw [h] <;> exact ⟨by decide, by kernel_rfl⟩
def totQ (m : Nat) : Nat → Nat
  | 0 => 0
  | i + 1 => totQ m i + cutQ m (i + 1)
theorem letterL_bound {init : List Str} {last : Str} {c : Nat} {W : Int} (h1 : ∀ r ∈ init, r.length ≤ 1000) (h2 : last.length ≤ 1000) : (∀ x ∈ letterL init last (S [c]) W, x.length ≤ 1010) ∧ (letterL init last (S [c]) W).length ≤ init.length + 2 := by
  have e1 : ("=" : Str).length = 1 := by decide +kernel
  have e2 : (S [c]).length = 1 := S_len _
  have e3 : ∀ k, (hexS k).length = 3 := hexS_len
  have e4 : ("" : Str).length = 0 := by decide +kernel
  refine ⟨fun x hx => ?_, ?_⟩
  · unfold letterL at hx
    rcases List.mem_append.mp hx with hx | hx
    · obtain ⟨r, hr, rfl⟩ := List.mem_map.mp hx
      have := h1 r hr
      rw [slen, e1]; omega
    · split at hx
      · rw [List.mem_singleton.mp hx, slen, e2]; omega
      · split at hx
        · rw [List.mem_singleton.mp hx, slen, e3]; omega
        · split at hx
          · rcases List.mem_cons.mp hx with rfl | hx
            · rw [slen, slen, e2, e1]; omega
            · rw [List.mem_singleton.mp hx, e4]; omega
          · rcases List.mem_cons.mp hx with rfl | hx
            · rw [slen, e1]; omega
            · rw [List.mem_singleton.mp hx, e3]; omega
  · unfold letterL
    rw [List.length_append, List.length_map]
    split
    · rw [List.length_singleton]; omega
    · split
      · rw [List.length_singleton]; omega
      · split <;> (rw [List.length_cons, List.length_singleton]; exact Nat.le_refl _)
theorem mul_front {eol front : List Nat} (hf : BrL front) : Txt.mul (S eol) ((Txt.slice (S front) none (some 1)).length : Nat) = if front = [] then ("" : Str) else S eol := by
  rcases hf with rfl | rfl | rfl | rfl
  · have : (Txt.slice (S []) none (some 1)).length = 0 := by decide +kernel
    rw [this, if_pos rfl]; rfl
  all_goals
    have : (Txt.slice (S [10]) none (some 1)).length = 1 := by decide +kernel
    have : (Txt.slice (S [13, 10]) none (some 1)).length = 1 := by decide +kernel
    have : (Txt.slice (S [13]) none (some 1)).length = 1 := by decide +kernel
    rw [if_neg (by decide)]
    first
    | (rw [show (Txt.slice (S [10]) none (some 1)).length = 1 by assumption]; rfl)
    | (rw [show (Txt.slice (S [13, 10]) none (some 1)).length = 1 by assumption]; rfl)
    | (rw [show (Txt.slice (S [13]) none (some 1)).length = 1 by assumption]; rfl)
theorem mul01 (x : Str) (b : Nat) (hb : b ≤ 1) (hx : x.length ≤ 5) : MulOk x (b : Int) := by
  refine ⟨by rw [decide_eq_false (by omega), decide_eq_false (by omega)]; rfl, fun h1 h2 => ?_, fun h1 h2 => ?_⟩
  all_goals
    have : b = 1 := by omega
    subst this
    simp at h2
abbrev prP (ps : List (List Nat × List Nat)) : List PV := ps.map fun p => .tup [.str (S p.1), .str (S p.2)]
end Mine
end

section
open PySem PySem.W PyProof.Rows
set_option Elab.async false
set_option maxRecDepth 100000
set_option linter.unusedVariables false
namespace Mine
section
variable {prog : Program} {w : World} {d : Adr} {Z : List ZT} {h₀ : Heap}
theorem bareOf (ps : List (List Nat × List Nat)) : Txt.join "" (ps.map fun p => S p.1) = S (ps.map (·.1)).flatten := by
  rw [join_is, empty_is, ← join_flat, List.map_map]; rfl
theorem strNe {x y : Str} : (x != y) = !decide (x = y) := by
  by_cases h : x = y
  · subst h; simp
  · simp [h]
set_option maxHeartbeats 16000000 in
theorem letters_turn (t : Top1 d Z h₀) {ps : List (List Nat × List Nat)} {wd E : Nat} {A : Int} (tot : Nat) (hb : ∀ p ∈ ps, Blk wd p) (h0 : ps ≠ []) (hn : ps.length ≤ 6) (hw : 3 ≤ wd) (hw6 : wd ≤ 6) (he1 : 1 ≤ E) (hem : E ≤ ps.length) {env : Env} (henv : ∃ pm cd doc L, env = callEnvC (fdOf "_law_letters" pm cd doc) L d.letters)
    {M : Nat} (hM1 : 1 ≤ M) (hM3 : M ≤ 3) :
    Exs prog w (T0 d) h₀ 8 env [("pairs", some (.list (prP ps))), ("size", some (.int (wd : Nat))), ("amount", some (.int A)), ("ends", some (.list endsP)), ("bare", some (.str (S (ps.map (·.1)).flatten))), ("total", some (.int (tot : Nat))), ("each", some (.int (E : Nat))), ("rows", some (.list (pstrs (rowsT (bsOf ps) E)))), ("quotient", some (.int (cutQ ps.length E : Nat))), ("fits", some (.bool true)), ("sign", some (.str (S [sgN (A + (E : Nat))]))), ("back", some (.str (S (endL (A + (E : Nat)))))), ("more", some (.int (M : Nat))), ("front", none), ("ending", none), ("short", none), ("text", none), ("due", none)] []
      (match (dOf "_law_letters").body.getD 2 (.Pass default) with | .For _ _ b _ _ => (match b.getD 2 (.Pass default) with | .For _ _ b _ _ => b | _ => []) | _ => []) (.next [("pairs", some (.list (prP ps))), ("size", some (.int (wd : Nat))), ("amount", some (.int A)), ("ends", some (.list endsP)), ("bare", some (.str (S (ps.map (·.1)).flatten))), ("total", some (.int (tot : Nat))), ("each", some (.int (E : Nat))), ("rows", some (.list (pstrs (rowsT (bsOf ps) E)))), ("quotient", some (.int (cutQ ps.length E : Nat))), ("fits", some (.bool true)), ("sign", some (.str (S [sgN (A + (E : Nat))]))), ("back", some (.str (S (endL (A + (E : Nat)))))), ("more", none), ("front", none), ("ending", none), ("short", none), ("text", none), ("due", none)] []) := by
  obtain ⟨pm, cd, doc, L, rfl⟩ := henv
  have hl6 : (E : Int) ≤ 6 := by omega
  obtain ⟨hsg, hsgi⟩ := sg_facts (A + (E : Nat))
  obtain ⟨hbk, _⟩ := end_facts (A + (E : Nat))
  obtain ⟨hfr, hfri⟩ := end_facts (A + (E : Nat) + (M : Nat))
  obtain ⟨heo, heoi⟩ := eol_facts (A + (M : Nat))
  obtain ⟨hc, hci⟩ := sg_facts ((M : Nat) : Int)
  have r3 := fmod_rng (a := A + (E : Nat) + (M : Nat)) (b := 4) (by decide)
  have r4 := fmod_rng (a := A + (M : Nat)) (b := 2) (by decide)
  have r5 := fmod_rng (a := ((M : Nat) : Int)) (b := 3) (by decide)
  have hbl : (bsOf ps).length = ps.length := List.length_map ..
  obtain ⟨_, _, _, l1, l2⟩ := cut_facts ps.length (by omega) E (by omega) he1 hem
  have encT := enc_text (sg := sgN (A + (E : Nat))) (c := sgN ((M : Nat) : Int)) (front := endL (A + (E : Nat) + (M : Nat))) (back := endL (A + (E : Nat))) (eol := eolL (A + (M : Nat))) (R := cutR ps.length E) hb hw he1 (more := M) (by omega) h0 l1 hfr hbk hsg hc
  have eok := enc_ok (sg := sgN (A + (E : Nat))) (c := sgN ((M : Nat) : Int)) (front := endL (A + (E : Nat) + (M : Nat))) (back := endL (A + (E : Nat))) (eol := eolL (A + (M : Nat))) (R := cutR ps.length E) hb hw hw6 he1 (by omega) (more := M) (by omega) h0 hn l1 l2 hfr hbk hsg hc (by rcases heo with h | h <;> rw [h] <;> decide)
  have hrows : rowsT (bsOf ps) E = rowsL (bsOf ps) E (cutR ps.length E) ++ [lastL (bsOf ps) E (cutR ps.length E)] := by unfold rowsT; rw [hbl]
  have bkl : ∀ b ∈ bsOf ps, b.length = wd := fun b q => by obtain ⟨p, hp, rfl⟩ := List.mem_map.mp q; exact (hb p hp).bk.len
  have hfl : ∀ l : List (List Nat), (∀ b ∈ l, b ∈ bsOf ps) → l.length ≤ 6 → l.flatten.length ≤ 36 := fun l h1 h2 => by
    rw [flat_len (w := wd) fun b q => bkl b (h1 b q)]
    exact Nat.le_trans (Nat.mul_le_mul hw6 h2) (by decide)
  have hrl : ∀ r ∈ rowsL (bsOf ps) E (cutR ps.length E), r.length ≤ 1000 := fun r q => by
    obtain ⟨i, _, rfl⟩ := List.mem_map.mp q
    rw [S_len]
    exact Nat.le_trans (hfl _ (fun b z => List.mem_of_mem_drop (List.mem_of_mem_take z)) (by rw [List.length_take, List.length_drop, hbl]; omega)) (by decide)
  have hll : (lastL (bsOf ps) E (cutR ps.length E)).length ≤ 1000 := by
    unfold lastL
    rw [S_len]
    exact Nat.le_trans (hfl _ (fun b z => List.mem_of_mem_drop z) (by rw [List.length_drop, hbl]; omega)) (by decide)
  have hR6 : cutR ps.length E ≤ 6 := by have : cutR ps.length E ≤ E * cutR ps.length E := Nat.le_mul_of_pos_left _ he1; omega
  have hrn : (rowsL (bsOf ps) E (cutR ps.length E)).length ≤ 6 := by unfold rowsL; rw [List.length_map, List.length_range]; exact hR6
  have hbar : (ps.map (·.1)).flatten.length ≤ 36 := Nat.le_trans (flat_len1 hb) (Nat.le_trans (Nat.mul_le_mul hw6 hn) (by decide))
  have letp := letter_pur (prog := prog) (w := w) (n := 6) t.t (init := rowsL (bsOf ps) E (cutR ps.length E)) (last := lastL (bsOf ps) E (cutR ps.length E)) (ending := S (eolL (A + (M : Nat)))) (c := sgN (A + (E : Nat))) (width := ((wd * E + M : Nat) : Int)) (by omega) (by omega) hrl hll (by rw [S_len]; rcases heo with h | h <;> rw [h] <;> decide)
  have hLb := letterL_bound (c := sgN (A + (E : Nat))) (W := ((wd * E + M : Nat) : Int)) hrl hll
  rw [chrS_S] at letp
  rw [hrows]
  have encp := enc_pur3 (prog := prog) (w := w) (n := 6) t.t t.enc eok
  rw [encT] at encp
  generalize hLL : letterL (rowsL (bsOf ps) E (cutR ps.length E)) (lastL (bsOf ps) E (cutR ps.length E)) (S [sgN (A + (E : Nat))]) ((wd * E + M : Nat) : Int) = LL at *
  generalize hRR : rowsL (bsOf ps) E (cutR ps.length E) ++ [lastL (bsOf ps) E (cutR ps.length E)] = RR at *
  have hjl : (Txt.join (S (eolL (A + (M : Nat)))) LL).length ≤ 20000 := by
    have h1 := txt_join_len (S (eolL (A + (M : Nat)))) LL
    have h2 := sum_le (l := LL) (k := 1010) hLb.1
    have h3 : (S (eolL (A + (M : Nat)))).length ≤ 2 := by rw [S_len]; rcases heo with h | h <;> rw [h] <;> decide
    have h4 := hLb.2
    have h5 : LL.length * 1010 ≤ 8 * 1010 := Nat.mul_le_mul_right _ (by omega)
    have h6 : LL.length * (S (eolL (A + (M : Nat)))).length ≤ 8 * 2 := Nat.mul_le_mul (by omega) h3
    omega
  have heol2 : (S (eolL (A + (M : Nat)))).length ≤ 2 := by rw [S_len]; rcases heo with h | h <;> rw [h] <;> decide
  have hfr2 : (S (endL (A + (E : Nat) + (M : Nat)))).length ≤ 2 := by rw [S_len]; exact br_len hfr
  have hbk2 : (S (endL (A + (E : Nat)))).length ≤ 2 := by rw [S_len]; exact br_len hbk
  have hbar2 : (S (ps.map (·.1)).flatten).length ≤ 36 := by rw [S_len]; exact hbar
  have hs1 : ∀ x : Nat, (S [x]).length = 1 := fun x => S_len _
  have hs2 : ∀ x : Nat, (S [x, 46]).length = 2 := fun x => S_len _
  have hdot : ("." : Str).length = 1 := by decide +kernel
  have hmf := mul_front (eol := eolL (A + (M : Nat))) hfr
  have hmf2 : (Txt.slice (S (endL (A + (E : Nat) + (M : Nat)))) none (some 1)).length ≤ 1 := by
    generalize endL (A + (E : Nat) + (M : Nat)) = f at hfr
    rcases hfr with rfl | rfl | rfl | rfl <;> decide +kernel
  have htail : (if endL (A + (E : Nat)) = [] then ("" : Str) else S (endL (A + (E : Nat))) ++ S [sgN ((M : Nat) : Int), 46] ++ S (endL (A + (E : Nat)))) = S (tailL (endL (A + (E : Nat))) (sgN ((M : Nat) : Int))) := by
    unfold tailL
    split
    · exact empty_is
    · rw [S_app, S_app, List.append_assoc]
  have hne : (S (endL (A + (E : Nat))) != ("" : Str)) = !decide (endL (A + (E : Nat)) = []) := by
    rw [strNe, empty_is]; congr 1; rw [decide_eq_decide]; exact S_inj
  generalize endL (A + (E : Nat) + (M : Nat)) = front at *
  generalize endL (A + (E : Nat)) = back at *
  generalize eolL (A + (M : Nat)) = eol at *
  generalize sgN (A + (E : Nat)) = sg at *
  generalize hcc : sgN ((M : Nat) : Int) = c at *
  generalize hBR : (ps.map (·.1)).flatten = bare at *
  have htx : S front ++ S bare ++ S [sg] ++ S (tailL back c) = S (textL ps sg c front back) := by
    unfold textL; rw [hBR, S_app, S_app, S_app]; simp only [List.append_assoc]
  have htl := tail_len (c := c) hbk
  generalize hTL : tailL back c = tl at *
  generalize S (textL ps sg c front back) = txt at *
  have hd46 : ("." : Str) = S [46] := by decide +kernel
  have htl2 : (S tl).length ≤ 6 := by rw [S_len]; exact htl
  have hF0 : (if front = [] then ("" : Str) else S eol).length ≤ 2 := by
    split
    · rw [show ("" : Str).length = 0 from by decide +kernel]; omega
    · exact heol2
  generalize hF : (if front = [] then ("" : Str) else S eol) = F0 at *
  generalize hJ : Txt.join (S eol) LL = J at *
  have hB0 : (if back = [] then ("" : Str) else S eol ++ S [c, 46] ++ S eol).length ≤ 6 := by
    split
    · rw [show ("" : Str).length = 0 from by decide +kernel]; omega
    · rw [slen, slen, hs2]; omega
  have hself : ∀ x : Str, (x != x) = false := fun x => by simp
  have htxt : txt.length ≤ 100 := by rw [← htx, slen, slen, slen, hs1]; omega
  show Exs prog w (T0 d) h₀ 8 (callEnvC (fdOf "_law_letters" pm cd doc) L d.letters) [("pairs", some (.list (prP ps))), ("size", some (.int (wd : Nat))), ("amount", some (.int A)), ("ends", some (.list endsP)), ("bare", some (.str (S bare))), ("total", some (.int (tot : Nat))), ("each", some (.int (E : Nat))), ("rows", some (.list (pstrs RR))), ("quotient", some (.int (cutQ ps.length E : Nat))), ("fits", some (.bool true)), ("sign", some (.str (S [sg]))), ("back", some (.str (S back))), ("more", some (.int (M : Nat))), ("front", none), ("ending", none), ("short", none), ("text", none), ("due", none)] [] _ _
  refine Exs_cons (Ex1_swap2 (p1 := .str (S front)) (p2 := .str (S eol)) (xtup2 (xsubl xvar (xmod (xadd (xadd xvar xvar) xvar) Ev_int rfl) r3.1 (by omega) hfri) (xsubl (Ev_to (xlist2 Ev_str Ev_str) (show _ = PV.list eolsP by kernel_rfl)) (xmod (xadd xvar xvar) Ev_int rfl) r4.1 (by omega) heoi))) ?_
  refine Exs_cons (xassign (p := .str (S [c, 46])) (Ev_to (xcat (Ev_to (xsubs (x := " \t.") Ev_str (xmod xvar Ev_int rfl) ?_ ?_ ?_) (congrArg PV.str hci)) Ev_str ?_) ?_)) ?_
  · rw [show (" \t." : Str).length = 3 from by decide +kernel]; omega
  · rw [show (" \t." : Str).length = 3 from by decide +kernel]; omega
  · decide +kernel
  · rw [hs1, hdot]; omega
  · rw [hd46, S_app]; rfl
  refine Exs_cons (xassign (p := .str txt) (Ev_to (xcat (xcat (xcat xvar xvar ?_) xvar ?_) (Ev_if (p := .str (S tl)) (b := !decide (back = [])) (xcmp xvar Ev_str (hne ▸ Cmp_sne)) (fun e => Ev_to (xcat (xcat xvar xvar ?_) xvar ?_) ?_) (fun e => Ev_to Ev_str ?_)) ?_) (congrArg PV.str htx))) ?_
  · omega
  · rw [slen, hs1]; omega
  · rw [hs2]; omega
  · rw [slen, hs2]; omega
  · rw [if_neg (by simpa using e)] at htail; exact congrArg PV.str htail
  · rw [if_pos (by simpa using e)] at htail; exact congrArg PV.str htail
  · rw [slen, slen, hs1]; omega
  refine Exs_cons (xassign (p := .str (F0 ++ J)) (xcat (Ev_to (xrep xvar (xcall (xbi (.builtin "len")) cbi (xcons (xslc xvar EvP_none (EvP_some Ev_int) (by omega)) xnil) (Pur_len_str (by omega))) (mul01 _ _ hmf2 (by omega))) (congrArg PV.str hmf)) (xcall xfn t.t.letter.callable (xcons xvar (xcons xvar (xcons (Ev_to (xadd (Ev_bin xvar xvar (Bin_mul (IntMulOk.of_left (bits64 ?_)))) xvar) ?_) (xcons xvar xnil)))) letp) ?_)) ?_
  · rw [Int.natAbs_natCast]; omega
  · push_cast; rfl
  · omega
  refine Exs_cons (xassign (p := .str (F0 ++ J ++ (if back = [] then ("" : Str) else S eol ++ S [c, 46] ++ S eol))) (xcat xvar (Ev_if (p := .str (if back = [] then ("" : Str) else S eol ++ S [c, 46] ++ S eol)) (b := !decide (back = [])) (xcmp xvar Ev_str (hne ▸ Cmp_sne)) (fun e => Ev_to (xcat (xcat xvar xvar ?_) xvar ?_) ?_) (fun e => Ev_to Ev_str ?_)) ?_)) ?_
  · rw [hs2]; omega
  · rw [slen, hs2]; omega
  · rw [if_neg (by simpa using e)]
  · rw [if_pos (by simpa using e)]
  · rw [slen]; omega
  refine Exs_cons (Ex1_if_f (EvB_op (EvA_or (b := false) (EvB_not (b := true) (EvB_val xvar (.bool true))) (fun _ => EvA_or (b := false) (xcmp (xcall xfn t.enc.callable (xcons xvar (xcons (Ev_to (xadd (Ev_bin xvar xvar (Bin_mul (IntMulOk.of_left (bits64 ?_)))) xvar) ?_) (xcons xvar xnil))) encp) xvar (hself _ ▸ Cmp_sne)) (fun _ => EvA_or_nil) (fun e => nomatch e)) (fun e => nomatch e))) Exs_nil) ?_
  · rw [Int.natAbs_natCast]; omega
  · push_cast; rfl
  exact Exs_end
end
end Mine
end

section
open PySem PySem.W PyProof.Rows
set_option Elab.async false
set_option maxRecDepth 100000
set_option linter.unusedVariables false
namespace Mine
section
variable {prog : Program} {w : World} {d : Adr} {Z : List ZT} {h₀ : Heap}
theorem rngL_get {a b : Int} {i : Nat} {p : PV} (h : (rngL a b)[i]? = some p) : p = .int (a + (i : Nat)) ∧ (i : Int) < b - a := by
  unfold rngL at h
  rw [List.getElem?_map] at h
  cases hr : (List.range (b - a).toNat)[i]? with
  | none => rw [hr] at h; cases h
  | some j =>
    rw [hr] at h
    cases h
    obtain ⟨h1, h2⟩ := List.getElem?_eq_some_iff.mp hr
    rw [List.getElem_range] at h2
    subst h2
    rw [List.length_range] at h1
    exact ⟨rfl, by omega⟩
set_option maxHeartbeats 16000000 in
theorem letters_pur (t : Top1 d Z h₀) {ps : List (List Nat × List Nat)} {wd : Nat} {A : Int} (hb : ∀ p ∈ ps, Blk wd p) (h0 : ps ≠ []) (hn : ps.length ≤ 6) (hw : 3 ≤ wd) (hw6 : wd ≤ 6) :
    PurZ prog w Z h₀ 9 [.list (prP ps), .int (wd : Nat), .int A] (fun us => call (.ref d.letters) us) (.int (totQ ps.length ps.length : Nat)) := by
  obtain ⟨o, pm, cd, doc, ho, hd, hcd⟩ := t.letters
  have hpl : (prP ps).length = ps.length := List.length_map ..
  have hsum : ((ps.map fun p => S p.1).map (·.length)).sum + (ps.map fun p => S p.1).length * ("" : Str).length ≤ 1000000 := by
    have h1 := sum_le (l := ps.map fun p => S p.1) (k := 10) fun x hx => by
      obtain ⟨p, hp, rfl⟩ := List.mem_map.mp hx
      rw [S_len]
      have := (hb p hp).len
      omega
    rw [show ("" : Str).length = 0 from by decide +kernel]
    rw [List.length_map] at h1 ⊢
    omega
  refine PurZ_call (fd := fdOf "_law_letters" pm cd doc) (names := ["pairs", "size", "amount"]) (rest := ["ends", "bare", "total", "each", "rows", "quotient", "fits", "sign", "back", "more", "front", "ending", "short", "text", "due"]) (vs' := [.list (prP ps), .int (wd : Nat), .int A]) t.t.G ho hd hcd rfl rfl rfl rfl (fun H h us _ hv => ?_) rfl (okNames_spec (by kernel_rfl)) (by decide +kernel) (fun L => ?_) (by kernel_rfl) (by kernel_rfl) (by kernel_rfl)
  · obtain ⟨u1, u2, u3, rfl, _⟩ := hv.three
    exact ⟨[u1, u2, u3], by kernel_rfl, hv⟩
  · show ExsZ prog w (T0 d) Z h₀ 8 _ [("pairs", some (.list (prP ps))), ("size", some (.int (wd : Nat))), ("amount", some (.int A)), ("ends", none), ("bare", none), ("total", none), ("each", none), ("rows", none), ("quotient", none), ("fits", none), ("sign", none), ("back", none), ("more", none), ("front", none), ("ending", none), ("short", none), ("text", none), ("due", none)] [] _ _
    refine ExsZ_cons (Ex1.z (xassign (p := .list endsP) (Ev_to (Ev_list (xcons Ev_str (xcons Ev_str (xcons Ev_str (xcons Ev_str xnil)))) (size_of (by simp))) (show _ = PV.list endsP by kernel_rfl)))) ?_
    refine ExsZ_cons (Ex1.z (Ex1_swap2 (p1 := .str (S (ps.map (·.1)).flatten)) (p2 := .int ((totQ ps.length 0 : Nat) : Int)) (xtup2 (Ev_to (xjoin (x := "") (l := ps.map fun p => S p.1) Ev_str (xcomp [] (fun _ => true) (fun p => match p with | .tup (a :: _) => a | p => p) (EvI_list xvar) (by rw [hpl]; omega) ?_ ?_) hsum) (congrArg PV.str (bareOf ps))) (Ev_to Ev_int rfl)))) ?_
    · intro p hp cl Ca
      obtain ⟨q, _, rfl⟩ := List.mem_map.mp hp
      exact ⟨EvT_nil, fun _ => xsubt (i := 0) xvar (Ev_to Ev_int rfl) (by decide) rfl⟩
    · rw [filter_tt, List.map_map, List.map_map]; rfl
    · let σs : Nat → Sto := fun i => [("pairs", some (.list (prP ps))), ("size", some (.int (wd : Nat))), ("amount", some (.int A)), ("ends", some (.list endsP)), ("bare", some (.str (S (ps.map (·.1)).flatten))), ("total", some (.int ((totQ ps.length i : Nat) : Int))), ("each", none), ("rows", none), ("quotient", none), ("fits", none), ("sign", none), ("back", none), ("more", none), ("front", none), ("ending", none), ("short", none), ("text", none), ("due", none)]
      refine ExsZ_cons (Ex1Z_for (ps := rngL 1 ((prP ps).length + 1)) σs (fun _ => []) (xrng (xrange2 Ev_int (xadd (xcall (xbi (.builtin "len")) cbi (xcons xvar xnil) (Pur_len_list (by rw [hpl]; omega))) Ev_int) (xbi _)) (by omega) (by omega) (by rw [hpl]; omega) (by rw [hpl]; omega)) (by kernel_rfl) ?_) ?_
      · intro i p hp
        obtain ⟨rfl, hi⟩ := rngL_get hp
        rw [hpl] at hi
        have hE : (1 : Int) + (i : Nat) = ((i + 1 : Nat) : Int) := by omega
        rw [hE]
        refine ⟨[("pairs", some (.list (prP ps))), ("size", some (.int (wd : Nat))), ("amount", some (.int A)), ("ends", some (.list endsP)), ("bare", some (.str (S (ps.map (·.1)).flatten))), ("total", some (.int ((totQ ps.length i : Nat) : Int))), ("each", some (.int ((i + 1 : Nat) : Int))), ("rows", none), ("quotient", none), ("fits", none), ("sign", none), ("back", none), ("more", none), ("front", none), ("ending", none), ("short", none), ("text", none), ("due", none)], .tail (.tail (.tail (.tail (.tail (.tail .head))))), ?_⟩
        have hE1 : 1 ≤ i + 1 := by omega
        have hEm : i + 1 ≤ ps.length := by omega
        have ht1 : totQ ps.length i + cutQ ps.length (i + 1) = totQ ps.length (i + 1) := rfl
        obtain ⟨hsg, hsgi⟩ := sg_facts (A + ((i + 1 : Nat) : Int))
        obtain ⟨hbk, hbki⟩ := end_facts (A + ((i + 1 : Nat) : Int))
        have r3 := fmod_rng (a := A + ((i + 1 : Nat) : Int)) (b := 3) (by decide)
        have r4 := fmod_rng (a := A + ((i + 1 : Nat) : Int)) (b := 4) (by decide)
        have turn := fun (M : Nat) (h1 : 1 ≤ M) (h3 : M ≤ 3) => letters_turn (prog := prog) (w := w) (A := A) t (totQ ps.length i) hb h0 hn hw hw6 hE1 hEm (env := callEnvC (fdOf "_law_letters" pm cd doc) L d.letters) ⟨pm, cd, doc, L, rfl⟩ h1 h3
        have cut := cut_pur (prog := prog) (w := w) (bs := bsOf ps) (e := i + 1) t (by rw [List.length_map]; omega) hE1 (by rw [List.length_map]; omega) fun b q => by
          obtain ⟨p, hp, rfl⟩ := List.mem_map.mp q
          rw [(hb p hp).bk.len]; omega
        rw [show (bsOf ps).length = ps.length from List.length_map ..] at cut
        generalize hEE : i + 1 = E at *
        refine ExsZ_cons (Ex1Z_tup3 (p1 := .list (pstrs (rowsT (bsOf ps) E))) (p2 := .int (cutQ ps.length E : Nat)) (p3 := .bool true) (EvZ_call t.hz₀ xfn t.cut.callable (xcons (xcomp [] (fun _ => true) (fun p => match p with | .tup (_ :: a :: _) => a | p => p) (rs := bstr (bsOf ps)) (EvI_list xvar) (by rw [hpl]; omega) ?_ ?_) (xcons xvar xnil)) cut (by kernel_rfl))) ?_
        · intro p hp cl Ca
          obtain ⟨q, _, rfl⟩ := List.mem_map.mp hp
          exact ⟨EvT_nil, fun _ => xsubt (i := 1) xvar (Ev_to Ev_int rfl) (by decide) rfl⟩
        · rw [filter_tt, List.map_map]
          unfold bstr bsOf
          rw [List.map_map]; rfl
        · refine ExsZ_cons (Ex1.z (Ex1_swap2 (p1 := .str (S [sgN (A + (E : Nat))])) (p2 := .str (S (endL (A + (E : Nat))))) (xtup2 (Ev_to (xsubs (x := " \t.") Ev_str (xmod (xadd xvar xvar) Ev_int rfl) ?_ ?_ ?_) (congrArg PV.str hsgi)) (xsubl xvar (xmod (xadd xvar xvar) Ev_int rfl) r4.1 (by omega) hbki)))) ?_
          · rw [show (" \t." : Str).length = 3 from by decide +kernel]; omega
          · rw [show (" \t." : Str).length = 3 from by decide +kernel]; omega
          · decide +kernel
          · refine ExsZ_cons (Ex1.z (Ex1_for (ps := rngL 1 4) (fun _ => [("pairs", some (.list (prP ps))), ("size", some (.int (wd : Nat))), ("amount", some (.int A)), ("ends", some (.list endsP)), ("bare", some (.str (S (ps.map (·.1)).flatten))), ("total", some (.int ((totQ ps.length i : Nat) : Int))), ("each", some (.int (E : Nat))), ("rows", some (.list (pstrs (rowsT (bsOf ps) E)))), ("quotient", some (.int (cutQ ps.length E : Nat))), ("fits", some (.bool true)), ("sign", some (.str (S [sgN (A + (E : Nat))]))), ("back", some (.str (S (endL (A + (E : Nat)))))), ("more", none), ("front", none), ("ending", none), ("short", none), ("text", none), ("due", none)]) (fun _ => []) (xrng (xrange2 Ev_int Ev_int (xbi _)) (by omega) (by omega) (by omega) (by omega)) (by kernel_rfl) ?_)) ?_
            · intro j p hp
              obtain ⟨rfl, hj⟩ := rngL_get hp
              have hM : (1 : Int) + (j : Nat) = ((j + 1 : Nat) : Int) := by omega
              rw [hM]
              exact ⟨_, .tail (.tail (.tail (.tail (.tail (.tail (.tail (.tail (.tail (.tail (.tail (.tail .head))))))))))), turn (j + 1) (by omega) (by omega)⟩
            · refine ExsZ_cons (Ex1.z (xassign (p := .int ((totQ ps.length E : Nat) : Int)) (Ev_to (xadd xvar xvar) (by rw [← ht1, Int.natCast_add])))) ?_
              rw [← hEE]
              exact Exs.z Exs_end
      · have hlen : (rngL 1 ((prP ps).length + 1)).length = ps.length := by rw [rngL_length, hpl]; omega
        rw [hlen]
        exact ExsZ_stop (Ex1.z (Ex1_ret xvar))
end
end Mine
end

section
open PySem PySem.W PyProof.Rows
set_option Elab.async false
set_option maxRecDepth 100000
set_option linter.unusedVariables false
namespace Mine
def EvY (prog : Program) (w : World) (T : Tabs) (Z : List ZT) (h₀ : Heap) (n : Nat) (env : Env) (σ : Sto) (e : PySem.Expr) (p : PV) : Prop :=
  ∀ (A : Around) (H : List Addr) (s : Shared) (Q : Value → Shared → Prop) (E : Value → Shared → Prop), Room n A → CtxE T h₀ (zs Z ++ H) env σ s.heap → Live (zs Z ++ H) s.heap → Inv Z H s.heap →
    (∀ v h' tk, KeepsOff (zs Z) s.heap h' → Inv Z H h' → V (zs Z ++ H) h' v p → Q v { s with heap := h', toks := tk }) → wpAny (model prog w) A (eval e env) Q E s
section
variable {prog : Program} {w : World} {T : Tabs} {Z : List ZT} {h₀ : Heap} {n : Nat} {env : Env} {σ : Sto} {own : Own}
theorem Inv.notCell {U : List Addr} {h : Heap} (I : Inv Z U h) {c : Addr} {u : Option Value} (d : h.IsCell c u) : c ∉ zs Z := fun q => by
  obtain ⟨t, ht, rfl⟩ := List.mem_map.mp q
  obtain ⟨_, _, ps, e, _⟩ := I t ht
  obtain ⟨o, e1, e2⟩ := d
  rw [e] at e1; cases e1; cases e2
theorem Inv.notNs {U : List Addr} {h : Heap} (I : Inv Z U h) {c : Addr} {m : Str → Option Value} (d : h.Ns c m) : c ∉ zs Z := fun q => by
  obtain ⟨t, ht, rfl⟩ := List.mem_map.mp q
  obtain ⟨_, _, ps, e, _⟩ := I t ht
  obtain ⟨o, es, ep, e1, e2, _⟩ := d
  rw [e] at e1; cases e1; cases e2
theorem CtxE.offZ {H U : List Addr} {h h' : Heap} (C : CtxE T h₀ (zs Z ++ H) env σ h) (I : Inv Z U h) (hz₀ : ∀ a ∈ zs Z, h₀.get? a = none) (k : KeepsOff (zs Z) h h') : CtxE T h₀ (zs Z ++ H) env σ h' := by
  have kk : KeepsOff (zs Z ++ H) h h' := fun b o q e => k b o (fun z => q (List.mem_append_left _ z)) e
  obtain ⟨m, hm, hv⟩ := C.vars
  refine ⟨C.kind, C.glb, C.blt, C.G, fun b o e => k b o (fun z => by rw [hz₀ b z] at e; cases e) (C.ext b o e), m, ?_, fun x o e => ?_⟩
  · have nl := I.notNs hm
    obtain ⟨o, es, ep, a, r⟩ := hm
    exact ⟨o, es, ep, k _ _ nl a, r⟩
  · rcases hv x o e with ⟨a, b⟩ | ⟨c, u, a, b, d, r⟩
    · exact .inl ⟨a, fun p q => let ⟨v, y, z⟩ := b p q; ⟨v, y, z.mono kk⟩⟩
    · exact .inr ⟨c, u, a, b, let ⟨o', e1, e2⟩ := id d; ⟨o', k _ _ (I.notCell d) e1, e2⟩, fun p q => let ⟨v, y, z⟩ := r p q; ⟨v, y, z.mono kk⟩⟩
theorem Live.offZ {H : List Addr} {h h' : Heap} (l : Live (zs Z ++ H) h) (k : KeepsOff (zs Z) h h') (l' : Live (zs Z) h') : Live (zs Z ++ H) h' := fun a q => by
  by_cases e : a ∈ zs Z
  · exact l' a e
  · obtain ⟨o, ho⟩ := l a q
    exact ⟨o, k a o e ho⟩
theorem EvY_call {x : Str} {np pos : Pos} {args : List PySem.Expr} {f : Value} {ps : List PV} {y : PV} (hn : Ev prog w T h₀ n env σ (.Name x np) (.raw f)) (hf : Callable h₀ f) (ha : EvL prog w T h₀ n env σ args ps)
    (hp : PurZ prog w Z h₀ n ps (fun us => call f us) y) (hs : (starEach args env).any (·.1) = false := by kernel_rfl) : EvY prog w T Z h₀ n env σ (.Call (.Name x np) args [] pos) y := fun A H s Q E rm C l I hQ => by
  show wpAny _ A (do callWith pos (← eval (.Name x np) env) [] (backTo pos (starEach args env)) (backToKw pos (keywordEach [] env))) Q E s
  refine wpAny_bind (hn A _ s _ _ rm C l fun v h1 t1 k1 v1 => ?_)
  obtain rfl := v1.raw_inv
  refine callWith_any (backTo_plain hs) ?_ (ha A _ _ pos _ _ rm (C.ext' k1) (l.ext k1) fun vs h2 t2 k2 v2 => ⟨k2, ?_⟩)
  · rcases hf with q | q | ⟨a, o, fd, rfl, ho, hd⟩
    · exact .inl q
    · exact .inr (.inl q)
    · exact .inr (.inr ⟨a, o, fd, rfl, C.ext.trans k1 _ _ ho, hd⟩)
  · refine hp A H _ _ _ _ rm (C.ext.trans (k1.trans k2)) v2 (l.ext (k1.trans k2)) (I.ext (k1.trans k2)) fun z h3 t3 k3 v3 I3 => ?_
    exact hQ z h3 t3 (fun b o q e => k3 b o q ((k1.trans k2) b o e)) I3 v3
theorem EvY_sub {value slice : PySem.Expr} {pos : Pos} {p q y : PV} (hz₀ : ∀ a ∈ zs Z, h₀.get? a = none) (hl : EvY prog w T Z h₀ n env σ value p) (hr : Ev prog w T h₀ n env σ slice q)
    (hp : Pur prog w h₀ n [p, q] (fun us => subscriptTail value slice (us.getD 0 .none) (us.getD 1 .none)) y) : EvY prog w T Z h₀ n env σ (.Subscript value slice pos) y := fun A H s Q E rm C l I hQ =>
  Subscript_ (hl A H s _ _ rm C l I fun v h1 t1 k1 I1 v1 => by
    have C1 := C.offZ I hz₀ k1
    have l1 := l.offZ k1 I1.live
    exact hr A _ _ _ _ rm C1 l1 fun u h2 t2 k2 v2 => hp A _ _ [v, u] _ _ rm (C1.ext.trans k2) (.cons (v1.ext k2) (.cons v2 .nil)) (l1.ext k2) fun z h3 t3 k3 v3 => hQ z h3 t3 (fun b o q e => k3 b o (k2 b o (k1 b o q e))) (I1.ext (k2.trans k3)) v3)

theorem comp_coreZ {A : Around} {H : List Addr} {s₂ : Shared} {I : Addr} {elt iter : PySem.Expr} {x : Str} {px : Pos} {scope : Scope} {pos : Pos} {ps : List PV} {g : PV → Int} {fv : Sto} {E : Value → Shared → Prop}
    {RR : Value → Addr → Result → Shared → Prop} (rm : Room n A) (C : CtxE T h₀ (I :: (zs Z ++ H)) env σ s₂.heap) (lv : Live (I :: (zs Z ++ H)) s₂.heap) (hIf : I ∉ zs Z ++ H) (hI0 : h₀.get? I = none) (hIc : ∀ y o c, List.Mem (y, o) σ → env.kindOf y ≠ some .local → env.cells.lookup y = some c → c ≠ I)
    (ok : ItOK prog w A (zs Z ++ H) s₂.heap I ps) (hsz : ps.length ≤ sizeLine) (co : CompOk env scope σ fv x) (Iv : Inv Z (I :: H) s₂.heap) (hz₀ : ∀ a ∈ zs Z, h₀.get? a = none)
    (ev : ∀ p ∈ ps, ∀ cl C, EvY prog w T Z h₀ n (compEnvC scope cl C env) ((x, some p) :: fv) elt (.int (g p)))
    (hRR : ∀ D C h' tk m' ys, s₂.heap.get? D = none → s₂.heap.get? C = none → D ≠ C → h'.Ns C m' → h'.PlainList D (List.toArray ys) → VL [] h' ys ((ps.map g).map .int) → (∀ b o, b ≠ I → b ∉ zs Z → s₂.heap.get? b = some o → h'.get? b = some o) → Inv Z (D :: C :: I :: H) h' → RR (.ref D) C (.ok .next) { s₂ with heap := h', toks := tk }) :
    wpAny (model prog w) A (newList []) (fun acc s₃ => wpAny (model prog w) A (newFunctionEnv scope env.globals (closF env scope.names []) [] env.qual none .none (some env)) (fun cenv s₄ =>
      codeAny (model prog w) A (.compStart (.ListComp elt [⟨.Name x px, iter, [], 0⟩] scope pos) 0 (.ref I) acc { cenv with scope := relabel scope env }) (RR acc cenv.locals) s₄) E s₃) E s₂ := by
  obtain ⟨fp, P, St, wk, st0, hfp, hfl, hIl, hSt, items⟩ := ok
  refine wpAny_newObj_type (wpAny_newFunctionEnv co.cell (by intro y hy; simp at hy) (fun h₁ hns₁ hsb₁ => ?_) co.kind)
  dsimp only at hns₁ hsb₁ ⊢
  generalize hH2 : s₂.heap.push { cls := .type "list", dict := none, data := .seq ([] : List Value).toArray } = H2 at hns₁ hsb₁ ⊢
  have hC : H2.objs.size = s₂.heap.objs.size + 1 := by rw [← hH2, Heap.size_push]
  have hDC : s₂.heap.objs.size ≠ H2.objs.size := by rw [hC]; exact Nat.ne_of_lt (Nat.lt_succ_self _)
  have frD : s₂.heap.get? s₂.heap.objs.size = none := get_none (Nat.le_refl _)
  have frC : s₂.heap.get? H2.objs.size = none := get_none (by rw [hC]; exact Nat.le_succ _)
  have neD : ∀ {c : Addr} {o : Obj}, s₂.heap.get? c = some o → c ≠ s₂.heap.objs.size := fun e z => by rw [z, frD] at e; cases e
  have neC : ∀ {c : Addr} {o : Obj}, s₂.heap.get? c = some o → c ≠ H2.objs.size := fun e z => by rw [z, frC] at e; cases e
  have old : Ext s₂.heap h₁ := fun c o e => hsb₁.extBut c o (neC e) (Heap.get?_push_of_some _ (hH2 ▸ Heap.get?_push_of_some _ e))
  have hacc : h₁.PlainList s₂.heap.objs.size ([] : List Value).toArray := ⟨_, hsb₁.extBut _ _ hDC (Heap.get?_push_of_some _ (hH2 ▸ Heap.get?_push_size _ rfl))⟩
  have hst₁ : St 0 h₁ := wk.frame _ _ _ st0 fun c _ o e => old c o e
  generalize hD : s₂.heap.objs.size = D at *
  generalize hCc : H2.objs.size = Ca at *
  have hfpC : ∀ c ∈ fp, c ≠ D ∧ c ≠ Ca := fun c q => let ⟨o, e⟩ := hfl c q; ⟨neD e, neC e⟩
  have nIz : I ∉ zs Z := fun q => hIf (List.mem_append_left _ q)
  have nDz : D ∉ zs Z := fun q => let ⟨o, e⟩ := Iv.live D q; neD e rfl
  have nCz : Ca ∉ zs Z := fun q => let ⟨o, e⟩ := Iv.live Ca q; neC e rfl
  have hfpz : ∀ c ∈ fp, c ∉ zs Z := fun c q z => (hfp c q).elim (fun e => nIz (e ▸ z)) fun e => e (List.mem_append_left _ z)
  have Iv1 : Inv Z (D :: Ca :: I :: H) h₁ := (Iv.sub (U' := D :: Ca :: I :: H) fun a q => by
    rcases List.mem_cons.mp q with rfl | q
    · exact .inr frD
    · rcases List.mem_cons.mp q with rfl | q
      · exact .inr frC
      · exact .inl q).ext old
  have loop : ∀ s₃ : Shared, s₃ = { s₂ with heap := h₁, toks := s₂.toks + ([] : List (Str × Value)).length } →
      codeAny (model prog w) A (.compLoop (.ListComp elt [⟨.Name x px, iter, [], 0⟩] scope pos) 0 (.ref I) (.ref D) (compEnvC scope (closF env scope.names []) Ca env)) (RR (.ref D) Ca) s₃ := by
    rintro s₃ rfl
    refine codeAny_compLoop_tests (fun k s' => ∃ i h' tk ys m', s' = { s₂ with heap := h', toks := tk } ∧ i ≤ ps.length ∧ k = ps.length - i ∧ St i h' ∧ h'.PlainList D (List.toArray ys) ∧ h'.Ns Ca m' ∧
      VL [] h' ys (((ps.take i).map g).map .int) ∧ (∀ c o, c ≠ I → c ∉ zs Z → s₂.heap.get? c = some o → h'.get? c = some o) ∧ Inv Z (D :: Ca :: I :: H) h') ?_ ps.length
      ⟨0, h₁, _, [], _, rfl, Nat.zero_le _, rfl, hst₁, hacc, hns₁, by simpa using VL.nil, fun c o _ _ e => old c o e, Iv1⟩
    rintro k s' ⟨i, h', tk, ys, m', rfl, hiN, rfl, st, hpl, hns, hvl, kp, Iv'⟩
    by_cases hlt : i < ps.length
    · refine wk.item i _ _ _ hlt st fun v h2 tk2 hP st2 k2 => ?_
      obtain ⟨p, hp, hV⟩ := items i v hP
      have hIo : ∃ o, s₂.heap.get? I = some o := hIl
      have nID : D ≠ I := fun z => by obtain ⟨o, e⟩ := hIo; exact neD e z.symm
      have nIC : Ca ≠ I := fun z => by obtain ⟨o, e⟩ := hIo; exact neC e z.symm
      have k2' : ∀ c o, c ≠ I → h'.get? c = some o → h2.get? c = some o := fun c o q e => k2 c o (fun z => q (List.mem_singleton.mp z)) e
      have Iv2 : Inv Z (D :: Ca :: I :: H) h2 := Iv'.step k2 (fun a q => by rw [List.mem_singleton.mp q]; simp) (fun a q => by rw [List.mem_singleton.mp q]; exact nIz) fun a q => .inl q
      have hns2 : h2.Ns Ca m' := let ⟨o, es, ep, a, r⟩ := hns; ⟨o, es, ep, k2' _ _ nIC a, r⟩
      refine wpAny_assign_Name (wpAny_storeName_local (lookup_relabel_local co.x) hns2 (fun h3 hns3 hsb3 => ?_) (by show (scope.kind == .class || (scope.kind == .module && _)) = false; rw [co.kind]; rfl))
      have k3 : ∀ c o, c ≠ Ca → h2.get? c = some o → h3.get? c = some o := fun c o q e => hsb3.extBut c o q e
      have Iv3 : Inv Z (D :: Ca :: I :: H) h3 := Iv2.step (W := [Ca]) (fun c o q e => k3 c o (fun z => q (by rw [z]; simp)) e) (fun a q => by rw [List.mem_singleton.mp q]; simp) (fun a q => by rw [List.mem_singleton.mp q]; exact nCz) fun a q => .inl q
      have kp3 : ∀ c o, c ≠ I → c ∉ zs Z → s₂.heap.get? c = some o → h3.get? c = some o := fun c o q qz e => k3 c o (neC e) (k2' c o q (kp c o q qz e))
      have st3 : St (i + 1) h3 := wk.frame _ _ _ st2 fun c q o e => k3 c o (hfpC c q).2 e
      have live3 : Live (zs Z ++ (D :: Ca :: I :: H)) h3 := fun c q => by
        by_cases hcz : c ∈ zs Z
        · exact Iv3.live c hcz
        rcases List.mem_append.mp q with q | q
        · exact absurd q hcz
        rcases List.mem_cons.mp q with rfl | q
        · obtain ⟨kz, e⟩ := hpl
          exact ⟨_, k3 _ _ hDC (k2' _ _ nID e)⟩
        · rcases List.mem_cons.mp q with rfl | q
          · exact let ⟨o, _, _, e, _⟩ := hns3; ⟨o, e⟩
          · rcases List.mem_cons.mp q with rfl | q
            · exact hSt _ _ st3
            · obtain ⟨o, e⟩ := lv c (List.mem_cons_of_mem _ (List.mem_append_right _ q))
              exact ⟨o, kp3 c o (fun z => hIf (z ▸ List.mem_append_right _ q)) hcz e⟩
      have wide : ∀ c ∈ zs Z ++ (D :: Ca :: I :: H), c ∈ I :: (zs Z ++ H) ∨ s₂.heap.get? c = none := fun c q => by
        rcases List.mem_append.mp q with q | q
        · exact .inl (List.mem_cons_of_mem _ (List.mem_append_left _ q))
        rcases List.mem_cons.mp q with rfl | q
        · exact .inr frD
        · rcases List.mem_cons.mp q with rfl | q
          · exact .inr frC
          · rcases List.mem_cons.mp q with rfl | q
            · exact .inl List.mem_cons_self
            · exact .inl (List.mem_cons_of_mem _ (List.mem_append_right _ q))
      have kpH : KeepsOff (zs Z ++ (D :: Ca :: I :: H)) s₂.heap h3 := fun c o q e => kp3 c o (fun z => q (by rw [z]; simp)) (fun z => q (List.mem_append_left _ z)) e
      have hV3 : V (zs Z ++ (D :: Ca :: I :: H)) h3 v p := (hV.wide wide).mono kpH
      have CE : CtxE T h₀ (zs Z ++ (D :: Ca :: I :: H)) (compEnvC scope (closF env scope.names []) Ca env) ((x, some p) :: fv) h3 := by
        obtain ⟨m0, hm0, hv0⟩ := C.vars
        have hlook : ∀ y ∈ scope.names, y.2 = .free → (env.cells.lookup y.1).isSome = true := fun y hy hf => by
          obtain ⟨o, ho, hk⟩ := co.free y hy hf
          rcases hv0 y.1 o ho with ⟨a, _⟩ | ⟨c, u, _, a, _⟩
          · exact absurd a hk
          · rw [a]; rfl
        refine ⟨co.kind, C.glb, C.blt, C.G, fun c o e => kp3 c o (fun z => by rw [z, hI0] at e; cases e) (fun z => by rw [hz₀ c z] at e; cases e) (C.ext c o e), _, hns3, fun y o hy => ?_⟩
        cases hy with
        | head => exact .inl ⟨lookup_relabel_local co.x, fun q e => by cases e; exact ⟨v, by simp, hV3⟩⟩
        | tail _ hy =>
          obtain ⟨hyσ, hyf, hyk⟩ := co.fv (y, o) hy
          obtain ⟨o2, ho2, hk2⟩ := co.free (y, .free) hyf rfl
          rcases hv0 y o hyσ with ⟨a, _⟩ | ⟨c, u, a1, a2, a3, a4⟩
          · exact absurd a hk2
          · obtain ⟨c', hc'⟩ := Option.isSome_iff_exists.mp (closF_has (env := env) (y := y) scope.names [] (.inl hyf))
            have hcc := closF_mem scope.names [] (by simp) hlook (mem_of_lookup hc')
            have hcc' : env.cells.lookup y = some c' := hcc
            rw [a2] at hcc'
            cases hcc'
            have ncz := Iv.notCell a3
            refine .inr ⟨c, u, .inl hyk, hc', let ⟨oc, e1, e2⟩ := id a3; ⟨oc, kp3 c oc (hIc y o c hyσ hk2 a2) ncz e1, e2⟩, fun q e => ?_⟩
            obtain ⟨z, f1, f2⟩ := a4 q e
            exact ⟨z, f1, (f2.wide wide).mono kpH⟩
      have hpl3 : h3.PlainList D ys.toArray := hpl.at fun o e => k3 _ o hDC (k2' _ o nID e)
      have tk1 : ps.take (i + 1) = ps.take i ++ [p] := by rw [List.take_add_one, hp]; rfl
      refine wpAny_tests_nil ?_
      rw [if_pos rfl]
      refine ev p (List.mem_of_getElem? hp) (closF env scope.names []) Ca A _ _ _ _ rm CE live3 Iv3 fun u h5 tk5 k5 Iv5 hu => ?_
      obtain ⟨t, rfl⟩ := hu.int_inv
      have hlen := hvl.length
      have hsz' : ys.toArray.size ≤ sizeLine := by
        rw [List.size_toArray, hlen, List.length_map, List.length_map, List.length_take]
        omega
      have hpl5 : h5.PlainList D ys.toArray := hpl3.at fun o e => k5 _ o nDz e
      refine wpAny_list_append_plain (hsz := hsz') hpl5 fun h6 hpl6 hsb6 => ?_
      have k6 : ∀ c o, c ≠ D → h5.get? c = some o → h6.get? c = some o := fun c o q e => hsb6.extBut c o q e
      have Iv6 : Inv Z (D :: Ca :: I :: H) h6 := Iv5.step (W := [D]) (fun c o q e => k6 c o (fun z => q (by rw [z]; simp)) e) (fun a q => by rw [List.mem_singleton.mp q]; simp) (fun a q => by rw [List.mem_singleton.mp q]; exact nDz) fun a q => .inl q
      have hns5 : ∃ m5, h5.Ns Ca m5 := let ⟨o, es, ep, a, r⟩ := hns3; ⟨_, o, es, ep, k5 _ _ nCz a, r⟩
      obtain ⟨m5, hns5⟩ := hns5
      refine ⟨ps.length - (i + 1), by omega, i + 1, h6, tk5, ys ++ [.int (g p) t], _, rfl, hlt, rfl, wk.frame _ _ _ st3 fun c q o e => k6 c o (hfpC c q).1 (k5 c o (hfpz c q) e), ?_, hns5.sameBut hsb6 (Ne.symm hDC), ?_, fun c o q qz e => k6 c o (neD e) (k5 c o qz (kp3 c o q qz e)), Iv6⟩
      · simpa using hpl6
      · rw [tk1, List.map_append, List.map_append]
        exact (VL_ints hvl).append (.cons (.int _ _) .nil)
    · obtain rfl : i = ps.length := by omega
      refine wk.done _ _ _ st fun h2 tk2 k2 => ?_
      have hIo : ∃ o, s₂.heap.get? I = some o := hIl
      have nID : D ≠ I := fun z => by obtain ⟨o, e⟩ := hIo; exact neD e z.symm
      have nIC : Ca ≠ I := fun z => by obtain ⟨o, e⟩ := hIo; exact neC e z.symm
      have k2' : ∀ c o, c ≠ I → h'.get? c = some o → h2.get? c = some o := fun c o q e => k2 c o (fun z => q (List.mem_singleton.mp z)) e
      rw [List.take_length] at hvl
      exact hRR D Ca h2 tk2 m' ys frD frC hDC (let ⟨o, es, ep, a, r⟩ := hns; ⟨o, es, ep, k2' _ _ nIC a, r⟩) (hpl.at fun o e => k2' _ o nID e) (VL_ints hvl) (fun c o q qz e => k2' c o q (kp c o q qz e))
        (Iv'.step k2 (fun a q => by rw [List.mem_singleton.mp q]; simp) (fun a q => by rw [List.mem_singleton.mp q]; exact nIz) fun a q => .inl q)
  exact codeAny_compStart_list (loop _ rfl) (wk.self 0 _ _ _ hst₁ (loop _ rfl))

theorem EvZ_comp {elt iter : PySem.Expr} {x : Str} {px : Pos} {scope : Scope} {pos : Pos} {ps : List PV} {g : PV → Int} (fv : Sto) (hz₀ : ∀ a ∈ zs Z, h₀.get? a = none) (hi : EvI prog w T h₀ n env σ iter ps) (hsz : ps.length ≤ sizeLine)
    (co : CompOk env scope σ fv x) (ev : ∀ p ∈ ps, ∀ cl C, EvY prog w T Z h₀ n (compEnvC scope cl C env) ((x, some p) :: fv) elt (.int (g p)))
    (hf : ∀ v, foldedSetIterable iter env v = pure v := by intro _; rfl) :
    EvZ prog w T Z h₀ n env σ own (.ListComp elt [⟨.Name x px, iter, [], 0⟩] scope pos) (.list ((ps.map g).map .int)) := fun A H W s Q E rm C I0 hQ => by
  rw [eval_ListComp]
  have CE : CtxE T h₀ (zs Z ++ (W ++ H)) env σ s.heap := C.E.weak fun a q => mid (X := zs Z) a q
  have LE : Live (zs Z ++ (W ++ H)) s.heap := fun a q => C.L a (mid (X := zs Z) a q)
  refine wpAny_comprehension_free (use := none) rfl hf (comp_free CE co) co.kind co.names (hi A (zs Z ++ (W ++ H)) s _ E rm CE LE fun I h1 t1 k1 fr ok => ?_)
  obtain ⟨C1, l1, a1, a2, a3⟩ := EvI_core CE LE k1 fr (let ⟨fp, P, St, wk, st0, hfp, hfl, hIl, _⟩ := ok; hIl)
  have Iv : Inv Z (I :: (W ++ H)) h1 := (I0.sub (U' := I :: (W ++ H)) fun a q => (List.mem_cons.mp q).elim (fun e => .inr (e ▸ fr)) .inl).ext k1
  refine comp_coreZ (RR := fun acc C => compPost (model prog w) A E none Q acc C) rm C1 l1 a1 a2 a3 ok hsz co Iv hz₀ ev ?_
  intro D Ca h' tk m' ys hD hC hDC hns hpl hvl kp Iv'
  refine ⟨m', hns, fun h'' hs'' => ?_⟩
  have frC : s.heap.get? Ca = none := by
    cases e : s.heap.get? Ca with
    | none => rfl
    | some o => have := k1 _ _ e; dsimp only at hC; rw [hC] at this; cases this
  have frD : s.heap.get? D = none := by
    cases e : s.heap.get? D with
    | none => rfl
    | some o => have := k1 _ _ e; dsimp only at hD; rw [hD] at this; cases this
  have kz : KeepsOff (zs Z) s.heap h'' := fun c o q e => by
    have hcI : c ≠ I := fun z => by rw [z, fr] at e; cases e
    exact hs''.extBut c o (fun z => by rw [z, frC] at e; cases e) (kp c o hcI q (k1 c o e))
  have nCz : Ca ∉ zs Z := fun q => by
    obtain ⟨o, e⟩ := I0.live Ca q
    rw [frC] at e; cases e
  have I'' : Inv Z (W ++ H) h'' := Iv'.step (W := [Ca]) (fun c o q e => hs''.extBut c o (fun z => q (by rw [z]; simp)) e) (fun a q => by rw [List.mem_singleton.mp q]; simp) (fun a q => by rw [List.mem_singleton.mp q]; exact nCz) fun a q => .inl (by simp only [List.mem_cons]; exact .inr (.inr (.inr q)))
  have pl2 : h''.PlainList D ys.toArray := hpl.at fun o e => hs''.extBut _ _ hDC e
  refine hQ (.ref D) h'' tk kz (C.offZ I0 hz₀ kz I''.live) I'' (.list (fun q => ?_) pl2 (VL_ints hvl))
  obtain ⟨o, e⟩ := C.L D q
  rw [frD] at e; cases e
theorem EvZ_bi1 {x : Str} {np pos : Pos} {e : PySem.Expr} {id : String} {p y : PV} (hn : Ev prog w T h₀ n env σ (.Name x np) (.raw (.builtin id))) (he : EvZ prog w T Z h₀ n env σ own e p)
    (hp : Pur prog w h₀ n [p] (fun us => call (.builtin id) us) y) (hst : starEach [e] env = [(false, eval e env)]) : EvZ prog w T Z h₀ n env σ own (.Call (.Name x np) [e] [] pos) y := fun A H W s Q E rm C I hQ => by
  show wpAny _ A (do callWith pos (← eval (.Name x np) env) [] (backTo pos (starEach [e] env)) (backToKw pos (keywordEach [] env))) Q E s
  refine wpAny_bind (hn A _ s _ _ rm C.E C.L fun v h1 t1 k1 v1 => ?_)
  obtain rfl := v1.raw_inv
  have hany : (backTo pos (starEach [e] env)).any (·.1) = false := backTo_plain (by rw [hst]; rfl)
  refine Calls.callWith_builtin hany (evalArgs_spliced hany ?_)
  rw [hst]
  refine Calls.spliced_cons (he A H W _ _ _ rm (C.ext k1) (I.ext k1) fun z h2 t2 k2 C2 I2 hz => Calls.spliced_nil ?_)
  exact hp A (W ++ (zs Z ++ H)) _ [z] _ _ rm C2.E.ext (.cons hz .nil) C2.L fun u h3 t3 k3 hu => hQ u h3 t3 (fun b o q e => k3 b o (k2 b o q (k1 b o e))) (C2.ext k3) (I2.ext k3) hu
end
end Mine
end

section
open PySem PySem.W PyProof.Rows
set_option Elab.async false
set_option maxRecDepth 100000
set_option linter.unusedVariables false
namespace Mine
def sqN (last : Nat) : List Nat := ((List.range last).map (· + 1)).filter fun k => decide (k * k ≤ last)
def claA (last k : Nat) : Nat := 16 ^ (last - k * k) * (16 ^ k + 1)
def claV (last : Nat) : Nat := ((sqN last).map fun k => dmQ (claA last k) (16 ^ k - 1)).sum
def claOk (last k : Nat) : Bool := (decide (claA last k < 2 ^ 64) && decide (0 < 16 ^ k - 1) && decide (16 ^ k - 1 < 2 ^ 30) && decide (1 ≤ bl (16 ^ k - 1)) && decide (bl (16 ^ k - 1) ≤ 30)) && (decide (nd (claA last k) (bl (16 ^ k - 1)) ≤ 2 ^ 3) && decide (dmQ (claA last k) (16 ^ k - 1) < 2 ^ 64)) && (decide (k * k ≤ last) && decide (1 ≤ k) && decide (k < 7))
theorem cla_oks : ∀ last, last < 6 → ∀ k ∈ sqN last, claOk last k = true := by decide +kernel
theorem cla_facts {last k : Nat} (h1 : last < 6) (h2 : k ∈ sqN last) : (claA last k < 2 ^ 64 ∧ 0 < 16 ^ k - 1 ∧ 16 ^ k - 1 < 2 ^ 30 ∧ 1 ≤ bl (16 ^ k - 1) ∧ bl (16 ^ k - 1) ≤ 30) ∧ (nd (claA last k) (bl (16 ^ k - 1)) ≤ 2 ^ 3 ∧ dmQ (claA last k) (16 ^ k - 1) < 2 ^ 64) ∧ k * k ≤ last ∧ 1 ≤ k ∧ k < 7 := by
  have h := cla_oks last h1 k h2
  unfold claOk at h
  simp only [Bool.and_eq_true, decide_eq_true_eq] at h
  obtain ⟨⟨⟨⟨⟨⟨a, b⟩, c⟩, d⟩, e⟩, f, g⟩, ⟨i, j⟩, k⟩ := h
  exact ⟨⟨a, b, c, d, e⟩, ⟨f, g⟩, i, j, k⟩
def claB (last : Nat) : PV → Bool := fun p => match p with | .int j => decide (j * j ≤ (last : Int)) | _ => false
def claG (last : Nat) : PV → Int := fun p => match p with | .int j => (dmQ (claA last j.toNat) (16 ^ j.toNat - 1) : Nat) | _ => 0
theorem cla_sq {last : Nat} (h : last < 6) : ((rngL 1 ((last : Int) + 1)).filter (claB last)).map (fun p => p) = nints (sqN last) := by
  have : last = 0 ∨ last = 1 ∨ last = 2 ∨ last = 3 ∨ last = 4 ∨ last = 5 := by omega
  rcases this with rfl | rfl | rfl | rfl | rfl | rfl <;> kernel_rfl
theorem cla_sums : ∀ last, last < 6 → ((nints (sqN last)).map (claG last)).sum = ((claV last : Nat) : Int) := by decide +kernel
section
variable {prog : Program} {w : World} {d : Adr} {Z : List ZT} {h₀ : Heap}
set_option maxHeartbeats 16000000 in
theorem clausen_pur (t : Top1 d Z h₀) {last : Nat} (hl : last < 6) : PurZ prog w Z h₀ 8 [.int (last : Nat)] (fun us => call (.ref d.clausen) us) (.int (claV last : Nat)) := by
  obtain ⟨o, pm, cd, doc, ho, hd, hcd⟩ := t.clausen
  refine PurZ_call (fd := fdOf "_law_clausen" pm cd doc) (names := ["last"]) (rest := ["squares"]) (vs' := [.int (last : Nat)]) t.t.G ho hd hcd rfl rfl rfl rfl (fun H h us _ hv => ?_) rfl (okNames_spec (by kernel_rfl)) (by decide +kernel) (fun L => ?_) (by kernel_rfl) (by kernel_rfl) (by kernel_rfl)
  · obtain ⟨u1, rfl, _⟩ := hv.one
    exact ⟨[u1], by kernel_rfl, hv⟩
  · show ExsZ prog w (T0 d) Z h₀ 7 _ [("last", some (.int (last : Nat))), ("squares", none)] [] _ _
    have sql : (nints (sqN last)).length ≤ 10 := by
      have h1 : (nints (sqN last)).length ≤ last := by
        unfold nints sqN
        rw [List.length_map]
        exact Nat.le_trans (List.length_filter_le _ _) (by simp)
      omega
    refine ExsZ_cons (Ex1.z (xcompA [("last", some (.int (last : Nat)))] (claB last) (fun p => p) (rs := nints (sqN last)) (xrng (xrange2 Ev_int (xadd xvar Ev_int) (xbi _)) (by omega) (by omega) (by omega) (by omega)) ?_ ?_ (cla_sq hl))) ?_
    · rw [rngL_length]; omega
    · intro p hp cl Ca
      obtain ⟨i, hi, rfl⟩ := List.mem_map.mp hp
      have hi' : i < last := by have := List.mem_range.mp hi; omega
      exact ⟨EvT_one (xcmp (Ev_bin xvar xvar (Bin_mul (IntMulOk.of_left (bits64 (by omega))))) xvar Cmp_le), fun _ => xvar⟩
    · have hsum := cla_sums last hl
      refine ExsZ_stop (Ex1Z_ret ?_)
      rw [← hsum]
      refine EvZ_bi1 (xbi (.builtin "sum")) (EvZ_comp (g := claG last) [("last", some (.int (last : Nat)))] t.hz₀ (EvI_list xvar) (size_of (by omega)) (compOk (by kernel_rfl) (by with_reducible repeat (first | exact .nil | apply SubL.keep | apply SubL.skip))) ?_) Pur_sum (by kernel_rfl)
      intro p hp cl Ca
      obtain ⟨k, hk, rfl⟩ := List.mem_map.mp hp
      obtain ⟨⟨f1, f2, f3, f4, f5⟩, ⟨g1, g2⟩, i1, i2, i3⟩ := cla_facts hl hk
      have idm := idm_pur (prog := prog) (w := w) (k := 3) t f1 f2 f3 f4 f5 g1 g2
      have hkk : ((k : Int) * (k : Int)) = ((k * k : Nat) : Int) := by rw [Int.natCast_mul]
      have p16 : (16 : Nat) ^ (last - k * k) ≤ 16 ^ 5 := Nat.pow_le_pow_right (by decide) (by omega)
      have q1 : 1 ≤ 16 ^ k := Nat.pos_of_ne_zero (by simp)
      have e16 : ∀ j : Nat, (16 : Int) ^ j = ((16 ^ j : Nat) : Int) := fun j => by push_cast; rfl
      show EvY prog w (T0 d) Z h₀ 7 _ _ _ (.int ((dmQ (claA last ((k : Int)).toNat) (16 ^ ((k : Int)).toNat - 1) : Nat) : Int))
      rw [Int.toNat_natCast]
      refine EvY_sub t.hz₀ (EvY_call xfn t.idm.callable (xcons (Ev_to (Ev_bin (xpow (a := 16) (b := ((last - k * k : Nat) : Int)) Ev_int (Ev_to (xsubi xvar (Ev_bin xvar xvar (Bin_mul (IntMulOk.of_left (bits64 (by omega)))))) ?_) (by omega) (by omega) (by decide)) (xadd (xpow (a := 16) (b := (k : Int)) Ev_int xvar (by omega) (by omega) (by decide)) Ev_int) (Bin_mul (IntMulOk.of_left (bits64 ?_)))) ?_) (xcons (Ev_to (xsubi (xpow (a := 16) (b := (k : Int)) Ev_int xvar (by omega) (by omega) (by decide)) Ev_int) ?_) xnil)) idm) Ev_int (Sub_tup (j := 0) (by omega) (by omega) rfl rfl (by intros; rfl))
      · rw [hkk, Int.natCast_sub i1]
      · rw [Int.toNat_natCast, e16, Int.natAbs_natCast]; omega
      · rw [Int.toNat_natCast, Int.toNat_natCast, e16, e16]; unfold claA; push_cast; rfl
      · rw [Int.toNat_natCast, e16, Int.natCast_sub q1]; rfl
end
end Mine
end

section
open PySem PySem.W PyProof.Rows PySem.Calls
set_option Elab.async false
set_option maxRecDepth 100000
set_option linter.unusedVariables false
namespace Mine
section
variable {prog : Program} {w : World} {d : Adr} {h₀ : Heap}
theorem Ctx.frame {T : Tabs} {H W : List Addr} {env : Env} {σ : Sto} {own : Own} {h : Heap} (C : Ctx T h₀ H W env σ own h) : ∃ o, h.get? env.locals = some o ∧ ∀ vs, o.data ≠ .fields vs := by
  obtain ⟨m, ⟨o, es, ep, a, b, _⟩, _⟩ := C.E.vars
  exact ⟨o, a, fun vs e => by rw [b] at e; cases e⟩
set_option maxHeartbeats 16000000 in
theorem enc_raises (t : Top0 d h₀) {a : Addr} (F : EncAt h₀ a) {text : Str} {wd : Int} (hw : wd < 4) {A : Around} {H : List Addr} {s : Shared} {us : List Value} {Q : Value → Shared → Prop} {E : Value → Shared → Prop} {base : Heap} {outer : List Env}
    (rm : Room 1 A) (ext : Ext h₀ s.heap) (hv : VL H s.heap us [.str text, .int wd]) (lv : Live H s.heap) (hfr : A.frames = some outer) (hkb : base.StaysIn s.heap) (hff : s.heap.FunFrames base outer)
    (hE : ∀ h' tk e a0, Heap.FlyingW base outer e (.type "ValueError") a0 h' → s.heap.UpToSlots h' → E (.ref e) { s with heap := h', toks := tk }) : wpAny (model prog w) A (call (.ref a) us) Q E s := by
  obtain ⟨o, pm, cd, doc, D, tk, uk, ho, hd, hcd, ht⟩ := F.ex
  obtain ⟨u1, u2, rfl, h1, h2⟩ := hv.two
  have ht' : IsTup s.heap D #[.int 76 tk, .str ⟨#[10]⟩ uk] := let ⟨o, a, b⟩ := ht; ⟨o, ext _ _ a, b⟩
  have hnm := okNames_spec (scope := (encFd pm cd doc D).scope) (l := (["body", "maxlinelen", "eol"] : List Str) ++ (["soft_break", "maxlinelen1", "encoded_body", "append", "line", "start", "laststart", "stop", "room", "q"] : List Str)) (by kernel_rfl)
  refine wpAny_call (codeAny_call_function (fd := encFd pm cd doc D) (body := encD.2.1) (by have := rm.depth; omega) (ext _ _ ho) hd (by kernel_rfl) (by kernel_rfl) rfl (hcd.keeps ext) ?_)
  refine enc_bind2 ht' ?_
  rw [show (encFd pm cd doc D).closure = [] from rfl]
  refine wpAny_newFunctionEnv_cells (s := s) (by kernel_rfl) (fun x hx => ?_) fun env he s₁ X => ?_
  · have hx' : x.1 ∈ (["body", "maxlinelen", "eol"] : List Str) ++ (["soft_break", "maxlinelen1", "encoded_body", "append", "line", "start", "laststart", "stop", "room", "q"] : List Str) := by
      refine List.mem_append_left _ ?_
      rcases List.mem_cons.mp hx with rfl | hx
      · exact .head _
      rcases List.mem_cons.mp hx with rfl | hx
      · exact .tail _ (.head _)
      rcases List.mem_cons.mp hx with rfl | hx
      · exact .tail _ (.tail _ (.head _))
      cases hx
    exact (hnm x.1 hx').imp id fun k => ⟨k, cellsFrom_has _ _ _ _ (.inl k)⟩
  · subst he
    refine ⟨(t.G.ext ext).nolimit.keeps X.toInCall.keep, codeAny_func ?_⟩
    obtain ⟨W, w1, C⟩ := enter (vs := [.str text, .int wd, .str ⟨#[10]⟩]) (names := ["body", "maxlinelen", "eol"]) (rest := ["soft_break", "maxlinelen1", "encoded_body", "append", "line", "start", "laststart", "stop", "room", "q"]) (us := [u1, u2, .str ⟨#[10]⟩ uk]) (a := a) (A := A) (fd := encFd pm cd doc D) t.G ext lv rfl rfl (by kernel_rfl) (.cons h1 (.cons h2 (.cons (.str _ _) .nil))) rfl hnm (by decide +kernel) rfl X
    have hkeep := X.toInCall.keep
    obtain ⟨h₁, tk₁, rfl, _⟩ := X.done
    have rm' : Room 0 (A.deeper (callEnvC (encFd pm cd doc D) s.heap.objs.size a)) := rm.deeper
    have c : decide (wd < 4) = true := decide_eq_true hw
    have test : EvB prog w (T0 d) h₀ 0 (callEnvC (encFd pm cd doc D) s.heap.objs.size a) [("body", some (.str text)), ("maxlinelen", some (.int wd)), ("eol", some (.str ⟨#[10]⟩)), ("soft_break", none), ("maxlinelen1", none), ("encoded_body", none), ("append", none), ("line", none), ("start", none), ("laststart", none), ("stop", none), ("room", none), ("q", none)]
        (match encD.2.1 with | .If e _ _ _ :: _ => e | _ => .Constant .none 0 default) true := xcmp xvar Ev_int (c ▸ Cmp_lt)
    refine wpAny_execs_cons (wpAny_If (test _ (W ++ H) _ _ _ rm' C.E C.L fun h2 t2 k2 => ?_))
    rw [if_pos rfl]
    have C2 := C.ext k2
    refine wpAny_execs_cons (Raise_new rm'.hh ?_)
    show wpAny _ _ (do callWith _ (← eval (.Name _ _) _) [] (backTo _ (starEach _ _)) (backToKw _ (keywordEach [] _))) _ _ _
    refine wpAny_bind ((xbi (T := T0 d) (σ := [("body", some (.str text)), ("maxlinelen", some (.int wd)), ("eol", some (.str ⟨#[10]⟩)), ("soft_break", none), ("maxlinelen1", none), ("encoded_body", none), ("append", none), ("line", none), ("start", none), ("laststart", none), ("stop", none), ("room", none), ("q", none)]) (n := 0) (.type "ValueError")) _ (W ++ H) _ _ _ rm' C2.E C2.L fun v h3 t3 k3 hv3 => ?_)
    obtain rfl := hv3.raw_inv
    have C3 := C2.ext k3
    refine callWith_type1 (EvL_cons Ev_str EvL_nil (by kernel_rfl) _ (W ++ H) _ _ _ _ rm' C3.E C3.L fun vs h4 t4 k4 v4 => ?_) (by kernel_rfl) (by kernel_rfl)
    have C4 := C3.ext k4
    have vl := v4.length
    refine call_exc_raise (hrest := by rw [vl]; exact size_of (by simp)) excClass_ValueError fun h5 e hx => ?_
    have C5 := C4.ext (h' := h5) fun b o q => hx.keeps b o q
    have kall : ∀ b o, s.heap.get? b = some o → h5.get? b = some o := fun b o q => hx.keeps b o (k4 b o (k3 b o (k2 b o (hkeep b o q))))
    obtain ⟨ob, t0, he, hc, hdat⟩ := hx.there
    obtain ⟨oL, hL1, hL2⟩ := C5.frame
    have hen : base.get? e = none := by
      cases q : base.get? e with
      | none => rfl
      | some o' =>
        have := hx.new
        rw [show (_ : Heap).get? e = some o' from k4 e o' (k3 e o' (k2 e o' (hkeep e o' (hkb e o' q))))] at this
        cases this
    have hbL : base.get? s.heap.objs.size = none := hkb.fresh
    have FF : h5.FunFrames base (callEnvC (encFd pm cd doc D) s.heap.objs.size a :: outer) := ⟨by rw [show (callEnvC (encFd pm cd doc D) s.heap.objs.size a).scope.kind = .function by kernel_rfl]; decide, ⟨s.heap.objs.size, oL, rfl, hbL, hL1, hL2⟩, hff.of_keeps fun b o q _ => ⟨o, kall b o q, rfl⟩⟩
    refine wpAny_leaving_firstW (base := base) (a0 := t0) (s := ⟨h5, _, _, _, _⟩) (Around.frames_deeper hfr) FF rfl he (fun b o q => kall b o (hkb b o q)) hen hdat rfl rfl fun h' hL => ?_
    obtain ⟨q1, ⟨_, _, q2⟩, q3, q4⟩ := hL
    exact hE h' t4 e t0 ⟨q1, hen, q2, hc ▸ q3⟩ ((Heap.UpToSlots.of_keeps kall).trans q4)
end
end Mine
end

section
open PySem PySem.W PyProof.Rows PySem.Calls
set_option Elab.async false
set_option maxRecDepth 100000
set_option linter.unusedVariables false
namespace Mine
section
variable {prog : Program} {w : World} {d : Adr} {h₀ : Heap}
set_option maxHeartbeats 16000000 in
theorem refused_call (t : Top0 d h₀) (F : EncAt h₀ d.enc) {text : Str} {wd : Int} (hw : wd < 4) {A : Around} {H : List Addr} {s : Shared} {us : List Value} {Q : Value → Shared → Prop} {E : Value → Shared → Prop} {base : Heap} {outer : List Env}
    (rm : Room 2 A) (ext : Ext h₀ s.heap) (hv : VL H s.heap us [.str text, .int wd]) (lv : Live H s.heap) (hfr : A.frames = some outer) (hb0 : Ext h₀ base) (hkb : base.StaysIn s.heap) (hff : s.heap.FunFrames base outer)
    (hQ : ∀ h' tk, base.StaysIn h' → h'.FunFrames base outer → s.heap.UpToSlots h' → Q (.bool true) { s with heap := h', toks := tk }) : wpAny (model prog w) A (call (.ref d.refused) us) Q E s := by
  obtain ⟨o, pm, cd, doc, ho, hd, hcd⟩ := t.refused
  obtain ⟨u1, u2, rfl, h1, h2⟩ := hv.two
  have hnm := okNames_spec (scope := (fdOf "_law_refused" pm cd doc).scope) (l := (["text", "width"] : List Str) ++ ([] : List Str)) (by kernel_rfl)
  refine wpAny_call (codeAny_call_cells (fd := fdOf "_law_refused" pm cd doc) (body := (dOf "_law_refused").body) (binds := [("text", u1), ("width", u2)]) (by have := rm.depth; omega) (ext _ _ ho) hd (t.G.ext ext).nolimit (hcd.keeps ext) rfl (by kernel_rfl) rfl (fun x hx => ?_) (fun s₁ X => ?_) (by kernel_rfl) (by kernel_rfl) (by kernel_rfl))
  · have hx' : x.1 ∈ (["text", "width"] : List Str) ++ ([] : List Str) := by
      rcases List.mem_cons.mp hx with rfl | hx
      · exact .head _
      rcases List.mem_cons.mp hx with rfl | hx
      · exact .tail _ (.head _)
      cases hx
    exact (hnm x.1 hx').imp id fun k => ⟨k, cellsFrom_has _ _ _ _ (.inl k)⟩
  · obtain ⟨W, w1, C⟩ := enter (vs := [.str text, .int wd]) (names := ["text", "width"]) (rest := []) (us := [u1, u2]) (a := d.refused) (A := A) (fd := fdOf "_law_refused" pm cd doc) t.G ext lv rfl rfl (by kernel_rfl) (.cons h1 (.cons h2 .nil)) rfl hnm (by decide +kernel) rfl X
    have hkeep := X.toInCall.keep
    obtain ⟨h₁, tk₁, rfl, _⟩ := X.done
    have hg : (callEnvC (fdOf "_law_refused" pm cd doc) s.heap.objs.size d.refused).globals = mainGlobals := rfl
    have hbt : (callEnvC (fdOf "_law_refused" pm cd doc) s.heap.objs.size d.refused).builtins = builtinsNs := rfl
    have hfrm : (callEnvC (fdOf "_law_refused" pm cd doc) s.heap.objs.size d.refused).frame = some s.heap.objs.size := rfl
    have hks : (callEnvC (fdOf "_law_refused" pm cd doc) s.heap.objs.size d.refused).scope.kind = .function := by kernel_rfl
    have hve : (callEnvC (fdOf "_law_refused" pm cd doc) s.heap.objs.size d.refused).kindOf "ValueError" = some .globalImplicit := by kernel_rfl
    have rm' : Room 1 (A.deeper (callEnvC (fdOf "_law_refused" pm cd doc) s.heap.objs.size d.refused)) := rm.deeper
    show wpAny _ _ (execs (dOf "_law_refused").body _) _ _ _
    refine wpAny_execs_cons (wpAny_Try_except ?_)
    refine wpAny_execs_cons (wpAny_Expr (hi := by kernel_rfl) (hs := by kernel_rfl) ?_)
    show wpAny _ _ (do callWith _ (← eval (.Name _ _) _) [] (backTo _ (starEach _ _)) (backToKw _ (keywordEach [] _))) _ _ _
    have nm := fun (pos : Pos) => xfn (prog := prog) (w := w) (h₀ := h₀) (n := 1) (pos := pos) (env := callEnvC (fdOf "_law_refused" pm cd doc) s.heap.objs.size d.refused) (T := T0 d) (x := "body_encode") (v := .ref d.enc) (σ := [("text", some (.str text)), ("width", some (.int wd))])
    refine wpAny_bind (nm _ _ (W ++ H) _ _ _ rm' C.E C.L fun v h2 t2 k2 hv2 => ?_)
    obtain rfl := hv2.raw_inv
    have C2 := C.ext k2
    have argL : ∀ p1 p2 : Pos, EvL prog w (T0 d) h₀ 1 (callEnvC (fdOf "_law_refused" pm cd doc) s.heap.objs.size d.refused) [("text", some (.str text)), ("width", some (.int wd))] [.Name "text" p1, .Name "width" p2] [.str text, .int wd] := fun p1 p2 => EvL_cons (xvar (pos := p1)) (EvL_cons (xvar (pos := p2)) EvL_nil (by kernel_rfl)) (by kernel_rfl)
    refine callWith_any (backTo_plain (by kernel_rfl)) (by
      obtain ⟨a, o, fd, e1, e2, e3⟩ : ∃ a o fd, Value.ref d.enc = .ref a ∧ h₀.get? a = some o ∧ o.data = .func fd := by
        rcases F.callable with ⟨_, q⟩ | ⟨_, q⟩ | q
        · cases q
        · cases q
        · exact q
      exact .inr (.inr ⟨a, o, fd, e1, C2.E.ext _ _ e2, e3⟩)) (argL _ _ _ (W ++ H) _ _ _ _ rm' C2.E C2.L fun vs h3 t3 k3 v3 => ⟨k3, ?_⟩)
    have C3 := C2.ext k3
    have kall : ∀ b o, s.heap.get? b = some o → h3.get? b = some o := fun b o q => k3 b o (k2 b o (hkeep b o q))
    obtain ⟨oL, hL1, hL2⟩ := C3.frame
    have hbL : base.get? s.heap.objs.size = none := hkb.fresh
    have FF : h3.FunFrames base (callEnvC (fdOf "_law_refused" pm cd doc) s.heap.objs.size d.refused :: outer) := ⟨by rw [hks]; decide, ⟨s.heap.objs.size, oL, rfl, hbL, hL1, hL2⟩, hff.of_keeps fun b o q _ => ⟨o, kall b o q, rfl⟩⟩
    refine enc_raises t F hw rm' C3.E.ext v3 C3.L (Around.frames_deeper hfr) (fun b o q => kall b o (hkb b o q)) FF fun h4 t4 e a0 hfl4 up4 => ?_
    refine wpAny_looks_onW (Around.frames_deeper hfr) hfrm hfl4 fun h5 hheld5 up5 => ?_
    refine wpAny_landsW hheld5 fun h6 hfl6 up6 => ?_
    obtain ⟨ob, hob, hobc⟩ := hfl6.there
    obtain ⟨mg, mb, hmg, hmb, g1, g2, g3⟩ := (t.G.ext (hb0.trans fun b o q => hfl6.1 b o q)).glob
    refine wpAny_handleBy_builtin (X := "ValueError") (T := "ValueError") (b := true) excClass_ValueError.base (by rw [isSubtype_type]; kernel_rfl) excClass_ValueError.self
      (Calls.Name_function_global hks hve (Calls.loadGlobal_builtin (by rw [hg]; exact hmg) (g2 _ (show List.Mem ("ValueError" : Str) (T0 d).b from by with_reducible repeat (first | exact .head _ | apply List.Mem.tail))) (by rw [hbt]; exact hmb) ((g3 _ (by decide +kernel)).trans excClass_ValueError.boot) ⟨rfl, ⟨ob, hob, hobc⟩, ?_⟩) (by kernel_rfl))
    rw [if_pos rfl]
    refine lands_againW hfl6 fun h7 hfl7 up7 => ?_
    refine wpAny_execs_cons (wpAny_Return_some (wpAny_Constant_bool ?_))
    have upAll : s.heap.UpToSlots h7 := (Heap.UpToSlots.of_keeps kall).trans (up4.trans (up5.trans (up6.trans up7)))
    obtain ⟨q1, q2, ⟨_, _, q3⟩, q4⟩ := hfl7
    exact hQ h7 t4 q1 q3 upAll
end
end Mine
end

section
open PySem PySem.W PyProof.Rows
set_option Elab.async false
set_option maxRecDepth 100000
set_option linter.unusedVariables false
namespace Mine
section
variable {prog : Program} {w : World} {T : Tabs} {h₀ : Heap} {n : Nat} {env : Env} {σ : Sto} {own : Own}
theorem Ev_compC {elt iter : PySem.Expr} {x : Str} {px : Pos} {scope : Scope} {pos : Pos} {ps : List PV} {g : PV → Int} (hi : EvI prog w T h₀ n env σ iter ps) (hsz : ps.length ≤ sizeLine)
    (hks : scope.kind = .function) (hcl : closureFor scope env = pure []) (hnm : ∀ y ∈ scope.names, y.2 = .local → scope.names.lookup y.1 = some .local) (hxc : scope.names.lookup x = some .cell) (hxk : (relabel scope env).names.lookup x = some .cell)
    (ev : ∀ p ∈ ps, ∀ cl C, Ev prog w T h₀ n (compEnvC scope cl C env) [(x, some p)] elt (.int (g p)))
    (hf : ∀ v, foldedSetIterable iter env v = pure v := by intro _; rfl) :
    Ev prog w T h₀ n env σ (.ListComp elt [⟨.Name x px, iter, [], 0⟩] scope pos) (.list ((ps.map g).map .int)) := fun A H s Q E rm C l hQ => by
  rw [eval_ListComp]
  refine wpAny_comprehension_free (use := none) rfl hf hcl hks hnm (hi A H s _ E rm C l fun I h1 t1 k1 fr ok => ?_)
  obtain ⟨fp, P, St, wk, st0, hfp, hfl, hIl, hSt, items⟩ := ok
  have nIH : I ∉ H := fun q => by obtain ⟨o, e⟩ := l I q; rw [fr] at e; cases e
  refine wpAny_newObj_type ?_
  dsimp only
  generalize hH2 : h1.push { cls := .type "list", dict := none, data := .seq ([] : List Value).toArray } = H2
  -- the frame and its cell
  simp only [newFunctionEnv, Option.isSome_some, if_true]
  refine wpAny_bind (wpAny_alloc ?_)
  refine wpAny_bind (wpAny_layCells _ (fun name kind cells => by cases hkc : kind == NameKind.cell <;> simp [hkc]) _ _ _ _ ?_)
  have ok := cellsFrom_ok scope.names (H2.push { cls := .type "dict", data := .dict #[] }) (H2.objs.size + 1) [] ⟨fun _ _ hm => (nomatch hm), List.Pairwise.nil⟩ (by rw [Heap.size_push]; exact Nat.le_refl _)
  rw [Heap.size_push] at ok
  dsimp only
  rw [show (H2.push { cls := .type "dict", data := .dict #[] }).objs.size = H2.objs.size + 1 from Heap.size_push ..]
  rw [List.forIn_nil]
  refine wpAny_bind (wpAny_pure (wpAny_pure ?_))
  obtain ⟨cx, hcx⟩ := Option.isSome_iff_exists.mp (cellsFrom_has scope.names (H2.objs.size + 1) [] x (.inl hxc))
  obtain ⟨cell0, cge⟩ := ok.empty x cx (mem_of_lookup hcx)
  generalize hh₁ : pushCells (H2.push { cls := .type "dict", data := .dict #[] }) scope.names = h₁ at *
  have hC : H2.objs.size = h1.objs.size + 1 := by rw [← hH2, Heap.size_push]
  have kc : Ext (H2.push { cls := .type "dict", data := .dict #[] }) h₁ := fun b o e => hh₁ ▸ pushCells_keeps _ _ b o e
  have k0 : Ext h1 h₁ := fun b o e => kc b o (Heap.get?_push_of_some _ (hH2 ▸ Heap.get?_push_of_some _ e))
  have hacc : h₁.PlainList h1.objs.size ([] : List Value).toArray := ⟨_, kc _ _ (Heap.get?_push_of_some _ (hH2 ▸ Heap.get?_push_size _ rfl))⟩
  have hns₁ : h₁.Ns H2.objs.size (fun _ => none) := (Heap.Ns.new H2 (.type "dict")).keeps fun b o e => kc b o e
  have frD : h1.get? h1.objs.size = none := get_none (Nat.le_refl _)
  have frC : h1.get? H2.objs.size = none := get_none (by rw [hC]; exact Nat.le_succ _)
  have frX : h1.get? cx = none := get_none (Nat.le_trans (by rw [hC]; omega) cge)
  have hDC : h1.objs.size ≠ H2.objs.size := by rw [hC]; exact Nat.ne_of_lt (Nat.lt_succ_self _)
  have hDX : h1.objs.size ≠ cx := Nat.ne_of_lt (Nat.lt_of_lt_of_le (by rw [hC]; omega) cge)
  have hCX : H2.objs.size ≠ cx := Nat.ne_of_lt cge
  generalize h1.objs.size = D at *
  generalize hCc : H2.objs.size = Ca at *
  have nN : ∀ {a : Addr}, h1.get? a = none → s.heap.get? a = none := fun {a} e => by
    cases q : s.heap.get? a with
    | none => rfl
    | some o => have := k1 _ _ q; rw [e] at this; cases this
  have ne0 : ∀ {c a : Addr} {o : Obj}, h1.get? a = none → h1.get? c = some o → c ≠ a := fun e q z => by rw [z, e] at q; cases q
  have hIo : ∃ o, h1.get? I = some o := hIl
  have nID : D ≠ I := fun z => by obtain ⟨o, e⟩ := hIo; exact ne0 frD e z.symm
  have nIC : Ca ≠ I := fun z => by obtain ⟨o, e⟩ := hIo; exact ne0 frC e z.symm
  have nIX : cx ≠ I := fun z => by obtain ⟨o, e⟩ := hIo; exact ne0 frX e z.symm
  have hfp3 : ∀ c ∈ fp, c ≠ D ∧ c ≠ Ca ∧ c ≠ cx := fun c q => let ⟨o, e⟩ := hfl c q; ⟨ne0 frD e, ne0 frC e, ne0 frX e⟩
  have hst₁ : St 0 h₁ := wk.frame _ _ _ st0 fun c _ o e => k0 c o e
  have hI0 : h₀.get? I = none := by
    cases e : h₀.get? I with
    | none => rfl
    | some o => have := C.ext _ _ e; rw [fr] at this; cases this
  have wide : ∀ c ∈ D :: Ca :: cx :: I :: H, c ∈ I :: H ∨ h1.get? c = none := fun c q => by
    rcases List.mem_cons.mp q with rfl | q
    · exact .inr frD
    · rcases List.mem_cons.mp q with rfl | q
      · exact .inr frC
      · rcases List.mem_cons.mp q with rfl | q
        · exact .inr frX
        · exact .inl q
  have loop : ∀ s₃ : Shared, s₃.heap = h₁ → s₃ = { s with heap := h₁, toks := s₃.toks } →
      codeAny (model prog w) A (.compLoop (.ListComp elt [⟨.Name x px, iter, [], 0⟩] scope pos) 0 (.ref I) (.ref D) (compEnvC scope (cellsFrom (Ca + 1) scope.names []) Ca env)) (compPost (model prog w) A E none Q (.ref D) Ca) s₃ := by
    intro s₃ hs3 he3
    refine codeAny_compLoop_tests (fun k s' => ∃ i h' tk ys u, s' = { s with heap := h', toks := tk } ∧ i ≤ ps.length ∧ k = ps.length - i ∧ St i h' ∧ h'.PlainList D (List.toArray ys) ∧ h'.Ns Ca (fun _ => none) ∧ h'.IsCell cx u ∧
      VL [] h' ys (((ps.take i).map g).map .int) ∧ (∀ c o, c ≠ I → h1.get? c = some o → h'.get? c = some o)) ?_ ps.length
      ⟨0, h₁, s₃.toks, [], none, he3, Nat.zero_le _, rfl, hst₁, hacc, hns₁, cell0, by simpa using VL.nil, fun c o _ e => k0 c o e⟩
    rintro k s' ⟨i, h', tk, ys, u0, rfl, hiN, rfl, st, hpl, hns, hcell, hvl, kp⟩
    by_cases hlt : i < ps.length
    · refine wk.item i _ _ _ hlt st fun v h2 tk2 hP st2 k2 => ?_
      obtain ⟨p, hp, hV⟩ := items i v hP
      have k2' : ∀ c o, c ≠ I → h'.get? c = some o → h2.get? c = some o := fun c o q e => k2 c o (fun z => q (List.mem_singleton.mp z)) e
      have hns2 : h2.Ns Ca (fun _ => none) := let ⟨o, es, ep, a, r⟩ := hns; ⟨o, es, ep, k2' _ _ nIC a, r⟩
      have hcell2 : h2.IsCell cx u0 := let ⟨o, a, r⟩ := hcell; ⟨o, k2' _ _ nIX a, r⟩
      refine wpAny_assign_Name (wpAny_storeName_cell (env := compEnvC scope (cellsFrom (Ca + 1) scope.names []) Ca env) (c := cx) hks hxk hcx hcell2 fun h3 hcell3 hsb3 => ?_)
      have k3 : ∀ c o, c ≠ cx → h2.get? c = some o → h3.get? c = some o := fun c o q e => hsb3.extBut c o q e
      have kp3 : ∀ c o, c ≠ I → h1.get? c = some o → h3.get? c = some o := fun c o q e => k3 c o (ne0 frX e) (k2' c o q (kp c o q e))
      have st3 : St (i + 1) h3 := wk.frame _ _ _ st2 fun c q o e => k3 c o (hfp3 c q).2.2 e
      have hns3 : h3.Ns Ca (fun _ => none) := let ⟨o, es, ep, a, r⟩ := hns2; ⟨o, es, ep, k3 _ _ hCX a, r⟩
      have live3 : Live (D :: Ca :: cx :: I :: H) h3 := fun c q => by
        rcases List.mem_cons.mp q with rfl | q
        · obtain ⟨kz, e⟩ := hpl
          exact ⟨_, k3 _ _ hDX (k2' _ _ nID e)⟩
        · rcases List.mem_cons.mp q with rfl | q
          · exact let ⟨o, _, _, e, _⟩ := hns3; ⟨o, e⟩
          · rcases List.mem_cons.mp q with rfl | q
            · exact let ⟨o, e, _⟩ := hcell3; ⟨o, e⟩
            · rcases List.mem_cons.mp q with rfl | q
              · exact hSt _ _ st3
              · obtain ⟨o, e⟩ := l c q
                exact ⟨o, kp3 c o (fun z => nIH (z ▸ q)) (k1 _ _ e)⟩
      have kpH : KeepsOff (D :: Ca :: cx :: I :: H) h1 h3 := fun c o q e => kp3 c o (fun z => q (by rw [z]; simp)) e
      have hV3 : V (D :: Ca :: cx :: I :: H) h3 v p := (hV.wide wide).mono kpH
      have CE : CtxE T h₀ (D :: Ca :: cx :: I :: H) (compEnvC scope (cellsFrom (Ca + 1) scope.names []) Ca env) [(x, some p)] h3 := by
        refine ⟨hks, C.glb, C.blt, C.G, fun c o e => kp3 c o (fun z => by rw [z, hI0] at e; cases e) (k1 _ _ (C.ext c o e)), _, hns3, fun y o hy => ?_⟩
        cases hy with
        | head => exact .inr ⟨cx, some v, .inl hxk, hcx, hcell3, fun q e => by cases e; exact ⟨v, rfl, hV3⟩⟩
        | tail _ hy => cases hy
      have hpl3 : h3.PlainList D ys.toArray := hpl.at fun o e => k3 _ o hDX (k2' _ o nID e)
      have tk1 : ps.take (i + 1) = ps.take i ++ [p] := by rw [List.take_add_one, hp]; rfl
      refine wpAny_tests_nil ?_
      rw [if_pos rfl]
      refine ev p (List.mem_of_getElem? hp) (cellsFrom (Ca + 1) scope.names []) Ca A _ _ _ _ rm CE live3 fun u h5 tk5 k5 hu => ?_
      obtain ⟨t, rfl⟩ := hu.int_inv
      have hlen := hvl.length
      have hsz' : ys.toArray.size ≤ sizeLine := by
        rw [List.size_toArray, hlen, List.length_map, List.length_map, List.length_take]
        omega
      refine wpAny_list_append_plain (hsz := hsz') (hpl3.at fun o e => k5 _ o e) fun h6 hpl6 hsb6 => ?_
      have k6 : ∀ c o, c ≠ D → h5.get? c = some o → h6.get? c = some o := fun c o q e => hsb6.extBut c o q e
      refine ⟨ps.length - (i + 1), by omega, i + 1, h6, tk5, ys ++ [.int (g p) t], some v, rfl, hlt, rfl, wk.frame _ _ _ st3 fun c q o e => k6 c o (hfp3 c q).1 (k5 c o e), ?_, (let ⟨o, es, ep, a, r⟩ := hns3; ⟨o, es, ep, k6 _ _ (Ne.symm hDC) (k5 _ _ a), r⟩), (let ⟨o, a, r⟩ := hcell3; ⟨o, k6 _ _ (Ne.symm hDX) (k5 _ _ a), r⟩), ?_, fun c o q e => k6 c o (ne0 frD e) (k5 c o (kp3 c o q e))⟩
      · simpa using hpl6
      · rw [tk1, List.map_append, List.map_append]
        exact (VL_ints hvl).append (.cons (.int _ _) .nil)
    · obtain rfl : i = ps.length := by omega
      refine wk.done _ _ _ st fun h2 tk2 k2 => ?_
      have k2' : ∀ c o, c ≠ I → h'.get? c = some o → h2.get? c = some o := fun c o q e => k2 c o (fun z => q (List.mem_singleton.mp z)) e
      rw [List.take_length] at hvl
      refine ⟨_, (let ⟨o, es, ep, a, r⟩ := hns; ⟨o, es, ep, k2' _ _ nIC a, r⟩), fun h'' hs'' => hQ (.ref D) h'' tk2 (fun c o e => ?_) (.list (fun q => ?_) ((hpl.at fun o e => k2' _ o nID e).at fun o e => hs''.extBut _ _ hDC e) (VL_ints hvl))⟩
      · have hcI : c ≠ I := fun z => by rw [z, fr] at e; cases e
        have e1 := k1 c o e
        exact hs''.extBut c o (fun z => by rw [z, frC] at e1; cases e1) (k2' c o hcI (kp c o hcI e1))
      · obtain ⟨o, e⟩ := l D q
        have := k1 _ _ e
        rw [frD] at this; cases this
  exact codeAny_compStart_list (loop _ rfl rfl) (wk.self 0 _ _ _ hst₁ (loop _ rfl rfl))
end
end Mine
end

section
open PySem PySem.W PyProof.Rows
set_option Elab.async false
set_option maxRecDepth 100000
set_option linter.unusedVariables false
namespace Mine
section
variable {ps : List (List Nat × List Nat)} {w : Nat}
theorem flat_plain (hb : ∀ p ∈ ps, Blk w p) : Plain (ps.map (·.2)).flatten := fun x hx => by
  obtain ⟨b, hbm, hxb⟩ := List.mem_flatten.mp hx
  obtain ⟨p, hp, rfl⟩ := List.mem_map.mp hbm
  exact (hb p hp).plain x hxb
theorem flat_signs (hb : ∀ p ∈ ps, Blk w p) : ∀ c ∈ (ps.map (·.1)).flatten, c < 256 := fun x hx => by
  obtain ⟨b, hbm, hxb⟩ := List.mem_flatten.mp hx
  obtain ⟨p, hp, rfl⟩ := List.mem_map.mp hbm
  exact (hb p hp).signs x hxb
theorem dots_drop {k : Nat} (h : 1 ≤ k) : (dots k).drop 1 = dots (k - 1) := by
  obtain ⟨j, rfl⟩ : ∃ j, k = j + 1 := ⟨k - 1, by omega⟩
  unfold dots
  rw [List.replicate_succ, Nat.add_sub_cancel]
  rfl
theorem strOk_S {l : List Nat} (h : ∀ x ∈ l, x < 0x110000) : PyData.strOk (S l) = true := by
  unfold PyData.strOk S
  rw [List.all_toArray, List.all_eq_true]
  exact fun x hx => decide_eq_true (h x hx)
end
section
variable {prog : Program} {w : World} {d : Adr} {h₀ : Heap} {n : Nat}
theorem deflt_go (t : Top0 d h₀) (F : EncAt h₀ d.enc) {ps : List (List Nat × List Nat)} {wd : Nat} (hb : ∀ p ∈ ps, Blk wd p) (hw6 : wd ≤ 6) (hn : ps.length ≤ 6) :
    Pur prog w h₀ (n + 3) [.str (S (ps.map (·.1)).flatten), .str (S (ps.map (·.2)).flatten)] (fun us => call (.ref d.deflt) us) (.bool true) := by
  have hal : (ps.map (·.1)).flatten.length ≤ 36 := Nat.le_trans (flat_len1 hb) (Nat.le_trans (Nat.mul_le_mul hw6 hn) (by decide))
  have hcl : (ps.map (·.2)).flatten.length ≤ 36 := by
    rw [flat_len (w := wd) fun b q => by obtain ⟨p, hp, rfl⟩ := List.mem_map.mp q; exact (hb p hp).bk.len, List.length_map]
    exact Nat.le_trans (Nat.mul_le_mul hw6 hn) (by decide)
  have ht := flat_tr hb
  have hp := flat_plain hb
  have hs := flat_signs hb
  generalize (ps.map (·.1)).flatten = al at *
  generalize (ps.map (·.2)).flatten = cl at *
  have hst : stopsS (S cl) = S (dots (75 - cl.length)) := stops_S (by omega)
  have hst1 : Txt.slice (stopsS (S cl)) (some 1) none = S (dots (74 - cl.length)) := by
    rw [hst, show (some (1 : Int)) = some ((1 : Nat) : Int) from rfl, slice_from _ 1 (by rw [dots_len]; omega), dots_drop (by omega), show 75 - cl.length - 1 = 74 - cl.length by omega]
  have ok1 : EncOk (S al ++ stopsS (S cl)) ⟨#[10]⟩ 76 (fun _ => 1) := by rw [hst, S_app]; exact dflt_ok ht hp hs (by omega) (by omega) (.inl ⟨by omega, rfl⟩)
  have ok2 : EncOk (S al ++ Txt.slice (stopsS (S cl)) (some 1) none) ⟨#[10]⟩ 76 (fun _ => 0) := by rw [hst1, S_app]; exact dflt_ok ht hp hs (by omega) (by omega) (.inr ⟨by omega, rfl⟩)
  have hcd : ∀ k, ∀ x ∈ cl ++ dots k, x < 256 := fun k x hx => by
    rcases List.mem_append.mp hx with hx | hx
    · rw [← ht] at hx
      obtain ⟨c, hc, hx⟩ := List.mem_flatMap.mp hx
      have : ∀ c, c < 256 → ∀ x ∈ encL c, x < 256 := by decide +kernel
      exact this c (hs c hc) x hx
    · unfold dots at hx
      rcases List.mem_append.mp hx with hx | hx
      · rw [(List.mem_replicate.mp hx).2]; decide
      · rcases List.mem_cons.mp hx with rfl | hx
        · decide
        · rw [List.mem_singleton.mp hx]; decide
  have hL : (cl ++ dots (75 - cl.length)).length = 77 := by rw [List.length_append, dots_len]; omega
  have s1 : Txt.slice (S cl ++ stopsS (S cl)) none (some 75) = S ((cl ++ dots (75 - cl.length)).take 75) := by
    rw [hst, S_app, show (some (75 : Int)) = some ((75 : Nat) : Int) from rfl, slice_to _ 75 (by omega)]
  have s2 : Txt.slice (S cl ++ stopsS (S cl)) (some 75) none = S ((cl ++ dots (75 - cl.length)).drop 75) := by
    rw [hst, S_app, show (some (75 : Int)) = some ((75 : Nat) : Int) from rfl, slice_from _ 75 (by omega)]
  refine deflt_pur t F (Ns := fun _ => 1) (Ms := fun _ => 0) (by rw [S_len]; omega) (by rw [S_len]; omega) ok1 ok2 ?_ ?_ ?_
  · rw [s1, s2, hst, S_app]
    exact dflt_two ht hp (by omega) (by omega)
  · rw [hst1, S_app, S_app]
    exact dflt_one ht hp (by omega) (by omega)
  · rw [s1, s2, hst1, S_app, show ("=\n" : Str) = S [61, 10] by decide +kernel, S_app, S_app]
    intro x hx
    rcases List.mem_cons.mp hx with rfl | hx
    · refine strOk_S fun y hy => ?_
      rcases List.mem_append.mp hy with hy | hy
      · rcases List.mem_append.mp hy with hy | hy
        · have := hcd _ y (List.mem_of_mem_take hy); omega
        · rcases List.mem_cons.mp hy with rfl | hy
          · decide
          · rw [List.mem_singleton.mp hy]; decide
      · have := hcd _ y (List.mem_of_mem_drop hy); omega
    · rw [List.mem_singleton.mp hx]
      exact strOk_S fun y hy => by have := hcd _ y hy; omega
end
def EvBZ (prog : Program) (w : World) (T : Tabs) (Z : List ZT) (h₀ : Heap) (n : Nat) (env : Env) (σ : Sto) (own : Own) (e : PySem.Expr) (b : Bool) : Prop :=
  ∀ (A : Around) (H W : List Addr) (s : Shared) (Q : Bool → Shared → Prop) (E : Value → Shared → Prop), Room n A → Ctx T h₀ (zs Z ++ H) W env σ own s.heap → Inv Z (W ++ H) s.heap →
    (∀ h' tk, KeepsOff (zs Z) s.heap h' → Ctx T h₀ (zs Z ++ H) W env σ own h' → Inv Z (W ++ H) h' → Q b { s with heap := h', toks := tk }) → wpAny (model prog w) A (isTrue e env (eval e env)) Q E s
section
variable {prog : Program} {w : World} {T : Tabs} {Z : List ZT} {h₀ : Heap} {n : Nat} {env : Env} {σ : Sto} {own : Own}
theorem keep3 {W H : List Addr} {h h' : Heap} (k : KeepsOff (zs Z) h h') : KeepsOff (W ++ (zs Z ++ H)) h h' := fun b o q e => k b o (fun z => q (List.mem_append_right _ (List.mem_append_left _ z))) e
theorem EvBZ_cmp1 {l r : PySem.Expr} {op : CmpOp} {pos : Pos} {p q : PV} {y : Bool} (hl : Ev prog w T h₀ n env σ l p) (hr : EvZ prog w T Z h₀ n env σ own r q)
    (hp : Pur prog w h₀ n [p, q] (fun us => compareOp op (us.getD 0 .none) (us.getD 1 .none)) (.bool y)) (hm : behindInMarks op r = false := by kernel_rfl) : EvBZ prog w T Z h₀ n env σ own (.Compare l [op] [r] pos) y := fun A H W s Q E rm C I hQ =>
  wpAny_isTrue_Compare1 (hm := hm) (hl A _ s _ _ rm C.E C.L fun v h1 t1 k1 v1 => hr A H W _ _ _ rm (C.ext k1) (I.ext k1) fun u h2 t2 k2 C2 I2 v2 => hp A _ _ [v, u] _ _ rm C2.E.ext (.cons (v1.mono (keep3 k2)) (.cons v2 .nil)) C2.L fun z h3 t3 k3 v3 => by
    obtain rfl := v3.bool_inv
    exact wpAny_truthy_bool (hQ h3 t3 (fun b o q e => k3 b o (k2 b o q (k1 b o e))) (C2.ext k3) (I2.ext k3)))
theorem EvBZ_cmp2 {l r : PySem.Expr} {op : CmpOp} {pos : Pos} {p q : PV} {y : Bool} (hl : EvZ prog w T Z h₀ n env σ own l p) (hr : Ev prog w T h₀ n env σ r q)
    (hp : Pur prog w h₀ n [p, q] (fun us => compareOp op (us.getD 0 .none) (us.getD 1 .none)) (.bool y)) (hm : behindInMarks op r = false := by kernel_rfl) : EvBZ prog w T Z h₀ n env σ own (.Compare l [op] [r] pos) y := fun A H W s Q E rm C I hQ =>
  wpAny_isTrue_Compare1 (hm := hm) (hl A H W s _ _ rm C I fun v h1 t1 k1 C1 I1 v1 => hr A _ _ _ _ rm C1.E C1.L fun u h2 t2 k2 v2 => hp A _ _ [v, u] _ _ rm (C1.E.ext.trans k2) (.cons (v1.ext k2) (.cons v2 .nil)) (C1.L.ext k2) fun z h3 t3 k3 v3 => by
    obtain rfl := v3.bool_inv
    exact wpAny_truthy_bool (hQ h3 t3 (fun b o q e => k3 b o (k2 b o (k1 b o q e))) (C1.ext (k2.trans k3)) (I1.ext (k2.trans k3))))
theorem EvBZ_or2 {x y : PySem.Expr} {pos : Pos} (hx : EvBZ prog w T Z h₀ n env σ own x false) (hy : EvB prog w T h₀ n env σ y false) : EvBZ prog w T Z h₀ n env σ own (.BoolOp .Or [x, y] pos) false := fun A H W s Q E rm C I hQ =>
  wpAny_isTrue_BoolOp (wpAny_allTrue_Or_cons (hx A H W s _ E rm C I fun h1 t1 k1 C1 I1 =>
    (EvA_or (b := false) (c := false) hy (fun _ => EvA_or_nil) (fun e => nomatch e)) A _ _ _ _ rm C1.E C1.L fun h2 t2 k2 => hQ h2 t2 (fun b o q e => k2 b o (k1 b o q e)) (C1.ext k2) (I1.ext k2)))
theorem Ex1Z_ifZ_f {e : PySem.Expr} {body orelse : List Stmt} {pos : Pos} {out : Out} (he : EvBZ prog w T Z h₀ n env σ own e false) (hb : ExsZ prog w T Z h₀ n env σ own orelse out) : Ex1Z prog w T Z h₀ n env σ own (.If e body orelse pos) out := fun A H W s Q E rm C I hQ =>
  wpAny_If (he A H W s _ E rm C I fun h' tk k C' I' => hb A H W _ Q E rm C' I' fun fl h'' tk' k' af => hQ fl h'' tk' (fun b o q e => k' b o q (k b o (fun z => q (List.mem_append_right _ z)) e))
    (.pre (fun b o q e => k b o (fun z => q (List.mem_append_right _ z)) e) I.live (fun _ q => q) (fun _ q => .inl q) (fun a q z => C.D a q (List.mem_append_left _ z)) I'.live af))
theorem EvZ_rev {value : PySem.Expr} {lo hi st : Option PySem.Expr} {sp pos : Pos} {l : List PV} {a b c : Option Int} (hv : EvZ prog w T Z h₀ n env σ own value (.list l)) (hl : EvP prog w T h₀ n env σ lo a) (hh : EvP prog w T h₀ n env σ hi b)
    (hst : EvP prog w T h₀ n env σ st c) (h0 : c ≠ some 0) (hsz : l.length ≤ sizeLine) : EvZ prog w T Z h₀ n env σ own (.Subscript value (.Slice lo hi st sp) pos) (.list (pick l a b c)) := fun A H W s Q E rm C I hQ => by
  refine Subscript_ (hv A H W s _ _ rm C I fun v h1 t1 k1 C1 I1 v1 => ?_)
  obtain ⟨x, vs, rfl, hx, pl, vl⟩ := v1.list_inv
  refine wpAny_Slice (hl A _ _ _ _ rm C1.E C1.L fun o h2 t2 k2 e2 => hh A _ _ _ _ rm (C1.E.ext' k2) (C1.L.ext k2) fun u h3 t3 k3 e3 =>
    hst A _ _ _ _ rm (C1.E.ext' (k2.trans k3)) (C1.L.ext (k2.trans k3)) fun y h4 t4 k4 e4 => ?_)
  have kk := (k2.trans k3).trans k4
  have pl' : h4.PlainList x vs.toArray := pl.at fun o e => kk _ _ e
  have plp := pl'.at (h' := h4.push { cls := .type "slice", data := .fields #[partValue o, partValue u, partValue y] }) fun o e => Heap.get?_push_of_some _ e
  obtain ⟨ops, hops⟩ : ∃ ops : List Value, ∀ o i : Value, subscripted (.Slice lo hi st sp) false o i = operate (ops.map fun q => if q = .none then i else o) (getItem o i) := by
    cases st with
    | none => exact ⟨[.none, .ellipsis], fun o i => rfl⟩
    | some e => exact ⟨[.ellipsis, .none], fun o i => rfl⟩
  refine tail_any (T := "list") plp.isList.typeIs list_getitem_lookup (wpAny_getItem_list_slice (hsz := by simpa [vl.length] using hsz) plp.isList (Heap.IsSliceOf.new ..) (part_is e2) (part_is e3) (part_is e4) h0 ?_) (hops _ _)
  rw [slicePick_toList]
  have kp := Ext.push h4 { cls := .type "slice", data := .fields #[partValue o, partValue u, partValue y] }
  have ka := kk.trans kp
  have kf := ka.trans (Ext.push _ { cls := .type "list", data := .seq (pick vs a b c).toArray })
  exact hQ _ _ t4 (fun b o q e => kf b o (k1 b o q e)) (C1.ext kf) (I1.ext kf) (.list (C1.L.ext ka).off ⟨_, Heap.get?_push_size _ rfl⟩ ((vl.ext (kk.trans kp)).pick a b c |>.ext (Ext.push _ _)))
end
end Mine
end

section
open PySem PySem.W PyProof.Rows
set_option Elab.async false
set_option maxRecDepth 100000
set_option linter.unusedVariables false
namespace Mine
def dfl6 : List Int := [29, 188, 30, 400, 500, 9]
def takenL (l : List Int) : List Int := l.take 6 ++ dfl6.drop l.length
theorem takenL_len (l : List Int) : (takenL l).length = 6 := by
  unfold takenL
  rw [List.length_append, List.length_take, List.length_drop, show dfl6.length = 6 from rfl]
  omega
def manyN (l : List Int) : Nat := 6 - (l.sum.fmod 6).toNat
def wideN (l : List Int) : Nat := 6 - ((l.sum.fdiv 6).fmod 4).toNat
theorem many_rng (l : List Int) : 1 ≤ manyN l ∧ manyN l ≤ 6 ∧ (6 : Int) - l.sum.fmod 6 = ((manyN l : Nat) : Int) := by
  have := fmod_rng (a := l.sum) (b := 6) (by decide)
  unfold manyN; omega
theorem wide_rng (l : List Int) : 3 ≤ wideN l ∧ wideN l ≤ 6 ∧ (6 : Int) - (l.sum.fdiv 6).fmod 4 = ((wideN l : Nat) : Int) := by
  have := fmod_rng (a := l.sum.fdiv 6) (b := 4) (by decide)
  unfold wideN; omega
def drawnL (l : List Int) : List (List Nat × List Nat) := ((takenL l).take (manyN l)).map fun x => (blkA x (wideN l), blkB x (wideN l))
theorem drawn_len (l : List Int) : (drawnL l).length = manyN l := by
  unfold drawnL
  rw [List.length_map, List.length_take, takenL_len]
  have := many_rng l; omega
theorem drawn_blk (l : List Int) : ∀ p ∈ drawnL l, Blk (wideN l) p := fun p hp => by
  obtain ⟨x, _, rfl⟩ := List.mem_map.mp hp
  exact blk_ok x (wide_rng l).1 (wide_rng l).2.1
theorem drawn_ne (l : List Int) : drawnL l ≠ [] := fun h => by
  have h1 := drawn_len l
  have := many_rng l
  rw [h] at h1
  simp at h1; omega
def divB (j : Int) : PV → Bool := fun q => match q with | .int i => j.fmod i == 0 | _ => false
def divG : PV → Int := fun p => match p with | .int j => (((rngL 1 (j + 1)).filter (divB j)).length : Int) | _ => 0
def numOk (m : Nat) : Bool := decide (totQ m m = claV (m - 1)) && decide (totQ m m < 2 ^ 64) && decide (nd (totQ m m) 4 ≤ 2 ^ 3) && decide ((dg 4 (totQ m m) (nd (totQ m m) 4)).reverse.map (fun (x : Nat) => (x : Int)) = (rngL 1 m).map divG)
theorem num_oks : ∀ m, m < 7 → 1 ≤ m → numOk m = true := by decide +kernel
theorem num_facts {m : Nat} (h1 : 1 ≤ m) (h2 : m ≤ 6) : totQ m m = claV (m - 1) ∧ totQ m m < 2 ^ 64 ∧ nd (totQ m m) 4 ≤ 2 ^ 3 ∧ (dg 4 (totQ m m) (nd (totQ m m) 4)).reverse.map (fun (x : Nat) => (x : Int)) = (rngL 1 m).map divG := by
  have h := num_oks m (by omega) h1
  unfold numOk at h
  simp only [Bool.and_eq_true, decide_eq_true_eq] at h
  obtain ⟨⟨⟨a, b⟩, c⟩, d⟩ := h
  exact ⟨a, b, c, d⟩
section
variable {prog : Program} {w : World} {T : Tabs} {Z : List ZT} {h₀ : Heap} {n : Nat} {env : Env} {σ : Sto} {own : Own}
theorem EvZ_to {e : PySem.Expr} {p q : PV} (h : EvZ prog w T Z h₀ n env σ own e p) (hpq : p = q) : EvZ prog w T Z h₀ n env σ own e q := hpq ▸ h
def ExsZA (prog : Program) (w : World) (T : Tabs) (Z : List ZT) (h₀ : Heap) (n : Nat) (A : Around) (env : Env) (σ : Sto) (own : Own) (sts : List Stmt) (p : PV) : Prop :=
  ∀ (H W : List Addr) (s : Shared) (Q : Flow → Shared → Prop) (E : Value → Shared → Prop), Room n A → Ctx T h₀ (zs Z ++ H) W env σ own s.heap → Inv Z (W ++ H) s.heap →
    (∀ fl h' tk, KeepsOff (W ++ zs Z) s.heap h' → AfterZ T Z h₀ env H W s.heap (.ret p) fl h' → Q fl { s with heap := h', toks := tk }) → wpAny (model prog w) A (execs sts env) Q E s
theorem ExsZA_cons {A : Around} {st : Stmt} {rest : List Stmt} {σ₁ : Sto} {own₁ : Own} {p : PV} (h1 : Ex1Z prog w T Z h₀ n env σ own st (.next σ₁ own₁)) (h2 : ExsZA prog w T Z h₀ n A env σ₁ own₁ rest p) :
    ExsZA prog w T Z h₀ n A env σ own (st :: rest) p := fun H W s Q E rm C I hQ => by
  refine wpAny_execs_cons (h1 A H W s _ E rm C I fun fl h' tk k af => ?_)
  obtain ⟨rfl, W', w1, w2, C', I'⟩ := af
  exact h2 H W' _ _ E rm C' I' fun fl h'' tk' k' af' => hQ fl h'' tk' (k.seqZ w2 k') (.pre k I.live w1 w2 (fun a q z => C'.D a q (List.mem_append_left _ z)) I'.live af')
theorem CtxE.up {H : List Addr} {h h' : Heap} (C : CtxE T h₀ H env σ h) (hL : env.locals ∈ H) (hL0 : h₀.get? env.locals = none) (k : KeepsOff [env.locals] h h') (u : h.UpToSlots h') : CtxE T h₀ H env σ h' := by
  have k1 : ∀ b o, b ≠ env.locals → h.get? b = some o → h'.get? b = some o := fun b o q e => k b o (fun z => q (List.mem_singleton.mp z)) e
  have kk : KeepsOff H h h' := fun b o q e => k1 b o (fun z => q (z ▸ hL)) e
  obtain ⟨m, hm, hv⟩ := C.vars
  refine ⟨C.kind, C.glb, C.blt, C.G, fun b o e => k1 b o (fun z => by rw [z, hL0] at e; cases e) (C.ext b o e), m, u.ns hm, fun x o e => ?_⟩
  rcases hv x o e with ⟨a, b⟩ | ⟨c, v0, a, b, d, r⟩
  · exact .inl ⟨a, fun p q => let ⟨v, y, z⟩ := b p q; ⟨v, y, z.mono kk⟩⟩
  · have nc : c ≠ env.locals := fun z => by
      obtain ⟨o', es, ep, e1, e2, _⟩ := hm
      obtain ⟨o2, e3, e4⟩ := d
      rw [z, e1] at e3; cases e3; rw [e2] at e4; cases e4
    exact .inr ⟨c, v0, a, b, let ⟨o', e1, e2⟩ := d; ⟨o', k1 _ _ nc e1, e2⟩, fun p q => let ⟨v, y, z⟩ := r p q; ⟨v, y, z.mono kk⟩⟩
theorem wpAny_And3 {M : Model} {A : Around} {E : Value → Shared → Prop} {s : Shared} {x y z : PySem.Expr} {pos : Pos} {Q : Value → Shared → Prop}
    (h : wpAny M A (eval x env) (fun v s₁ => wpAny M A (truthy v) (fun t s₂ => if t then wpAny M A (eval y env) (fun v s₃ => wpAny M A (truthy v) (fun t s₄ => if t then wpAny M A (eval z env) Q E s₄ else Q v s₄) E s₃) E s₂ else Q v s₂) E s₁) E s) :
    wpAny M A (eval (.BoolOp .And [x, y, z] pos) env) Q E s := by
  show wpAny M A (do
    let v ← eval x env
    standAt pos
    let t ← holding [v] (truthy v)
    match BoolOp.And, t with
    | .And, false | .Or, true => pure v
    | _, _ => boolOp pos .And [eval y env, eval z env]) Q E s
  refine wpAny_bind (wpAny_mono h (fun v s₁ h₁ => wpAny_bind (wpAny_standAt (wpAny_bind (wpAny_holding (wpAny_mono h₁ (fun t s₂ h₂ => ?_) fun _ _ x => x))))) fun _ _ x => x)
  cases t with
  | false => exact wpAny_pure h₂
  | true => exact wpAny_And2 (pos := pos) h₂
end
end Mine
end

section
open PySem PySem.W PyProof.Rows
set_option Elab.async false
set_option maxRecDepth 100000
set_option linter.unusedVariables false
namespace Mine
theorem empty_ok : EncOk ("" : Str) ⟨#[10]⟩ 4 (fun _ => 0) := by
  have h0 : trS encM ("" : Str) = S [] := by decide +kernel
  have h1 : linesOf (S []) = [] := by decide +kernel
  refine ⟨by decide, fun c hc => ?_, by decide +kernel, fun h => absurd (by decide +kernel) h, by decide +kernel, by decide, ?_, fun l hl => ?_, ?_⟩
  · rw [show ("" : Str).cps.toList = [] from by decide +kernel] at hc; cases hc
  · rw [h0, h1]; decide
  · rw [h0, h1] at hl; cases hl
  · rw [h0]; decide +kernel
theorem empty_val : (encV ("" : Str) ⟨#[10]⟩ 4 (fun _ => 0) == ("" : Str)) = true := by decide +kernel
section
variable {prog : Program} {w : World} {d : Adr} {Z : List ZT} {h₀ : Heap}
theorem refused_eval (t : Top1 d Z h₀) {n : Nat} {A : Around} {H : List Addr} {s : Shared} {env : Env} {σ : Sto} {x : Str} {np pos : Pos} {args : List PySem.Expr} {text : Str} {wd : Int} {Q : Value → Shared → Prop} {E : Value → Shared → Prop}
    (rm : Room n A) (hn2 : 2 ≤ n) (C : CtxE (T0 d) h₀ H env σ s.heap) (lv : Live H s.heap) (hL : env.locals ∈ H) (hL0 : h₀.get? env.locals = none) (hfr : A.frames = some [env]) (hfrm : env.frame = some env.locals)
    (hn : Ev prog w (T0 d) h₀ n env σ (.Name x np) (.raw (.ref d.refused))) (ha : EvL prog w (T0 d) h₀ n env σ args [.str text, .int wd]) (hw : wd < 4) (hst : (starEach args env).any (·.1) = false)
    (hQ : ∀ h' tk, KeepsOff [env.locals] s.heap h' → CtxE (T0 d) h₀ H env σ h' → Live H h' → Q (.bool true) { s with heap := h', toks := tk }) : wpAny (model prog w) A (eval (.Call (.Name x np) args [] pos) env) Q E s := by
  show wpAny _ A (do callWith pos (← eval (.Name x np) env) [] (backTo pos (starEach args env)) (backToKw pos (keywordEach [] env))) Q E s
  refine wpAny_bind (hn A H s _ _ rm C lv fun v h1 t1 k1 v1 => ?_)
  obtain rfl := v1.raw_inv
  refine callWith_any (backTo_plain hst) ?_ (ha A H _ pos _ _ rm (C.ext' k1) (lv.ext k1) fun vs h2 t2 k2 v2 => ⟨k2, ?_⟩)
  · rcases t.t.refused.callable with q | q | ⟨a, o, fd, e, ho, hd⟩
    · exact .inl q
    · exact .inr (.inl q)
    · exact .inr (.inr ⟨a, o, fd, e, C.ext.trans k1 _ _ ho, hd⟩)
  · have C2 := C.ext' (k1.trans k2)
    have l2 := lv.ext (k1.trans k2)
    obtain ⟨m, ⟨oL, es, ep, g1, g2, _⟩, _⟩ := C2.vars
    refine refused_call t.t t.enc hw (outer := [env]) (base := hideAll h2 [env.locals]) (rm.le hn2) C2.ext v2 l2 hfr (fun b o e => hideAll_get _ (C2.ext b o e) fun q => by rw [List.mem_singleton.mp q, hL0] at e; cases e) (fun b o q => of_hideAll _ q)
      ⟨by rw [C.kind]; decide, ⟨env.locals, oL, hfrm, hideAll_none _ (by simp), g1, fun vs e => by rw [g2] at e; cases e⟩, trivial⟩ fun h3 t3 q1 q2 q3 => ?_
    have k3 : KeepsOff [env.locals] h2 h3 := fun b o hb e => q1 b o (hideAll_get _ e hb)
    have C3 := C2.up hL hL0 k3 q3
    refine hQ h3 t3 (fun b o hb e => k3 b o hb ((k1.trans k2) b o e)) C3 fun a q => ?_
    by_cases e : a = env.locals
    · obtain ⟨m, ⟨o, _, _, g, _⟩, _⟩ := C3.vars
      exact ⟨o, e ▸ g⟩
    · obtain ⟨o, ho⟩ := l2 a q
      exact ⟨o, k3 a o (fun z => e (List.mem_singleton.mp z)) ho⟩
set_option maxHeartbeats 16000000 in
theorem law_last (t : Top1 d Z h₀) {l : List Int} {A : Around} {pm cd doc : Value} {L : Addr} {o1 o2 o3 o4 : Option PV} {o5 : Option PV} (hfr : A.frames = some [callEnvC (fdOf "law" pm cd doc) L d.law]) :
    ExsZA prog w (T0 d) Z h₀ 9 A (callEnvC (fdOf "law" pm cd doc) L d.law) [("script", o1), ("taken", o2), ("weight", some (.int l.sum)), ("many", o3), ("wide", o4), ("drawn", some (.list (prP (drawnL l)))), ("whole", o5)] [] ((dOf "law").body.drop 8) (.bool true) := fun H W s Q E rm C I hQ => by
  have hfm := fmod_rng (a := l.sum) (b := 5) (by decide)
  have hw3 : (3 : Int) - l.sum.fmod 5 < 4 := by omega
  obtain ⟨hd0, hdr⟩ : ∃ p, (drawnL l)[0]? = some p := by
    have := drawn_ne l
    cases h : drawnL l with
    | nil => exact absurd h this
    | cons p r => exact ⟨p, rfl⟩
  have hd1 : (prP (drawnL l))[(0 : Int).toNat]? = some (.tup [.str (S hd0.1), .str (S hd0.2)]) := by
    show (prP (drawnL l))[0]? = _
    rw [List.getElem?_map, hdr]; rfl
  have hLW : (callEnvC (fdOf "law" pm cd doc) L d.law).locals ∈ W := C.R.loc
  have hLH : (callEnvC (fdOf "law" pm cd doc) L d.law).locals ∈ W ++ (zs Z ++ H) := List.mem_append_left _ hLW
  have hL0 := C.R.new _ hLW
  have nz : (callEnvC (fdOf "law" pm cd doc) L d.law).locals ∉ zs Z := fun z => C.D _ hLW (List.mem_append_left _ z)
  show wpAny _ A (execs ((dOf "law").body.drop 8) _) Q E s
  refine wpAny_execs_cons (wpAny_Return_some (wpAny_And3 ?_))
  refine (xcmpv (y := .bool true) (xcall (xfn (T := T0 d)) t.enc.callable (xcons Ev_str (xcons Ev_int xnil)) (enc_pur2 (n := 7) t.t t.enc empty_ok)) Ev_str (empty_val ▸ Cmp_seq)) A _ s _ E rm C.E C.L fun v h1 t1 k1 v1 => ?_
  obtain rfl := v1.bool_inv
  refine wpAny_truthy_bool ?_
  rw [if_pos rfl]
  refine refused_eval t rm (by decide) (C.E.ext' k1) (C.L.ext k1) hLH hL0 hfr rfl xfn (EvL_cons Ev_str (EvL_cons (xsubi Ev_int (xmod xvar Ev_int rfl)) EvL_nil (by kernel_rfl)) (by kernel_rfl)) hw3 (by kernel_rfl) fun h2 t2 k2 C2 l2 => ?_
  refine wpAny_truthy_bool ?_
  rw [if_pos rfl]
  refine refused_eval t rm (by decide) C2 l2 hLH hL0 hfr rfl xfn (EvL_cons (xsubt (i := 0) (xsubl xvar Ev_int (by decide) (by decide) hd1) (Ev_to Ev_int rfl) (by decide) rfl) (EvL_cons (xsubi Ev_int (xmod xvar Ev_int rfl)) EvL_nil (by kernel_rfl)) (by kernel_rfl)) hw3 (by kernel_rfl) fun h3 t3 k3 C3 l3 => ?_
  have kk : KeepsOff [(callEnvC (fdOf "law" pm cd doc) L d.law).locals] s.heap h3 := fun b o q e => k3 b o q (k2 b o q (k1 b o e))
  exact hQ _ h3 t3 (fun b o q e => kk b o (fun z => q (List.mem_append_left _ (List.mem_singleton.mp z ▸ hLW))) e) ⟨.bool true, rfl, .bool true, I.step kk (fun a q => by rw [List.mem_singleton.mp q]; exact List.mem_append_left _ hLW) (fun a q => by rw [List.mem_singleton.mp q]; exact nz) fun a q => .inl q⟩
end
end Mine
end

section
open PySem PySem.W PyProof.Rows
set_option Elab.async false
set_option maxRecDepth 100000
set_option linter.unusedVariables false
namespace Mine
section
variable {prog : Program} {w : World} {d : Adr} {Z : List ZT} {h₀ : Heap}
theorem joinFst (f : List Nat × List Nat → List Nat) (ps : List (List Nat × List Nat)) : Txt.join "" (ps.map fun p => S (f p)) = S (ps.map f).flatten := by
  rw [join_is, empty_is, ← join_flat, List.map_map]; rfl
set_option maxHeartbeats 32000000 in
theorem law_body (t : Top1 d Z h₀) {l : List Int} (hl : l.length ≤ 100000) {A : Around} {pm cd doc : Value} {L : Addr} (hfr : A.frames = some [callEnvC (fdOf "law" pm cd doc) L d.law]) :
    ExsZA prog w (T0 d) Z h₀ 9 A (callEnvC (fdOf "law" pm cd doc) L d.law) [("script", some (.list (l.map .int))), ("taken", none), ("weight", none), ("many", none), ("wide", none), ("drawn", none), ("whole", none)] [] (dOf "law").body (.bool true) := by
  obtain ⟨m1, m6, hmany⟩ := many_rng l
  obtain ⟨w3, w6, hwide⟩ := wide_rng l
  obtain ⟨n1, n2, n3, n4⟩ := num_facts m1 m6
  have hdl := drawn_len l
  have hdb := drawn_blk l
  have hdn := drawn_ne l
  have hll : (l.map PV.int).length = l.length := List.length_map ..
  obtain ⟨c1, z1, F1, i1, j1⟩ := t.i2d
  have hpl : (prP (drawnL l)).length = manyN l := by rw [List.length_map, hdl]
  -- taken
  have hp1 : pick (l.map PV.int) none (some 6) none = (l.take 6).map .int := by
    rw [pick_fwd]
    show ((l.map PV.int).drop 0).take (clipAt (l.map PV.int).length 6 - 0) = _
    rw [List.drop_zero, Nat.sub_zero, hll, show (6 : Int) = ((6 : Nat) : Int) from rfl, clipAt_nat, List.map_take]
    by_cases h6 : 6 ≤ l.length
    · rw [Nat.min_eq_left h6]
    · rw [Nat.min_eq_right (by omega), List.take_of_length_le (by rw [hll]; exact Nat.le_refl _), List.take_of_length_le (by rw [hll]; omega)]
  have hp2 : pick ([PV.int 29, .int 188, .int 30, .int 400, .int 500, .int 9]) (some ((l.map PV.int).length : Int)) none none = (dfl6.drop l.length).map .int := by
    rw [pick_fwd]
    show (([PV.int 29, .int 188, .int 30, .int 400, .int 500, .int 9]).drop (clipAt 6 ((l.map PV.int).length : Int))).take (6 - clipAt 6 ((l.map PV.int).length : Int)) = _
    rw [hll, clipAt_nat, List.take_of_length_le (by rw [List.length_drop]; exact Nat.le_refl _), show [PV.int 29, .int 188, .int 30, .int 400, .int 500, .int 9] = dfl6.map .int from rfl, ← List.map_drop]
    congr 1
    by_cases h6 : l.length ≤ 6
    · rw [Nat.min_eq_left h6]
    · rw [Nat.min_eq_right (by omega), List.drop_eq_nil_of_le (by decide), List.drop_eq_nil_of_le (by rw [show dfl6.length = 6 from rfl]; omega)]
  have hl1 : ((l.take 6).map PV.int).length ≤ 6 := by rw [List.length_map, List.length_take]; omega
  have hl2 : ((dfl6.drop l.length).map PV.int).length ≤ 6 := by rw [List.length_map, List.length_drop, show dfl6.length = 6 from rfl]; omega
  have h10 : (10 : Nat) ≤ sizeLine := size_of (by decide)
  show ExsZA prog w (T0 d) Z h₀ 9 A (callEnvC (fdOf "law" pm cd doc) L d.law) [("script", some (.list (l.map .int))), ("taken", none), ("weight", none), ("many", none), ("wide", none), ("drawn", none), ("whole", none)] [] (dOf "law").body _
  refine ExsZA_cons (Ex1.z (xassign (p := .list ((takenL l).map .int)) (Ev_to (xladd (xsll xvar EvP_none (EvP_some Ev_int) EvP_none (by decide) (by rw [hll]; omega) hp1) (xsll (Ev_list (xcons Ev_int (xcons Ev_int (xcons Ev_int (xcons Ev_int (xcons Ev_int (xcons Ev_int xnil)))))) (size_of (by simp))) (EvP_some (xcall (xbi (.builtin "len")) cbi (xcons xvar xnil) (Pur_len_list (by rw [hll]; omega)))) EvP_none EvP_none (by decide) (by simp) hp2) (by omega)) (by unfold takenL; rw [List.map_append])))) ?_
  refine ExsZA_cons (Ex1.z (xassign (p := .int l.sum) (xcall (xbi (.builtin "sum")) cbi (xcons xvar xnil) Pur_sum))) ?_
  refine ExsZA_cons (Ex1.z (xassign (p := .int ((manyN l : Nat) : Int)) (Ev_to (xsubi Ev_int (xmod xvar Ev_int rfl)) (congrArg PV.int hmany)))) ?_
  refine ExsZA_cons (Ex1.z (xassign (p := .int ((wideN l : Nat) : Int)) (Ev_to (xsubi Ev_int (xmod (xdiv xvar Ev_int rfl (by decide)) Ev_int rfl)) (congrArg PV.int hwide)))) ?_
  have htl : ((takenL l).map PV.int).length = 6 := by rw [List.length_map, takenL_len]
  have hp3 : pick ((takenL l).map PV.int) none (some ((manyN l : Nat) : Int)) none = ((takenL l).take (manyN l)).map .int := by
    rw [pick_fwd]
    show (((takenL l).map PV.int).drop 0).take (clipAt ((takenL l).map PV.int).length ((manyN l : Nat) : Int) - 0) = _
    rw [List.drop_zero, Nat.sub_zero, htl, clipAt_nat, Nat.min_eq_left m6, List.map_take]
  refine ExsZA_cons (Ex1.z (xcompA [("wide", some (.int ((wideN l : Nat) : Int)))] (fun _ => true) (fun p => match p with | .int j => .tup [.str (blockA j (wideN l)), .str (blockB j (wideN l))] | p => p) (rs := prP (drawnL l)) (EvI_list (xsll xvar EvP_none (EvP_some xvar) EvP_none (by decide) (by rw [htl]; decide) hp3)) ?_ ?_ ?_)) ?_
  · rw [List.length_map, List.length_take, takenL_len]; omega
  · intro p hp cl Ca
    obtain ⟨j, _, rfl⟩ := List.mem_map.mp hp
    exact ⟨EvT_nil, fun _ => xcall xfn t.t.block.callable (xcons xvar (xcons xvar xnil)) (block_pur (n := 7) t.t (by omega) (by omega))⟩
  · rw [filter_tt, List.map_map]
    unfold prP drawnL
    rw [List.map_map]
    apply List.map_congr_left
    intro j _
    show PV.tup [.str (blockA j (wideN l)), .str (blockB j (wideN l))] = PV.tup [.str (S (blkA j (wideN l))), .str (S (blkB j (wideN l)))]
    rw [blockA_S j w3, blockB_S j w3]
  · have let9 := letters_pur (prog := prog) (w := w) (A := l.sum) t hdb hdn (by rw [hdl]; exact m6) w3 w6
    rw [hdl] at let9
    refine ExsZA_cons (Ex1Z_assign (p := .int ((totQ (manyN l) (manyN l) : Nat) : Int)) (EvZ_call t.hz₀ xfn t.letters.callable (xcons xvar (xcons xvar (xcons xvar xnil))) let9 (by kernel_rfl)) (.tail (.tail (.tail (.tail (.tail (.tail .head)))))) (by kernel_rfl) (by kernel_rfl)) ?_
    have cla := clausen_pur (prog := prog) (w := w) t (last := manyN l - 1) (by omega)
    rw [← n1] at cla
    have cself : ((((totQ (manyN l) (manyN l) : Nat) : Int)) != ((totQ (manyN l) (manyN l) : Nat) : Int)) = false := by simp
    have hsum : ∀ f : List Nat × List Nat → List Nat, (∀ p ∈ drawnL l, (f p).length ≤ 20) → (((drawnL l).map fun p => S (f p)).map (·.length)).sum + ((drawnL l).map fun p => S (f p)).length * ("" : Str).length ≤ 1000000 := by
      intro f hf
      have h1 := sum_le (l := (drawnL l).map fun p => S (f p)) (k := 20) fun x hx => by
        obtain ⟨p, hp, rfl⟩ := List.mem_map.mp hx
        rw [S_len]
        exact hf p hp
      rw [show ("" : Str).length = 0 from by decide +kernel]
      rw [List.length_map, hdl] at h1 ⊢
      omega
    have def9 := deflt_go (prog := prog) (w := w) (n := 6) t.t t.enc (ps := drawnL l) (wd := wideN l) hdb w6 (by rw [hdl]; exact m6)
    refine ExsZA_cons (Ex1Z_ifZ_f (EvBZ_or2 (EvBZ_cmp1 xvar (EvZ_call t.hz₀ xfn t.clausen.callable (xcons (Ev_to (xsubi xvar Ev_int) (by rw [Int.natCast_sub m1]; rfl)) xnil) (PurZ.le cla (by decide)) (by kernel_rfl)) (cself ▸ Cmp_ne))
      (EvB_not (b := true) (EvB_val (xcall xfn t.t.deflt.callable (xcons (Ev_to (xjoin (x := "") (l := (drawnL l).map fun p => S p.1) Ev_str (xcomp [] (fun _ => true) (fun p => match p with | .tup (a :: _) => a | p => p) (EvI_list xvar) (by rw [hpl]; omega) ?_ ?_) (hsum (fun p => p.1) fun p hp => Nat.le_trans (hdb p hp).len (by omega))) (congrArg PV.str (joinFst (fun p => p.1) _)))
        (xcons (Ev_to (xjoin (x := "") (l := (drawnL l).map fun p => S p.2) Ev_str (xcomp [] (fun _ => true) (fun p => match p with | .tup (_ :: a :: _) => a | p => p) (EvI_list xvar) (by rw [hpl]; omega) ?_ ?_) (hsum (fun p => p.2) fun p hp => by rw [(hdb p hp).bk.len]; omega)) (congrArg PV.str (joinFst (fun p => p.2) _))) xnil)) def9) (.bool true)))) ExsZ_nil) ?_
    · intro p hp cl Ca
      obtain ⟨q, _, rfl⟩ := List.mem_map.mp hp
      exact ⟨EvT_nil, fun _ => xsubt (i := 0) xvar (Ev_to Ev_int rfl) (by decide) rfl⟩
    · rw [filter_tt, List.map_map, List.map_map]; rfl
    · intro p hp cl Ca
      obtain ⟨q, _, rfl⟩ := List.mem_map.mp hp
      exact ⟨EvT_nil, fun _ => xsubt (i := 1) xvar (Ev_to Ev_int rfl) (by decide) rfl⟩
    · rw [filter_tt, List.map_map, List.map_map]; rfl
    · have i2d := i2d_pur (prog := prog) (w := w) (k := 3) (n0 := 4) (x := totQ (manyN l) (manyN l)) t.t.G t.bi F1 i1 j1 t.hz₀ (by decide) (by decide) n2 n3
      have hnd : (nints (dg 4 (totQ (manyN l) (manyN l)) (nd (totQ (manyN l) (manyN l)) 4))).length ≤ 8 := by rw [List.length_map, dg_len]; exact n3
      have hrev : PV.list (pick (nints (dg 4 (totQ (manyN l) (manyN l)) (nd (totQ (manyN l) (manyN l)) 4))) none none (some (-1))) = PV.list (((dg 4 (totQ (manyN l) (manyN l)) (nd (totQ (manyN l) (manyN l)) 4)).reverse.map (fun (x : Nat) => (x : Int))).map .int) := by
        rw [pick_rev, List.map_map, ← List.map_reverse]; rfl
      have cself2 : (!decide ((dg 4 (totQ (manyN l) (manyN l)) (nd (totQ (manyN l) (manyN l)) 4)).reverse.map (fun (x : Nat) => (x : Int)) = (rngL 1 (manyN l)).map divG)) = false := by rw [decide_eq_true n4]; rfl
      refine ExsZA_cons (Ex1Z_ifZ_f (EvBZ_cmp2 (EvZ_to (EvZ_rev (EvZ_call t.hz₀ xfn F1.callable (xcons xvar (xcons Ev_int xnil)) (PurZ.le i2d (by decide)) (by kernel_rfl)) EvP_none EvP_none (EvP_some (xneg Ev_int)) (by decide) (by omega)) hrev)
        (Ev_compC (g := divG) (ps := rngL 1 (manyN l)) (xrng (xrange2 Ev_int xvar (xbi _)) (by omega) (by omega) (by omega) (by omega)) (size_of (by rw [rngL_length]; omega)) (by kernel_rfl) (by kernel_rfl) ?_ (by kernel_rfl) (by kernel_rfl) ?_) (cself2 ▸ Cmp_lnints)) ExsZ_nil) ?_
      · have hnm : ∀ (sc : Scope), (sc.names.all fun y => y.2 != .local || sc.names.lookup y.1 == some .local) = true → ∀ y ∈ sc.names, y.2 = .local → sc.names.lookup y.1 = some .local := fun sc h y hy hl => by
          have := List.all_eq_true.mp h y hy
          rw [hl] at this
          exact eq_of_beq (by simpa using this)
        exact hnm _ (by kernel_rfl)
      · intro p hp cl Ca
        obtain ⟨i, hi, rfl⟩ := List.mem_map.mp hp
        have hi6 : i < 6 := by have := List.mem_range.mp hi; omega
        have hlen : (rngL 1 (1 + (i : Int) + 1)).length ≤ 10 := by rw [rngL_length]; omega
        refine Ev_to (xcall (xbi (.builtin "len")) cbi (xcons (xcomp [("p", some (.int (1 + (i : Int))))] (divB (1 + (i : Int))) (fun q => q) (rs := (rngL 1 (1 + (i : Int) + 1)).filter (divB (1 + (i : Int)))) (xrng (xrange2 Ev_int (xadd xvar Ev_int) (xbi _)) (by omega) (by omega) (by omega) (by omega)) (by omega) ?_ (by rw [List.map_id'])) xnil) (Pur_len_list ?_)) rfl
        · intro q hq cl' Ca'
          obtain ⟨j, hj, rfl⟩ := List.mem_map.mp hq
          have hz : ((1 : Int) + (j : Int) == 0) = false := by rw [beq_eq_false_iff_ne]; omega
          exact ⟨EvT_one (xcmp (xmod xvar xvar hz) Ev_int Cmp_eq), fun _ => xvar⟩
        · have := List.length_filter_le (divB (1 + (i : Int))) (rngL 1 (1 + (i : Int) + 1))
          omega
      · exact law_last t hfr
theorem law_walk (t : Top1 d Z h₀) (F : FnAt h₀ "law" d.law) {l : List Int} (hl : l.length ≤ 100000) {A : Around} {s : Shared} {us : List Value} {Q : Value → Shared → Prop} {E : Value → Shared → Prop} (rm : Room 10 A) (hfr : A.frames = some []) (ext : Ext h₀ s.heap) (hv : VL (zs Z ++ []) s.heap us [.list (l.map .int)]) (lv : Live (zs Z ++ []) s.heap) (I : Inv Z [] s.heap)
    (hQ : ∀ h' tk, KeepsOff (zs Z) s.heap h' → Inv Z [] h' → Q (.bool true) { s with heap := h', toks := tk }) : wpAny (model prog w) A (call (.ref d.law) us) Q E s := by
  obtain ⟨o, pm, cd, doc, ho, hd, hcd⟩ := F
  obtain ⟨u1, rfl, h1⟩ := hv.one
  have hnm := okNames_spec (scope := (fdOf "law" pm cd doc).scope) (l := (["script"] : List Str) ++ (["taken", "weight", "many", "wide", "drawn", "whole"] : List Str)) (by kernel_rfl)
  refine wpAny_call (codeAny_call_cells (fd := fdOf "law" pm cd doc) (body := (dOf "law").body) (binds := [("script", u1)]) (by have := rm.depth; omega) (ext _ _ ho) hd (t.t.G.ext ext).nolimit (hcd.keeps ext) rfl (by kernel_rfl) rfl (fun x hx => ?_) (fun s₁ X => ?_) (by kernel_rfl) (by kernel_rfl) (by kernel_rfl))
  · have hx' : x.1 ∈ (["script"] : List Str) ++ (["taken", "weight", "many", "wide", "drawn", "whole"] : List Str) := by
      rcases List.mem_cons.mp hx with rfl | hx
      · exact .head _
      cases hx
    exact (hnm x.1 hx').imp id fun k => ⟨k, cellsFrom_has _ _ _ _ (.inl k)⟩
  · obtain ⟨W, w1, C⟩ := enter (vs := [.list (l.map .int)]) (names := ["script"]) (rest := ["taken", "weight", "many", "wide", "drawn", "whole"]) (us := [u1]) (a := d.law) (A := A) (fd := fdOf "law" pm cd doc) t.t.G ext lv rfl rfl (by kernel_rfl) hv rfl hnm (by decide +kernel) rfl X
    have hkeep := X.toInCall.keep
    obtain ⟨h₁, tk₁, rfl, _⟩ := X.done
    have hkeep' : Ext s.heap h₁ := fun b o e => hkeep b o e
    have I1 : Inv Z (W ++ []) h₁ := (I.sub (U' := W ++ []) fun a q => (List.mem_append.mp q).elim (fun q => .inr (w1 a q)) .inl).ext hkeep'
    refine law_body t hl (A := A.deeper _) (Around.frames_deeper hfr) [] W _ _ _ rm.deeper C I1 fun fl h' tk k af => ?_
    obtain ⟨v, rfl, hV, I'⟩ := af
    obtain rfl := hV.bool_inv
    exact hQ h' tk (fun b o q e => k b o (fun z => (List.mem_append.mp z).elim (fun z => by rw [w1 b z] at e; cases e) q) (hkeep b o e)) (I'.sub fun a q => .inl (List.mem_append_right _ q))
end
end Mine
end

section
open PySem PySem.W PyProof.Rows
set_option Elab.async false
set_option maxRecDepth 100000
set_option linter.unusedVariables false
namespace Mine
def gnames : List Str := ["CRLF", "NL", "_QUOPRI_MAP", "_QUOPRI_BODY_ENCODE_MAP", "_DIV_LIMIT", "quote", "body_encode", "_div2n1n", "_div3n2n", "_int2digits", "_digits2int", "_divmod_pos", "int_divmod", "_law_escape", "_law_block", "_law_cut", "_law_letter", "_law_letters", "_law_clausen", "_law_refused", "_law_default", "law"]
def gvals : List Value := [.str ⟨#[13, 10]⟩ 187, .str ⟨#[10]⟩ 189, .ref 17, .ref 39, .int 4000 1765, .ref 37, .ref 50, .ref 57, .ref 64, .ref 71, .ref 78, .ref 85, .ref 92, .ref 99, .ref 104, .ref 109, .ref 114, .ref 119, .ref 124, .ref 131, .ref 138, .ref 143]
def seqV (h : Heap) (a : Addr) : List Value := match h.get? a with | some o => (match o.data with | .seq vs _ => vs.toList | _ => []) | none => []
def seqK (h : Heap) (a : Addr) : Nat := match h.get? a with | some o => (match o.data with | .seq _ k => k | _ => 0) | none => 0
def fdAt (h : Heap) (a : Addr) : Value × Value := match h.get? a with | some o => (match o.data with | .func fd => (fd.pyModule, fd.doc) | _ => (.none, .none)) | none => (.none, .none)
def tokV (v : Option Value) : Tok := match v with | some (.str _ t) => t | some (.int _ t) => t | _ => 0
def fieldAt (h : Heap) (a : Addr) (i : Nat) : Option Value := match h.get? a with | some o => (match o.data with | .fields vs => (vs[i]? : Option Value) | _ => none) | none => none
def dataAt (h : Heap) (a : Addr) : Option Data := (h.get? a).map (·.data)
def fnCode (h : Heap) (a : Addr) : Value := match h.get? a with | some o => (match o.data with | .func fd => fd.code | _ => .none) | none => .none
def bnames0 : List Str := ["len", "ord", "chr", "range", "list", "sum", "reversed", "divmod", "ValueError", "ZeroDivisionError"]
abbrev Seen : Type := (Bool × List (Option Value) × Value × Option Value × Value × Option Value) × List (Option Value) × Option Obj × Option Obj × Bool × Option Data × Option Value × Option (Value × Data)
def viewOf (h : Heap) : Seen := ((h.isNs mainGlobals, bnames0.map (h.nsMap mainGlobals), fnCode h 71, fieldAt h 70 11, fnCode h 78, fieldAt h 77 11), gnames.map (h.nsMap mainGlobals), h.get? 17, h.get? 39, ((List.range 256).all fun c => match (seqV h 39)[c]? with | some (.str x _) => x == encM c | _ => false), dataAt h 50, fieldAt h 49 1, (h.get? 43).map fun o => (o.cls, o.data))
def viewIs (h : Heap) : Seen := ((true, bnames0.map (fun _ => none), .ref 70, some (.ref 66), .ref 77, some (.ref 73)), gvals.map some, some { cls := .type "list", dict := none, data := .seq (hexF 256 0).toArray (seqK h 17), slots := #[] }, some { cls := .type "list", dict := none, data := .seq (seqV h 39).toArray (seqK h 39), slots := #[] }, true,
  some (.func (encFd (fdAt h 50).1 (.ref 49) (fdAt h 50).2 43)), some (.str "body_encode" (tokV (fieldAt h 49 1))), some (.type "tuple", .seq #[.int 76 (tokV (seqV h 43)[0]?), .str ⟨#[10]⟩ (tokV (seqV h 43)[1]?)] (seqK h 43)))
theorem head_view (P : Params) : viewOf (HE P) = viewIs (HE P) := by kernel_rfl
end Mine
end

section
open PySem PySem.W PyProof.Rows
set_option Elab.async false
set_option maxRecDepth 100000
set_option linter.unusedVariables false
namespace Mine
def d0 : Adr := { quote := 37, enc := 50, d2 := 57, d3 := 64, i2d := 71, d2i := 78, dmp := 85, idm := 92, esc := 99, block := 104, cut := 109, letter := 114, letters := 119, clausen := 124, refused := 131, deflt := 138, law := 143, crlf := 187, nl := 189 }
def Z0 : List ZT := [zI 70 66, zD 77 73]
theorem zs0 : zs Z0 = [66, 73] := rfl
theorem g0 : (T0 d0).g = gnames.zip gvals := rfl
theorem recs_find : ∀ n ∈ (["quote", "_div2n1n", "_int2digits", "_digits2int", "_divmod_pos", "int_divmod", "_law_escape", "_law_block", "_law_cut", "_law_letter", "_law_letters", "_law_clausen", "_law_refused", "_law_default", "law"] : List Str), ((recsOf q0).find? fun e => e.name == n).isSome = true := by
  have h : ((["quote", "_div2n1n", "_int2digits", "_digits2int", "_divmod_pos", "int_divmod", "_law_escape", "_law_block", "_law_cut", "_law_letter", "_law_letters", "_law_clausen", "_law_refused", "_law_default", "law"] : List Str).all fun n => ((recsOf q0).find? fun e => e.name == n).isSome) = true := by kernel_rfl
  exact fun n hn => List.all_eq_true.mp h n hn
theorem dOf_of {n : Str} {d : DefRec} (h : (recsOf q0).find? (fun e => e.name == n) = some d) (hd : d.params.defaults.isEmpty = true) : dOf n = d := by
  unfold dOf defOf
  rw [h]
  dsimp only
  rw [if_pos hd]
theorem recs_plain : ((recsOf q0).all fun d => d.params.defaults.isEmpty) = true := by kernel_rfl
theorem dOf_mem {n : Str} (h : ((recsOf q0).find? fun e => e.name == n).isSome = true) : dOf n ∈ recsOf q0 ∧ (dOf n).name = n := by
  obtain ⟨d, hd⟩ := Option.isSome_iff_exists.mp h
  have hm := List.mem_of_find?_eq_some hd
  have hn : d.name = n := by have := List.find?_some hd; exact eq_of_beq this
  rw [dOf_of hd (List.all_eq_true.mp recs_plain d hm)]
  exact ⟨hm, hn⟩
section
variable {b0 h : Heap} {mg mb : Str → Option Value} {mean : ExcName → Option Value} {loose : List Str}
theorem mg_is (T : Top q0 loose mean mg mb h) (e0 : viewOf b0 = viewIs b0) (K : Ext b0 h) : mg = b0.nsMap mainGlobals := by
  have h1 : b0.isNs mainGlobals = true := congrArg (fun v : Seen => v.1.1) e0
  have n1 := (Heap.Ns.of_isNs h1).keeps K
  rw [T.g.eq_nsMap, n1.eq_nsMap]
theorem mg_at (T : Top q0 loose mean mg mb h) (e0 : viewOf b0 = viewIs b0) (K : Ext b0 h) : ∀ x v, List.Mem (x, v) (T0 d0).g → mg x = some v := by
  have e : gnames.map (b0.nsMap mainGlobals) = gvals.map some := congrArg (fun v : Seen => v.2.1) e0
  rw [mg_is T e0 K, g0]
  have key : ∀ (ns : List Str) (vs : List Value) (m : Str → Option Value), ns.map m = vs.map some → ∀ x v, List.Mem (x, v) (ns.zip vs) → m x = some v := by
    intro ns
    induction ns with
    | nil => intro vs m _ x v hm; cases vs <;> cases hm
    | cons n ns ih =>
      intro vs m e x v hm
      cases vs with
      | nil => cases hm
      | cons u vs =>
        rw [List.map_cons, List.map_cons, List.cons.injEq] at e
        cases hm with
        | head => exact e.1
        | tail _ hm => exact ih vs m e.2 x v hm
  exact key _ _ _ e
theorem mg_none (T : Top q0 loose mean mg mb h) (e0 : viewOf b0 = viewIs b0) (K : Ext b0 h) : ∀ x, x ∈ bnames → mg x = none := by
  have e : bnames0.map (b0.nsMap mainGlobals) = bnames0.map (fun _ => none) := congrArg (fun v : Seen => v.1.2.1) e0
  rw [mg_is T e0 K]
  intro x hx
  obtain ⟨i, hi, rfl⟩ := List.getElem_of_mem (show x ∈ bnames0 from hx)
  have := congrArg (fun l : List (Option Value) => l[i]?) e
  simpa [hi] using this
structure Tabbed (h : Heap) : Prop where
  i2d : h.IsCode 70 66 #[] ∧ h.TableAt 70 66 #[]
  d2i : h.IsCode 77 73 #[] ∧ h.TableAt 77 73 #[]
theorem tab_one {n : Str} {a c z : Addr} (T : Top q0 loose mean mg mb h) (K : Ext b0 h) (hr : ((recsOf q0).find? fun e => e.name == n).isSome = true) (hm : mg n = some (.ref a)) (hc : fnCode b0 a = .ref c) (hz : fieldAt b0 c 11 = some (.ref z)) : h.IsCode c z #[] ∧ h.TableAt c z #[] := by
  obtain ⟨hd, hn⟩ := dOf_mem hr
  obtain ⟨a', o, fd, c', z', e1, e2, e3, e4, e5, e6⟩ := T.tab _ hd
  rw [hn, hm] at e1
  cases e1
  have hcc : c' = c := by
    unfold fnCode at hc
    cases q : b0.get? a with
    | none => rw [q] at hc; cases hc
    | some o' =>
      have := K _ _ q
      rw [e2] at this; cases this
      rw [q] at hc
      dsimp only at hc
      rw [e3] at hc
      dsimp only at hc
      rw [e4] at hc
      cases hc; rfl
  subst hcc
  have hzz : z' = z := by
    unfold fieldAt at hz
    obtain ⟨⟨oc, vs, f1, f2, f3, f4⟩, _⟩ := e6
    cases q : b0.get? c' with
    | none => rw [q] at hz; cases hz
    | some o' =>
      have := K _ _ q
      rw [f1] at this; cases this
      rw [q] at hz
      dsimp only at hz
      rw [f3] at hz
      dsimp only at hz
      rw [f4] at hz
      cases hz; rfl
  subst hzz
  exact ⟨e5, e6⟩
theorem tabbed (T : Top q0 loose mean mg mb h) (e0 : viewOf b0 = viewIs b0) (K : Ext b0 h) : Tabbed h where
  i2d := tab_one (n := "_int2digits") (a := d0.i2d) T K (recs_find _ (by decide +kernel)) (mg_at T e0 K _ _ (by with_reducible repeat (first | exact .head _ | apply List.Mem.tail))) (congrArg (fun v : Seen => v.1.2.2.1) e0) (congrArg (fun v : Seen => v.1.2.2.2.1) e0)
  d2i := tab_one (n := "_digits2int") (a := d0.d2i) T K (recs_find _ (by decide +kernel)) (mg_at T e0 K _ _ (by with_reducible repeat (first | exact .head _ | apply List.Mem.tail))) (congrArg (fun v : Seen => v.1.2.2.2.2.1) e0) (congrArg (fun v : Seen => v.1.2.2.2.2.2) e0)
abbrev hid (h : Heap) : Heap := hideAll h [66, 73]
theorem Tabbed.at66 (t : Tabbed h) : h.get? 66 = some (tabObj #[]) := t.i2d.2.2
theorem Tabbed.at73 (t : Tabbed h) : h.get? 73 = some (tabObj #[]) := t.d2i.2.2
theorem hid_get (t : Tabbed h) {b : Addr} {o : Obj} (e : h.get? b = some o) (hne : o.data ≠ .fields #[]) : (hid h).get? b = some o :=
  hideAll_get _ e fun q => by
    rcases List.mem_cons.mp q with rfl | q
    · rw [t.at66] at e; cases e; exact hne rfl
    · rw [List.mem_singleton.mp q, t.at73] at e; cases e; exact hne rfl
theorem hid_ns (t : Tabbed h) {a : Addr} {m : Str → Option Value} (x : h.Ns a m) : (hid h).Ns a m := by
  obtain ⟨o, es, ep, a, b, r⟩ := x
  exact ⟨o, es, ep, hid_get t a (by rw [b]; intro q; cases q), b, r⟩
theorem hid_code (t : Tabbed h) {cd : Value} {q : Str} (x : h.CodeRec cd q) : (hid h).CodeRec cd q := by
  obtain ⟨c, o, vs, tk, e, a, b, r⟩ := x
  exact ⟨c, o, vs, tk, e, hid_get t a (by rw [b]; intro q; cases q; simp at r), b, r⟩
theorem hid_list (t : Tabbed h) {a : Addr} {vs : Array Value} (x : h.PlainList a vs) : (hid h).PlainList a vs := by
  obtain ⟨k, e⟩ := x
  exact ⟨k, hid_get t e (by intro q; cases q)⟩
theorem fn_top {n : Str} {a : Addr} (T : Top q0 loose mean mg mb h) (t : Tabbed h) (hr : ((recsOf q0).find? fun e => e.name == n).isSome = true) (hm : mg n = some (.ref a)) : FnAt (hid h) n a := by
  obtain ⟨hd, hn⟩ := dOf_mem hr
  obtain ⟨a', o, pm, cd, doc, e1, e2, e3, e4⟩ := T.fn _ hd
  rw [hn, hm] at e1
  cases e1
  exact ⟨o, pm, cd, doc, hid_get t e2 (by rw [e3]; intro q; cases q), e3, hid_code t e4⟩
theorem fnc_top {n : Str} {a c : Addr} (T : Top q0 loose mean mg mb h) (K : Ext b0 h) (t : Tabbed h) (hr : ((recsOf q0).find? fun e => e.name == n).isSome = true) (hm : mg n = some (.ref a)) (hc : fnCode b0 a = .ref c) : FnC (hid h) n a c := by
  obtain ⟨hd, hn⟩ := dOf_mem hr
  obtain ⟨a', o, pm, cd, doc, e1, e2, e3, e4⟩ := T.fn _ hd
  rw [hn, hm] at e1
  cases e1
  have hcd : cd = .ref c := by
    unfold fnCode at hc
    cases q : b0.get? a with
    | none => rw [q] at hc; cases hc
    | some o' =>
      have := K _ _ q
      rw [e2] at this; cases this
      rw [q] at hc
      dsimp only at hc
      rw [e3] at hc
      exact hc
  subst hcd
  exact ⟨o, pm, doc, hid_get t e2 (by rw [e3]; intro q; cases q), e3, hid_code t e4⟩
theorem enc_top (e0 : viewOf b0 = viewIs b0) (K : Ext b0 h) (t : Tabbed h) : EncAt (hid h) 50 := by
  have v1 : dataAt b0 50 = some (.func (encFd (fdAt b0 50).1 (.ref 49) (fdAt b0 50).2 43)) := congrArg (fun v : Seen => v.2.2.2.2.2.1) e0
  have v2 : fieldAt b0 49 1 = some (.str "body_encode" (tokV (fieldAt b0 49 1))) := congrArg (fun v : Seen => v.2.2.2.2.2.2.1) e0
  have v3 : (b0.get? 43).map (fun o => (o.cls, o.data)) = some (.type "tuple", .seq #[.int 76 (tokV (seqV b0 43)[0]?), .str ⟨#[10]⟩ (tokV (seqV b0 43)[1]?)] (seqK b0 43)) := congrArg (fun v : Seen => v.2.2.2.2.2.2.2) e0
  obtain ⟨o, ho, hd⟩ := Option.map_eq_some_iff.mp v1
  obtain ⟨o3, ho3, hd3⟩ := Option.map_eq_some_iff.mp v3
  rw [Prod.mk.injEq] at hd3
  refine ⟨o, _, _, _, _, _, _, hid_get t (K _ _ ho) (by rw [hd]; intro q; cases q), hd, ?_, ⟨o3, hid_get t (K _ _ ho3) (by rw [hd3.2]; intro q; cases q), hd3.1, _, hd3.2⟩⟩
  unfold fieldAt at v2
  cases q : b0.get? 49 with
  | none => rw [q] at v2; cases v2
  | some oc =>
    rw [q] at v2
    dsimp only at v2
    cases hdc : oc.data with
    | fields vs =>
      rw [hdc] at v2
      exact hid_code t ⟨49, oc, vs, _, rfl, K _ _ q, hdc, v2⟩
    | _ => rw [hdc] at v2; cases v2
theorem gl_top (T : Top q0 loose mean mg mb h) (e0 : viewOf b0 = viewIs b0) (K : Ext b0 h) (t : Tabbed h) : Gl (T0 d0) (hid h) := by
  refine ⟨⟨mg, mb, hid_ns t T.g, hid_ns t T.b, mg_at T e0 K, mg_none T e0 K, T.builtins⟩, ?_, fun p hp => nomatch hp⟩
  obtain ⟨mc, h1, h2⟩ := T.nolimit
  exact ⟨mc, hid_ns t h1, h2⟩
theorem bi_top (T : Top q0 loose mean mg mb h) (t : Tabbed h) : BiAt (hid h) := by
  obtain ⟨bm, ob, e1, e2, e3, e4, e5, e6⟩ := T.bmain
  refine ⟨mg, bm, ob, hid_ns t T.g, e1, e2, fun q => ?_, hid_get t e3 (by rw [e6]; intro q; cases q), e4, e5, e6⟩
  obtain ⟨o, es, ep, f1, f2, _⟩ := T.g
  rw [q] at e3
  rw [f1] at e3; cases e3
  rw [f2] at e6; cases e6
theorem map_top (e0 : viewOf b0 = viewIs b0) (K : Ext b0 h) (t : Tabbed h) : (hid h).PlainList 17 (hexF 256 0).toArray :=
  hid_list t ⟨_, K _ _ (congrArg (fun v : Seen => v.2.2.1) e0)⟩
theorem emap_top (e0 : viewOf b0 = viewIs b0) (K : Ext b0 h) (t : Tabbed h) : ∃ vs : List Value, (hid h).PlainList 39 vs.toArray ∧ ∀ c, c < 256 → ∃ t, vs[c]? = some (.str (encM c) t) := by
  refine ⟨seqV b0 39, hid_list t ⟨_, K _ _ (congrArg (fun v : Seen => v.2.2.2.1) e0)⟩, fun c hc => ?_⟩
  have v : ((List.range 256).all fun c => match (seqV b0 39)[c]? with | some (.str x _) => x == encM c | _ => false) = true := congrArg (fun v : Seen => v.2.2.2.2.1) e0
  have := List.all_eq_true.mp v c (List.mem_range.mpr hc)
  cases q : (seqV b0 39)[c]? with
  | none => rw [q] at this; cases this
  | some u =>
    rw [q] at this
    cases u with
    | str x tk => exact ⟨tk, by rw [eq_of_beq this]⟩
    | _ => cases this
theorem inj1 : ∀ r ∈ Z0, r.z = 66 → r = zI 70 66 := fun r hr e => by
  rcases List.mem_cons.mp hr with rfl | hr
  · rfl
  · rw [List.mem_singleton.mp hr] at e
    exact absurd (show (73 : Nat) = 66 from e) (by decide)
theorem inj2 : ∀ r ∈ Z0, r.z = 73 → r = zD 77 73 := fun r hr e => by
  rcases List.mem_cons.mp hr with rfl | hr
  · exact absurd (show (66 : Nat) = 73 from e) (by decide)
  · exact List.mem_singleton.mp hr
theorem top1 (T : Top q0 loose mean mg mb h) (e0 : viewOf b0 = viewIs b0) (K : Ext b0 h) : Top1 d0 Z0 (hid h) ∧ FnAt (hid h) "law" d0.law := by
  have t := tabbed T e0 K
  have fn : ∀ (n : Str) (a : Addr), n ∈ (["quote", "_div2n1n", "_int2digits", "_digits2int", "_divmod_pos", "int_divmod", "_law_escape", "_law_block", "_law_cut", "_law_letter", "_law_letters", "_law_clausen", "_law_refused", "_law_default", "law"] : List Str) → List.Mem (n, .ref a) (T0 d0).g → FnAt (hid h) n a := fun n a h1 h2 => fn_top T t (recs_find n h1) (mg_at T e0 K n _ h2)
  have c1 := fnc_top (n := "_int2digits") (a := d0.i2d) (c := 70) T K t (recs_find _ (by decide +kernel)) (mg_at T e0 K _ _ (by with_reducible repeat (first | exact .head _ | apply List.Mem.tail))) (congrArg (fun v : Seen => v.1.2.2.1) e0)
  have c2 := fnc_top (n := "_digits2int") (a := d0.d2i) (c := 77) T K t (recs_find _ (by decide +kernel)) (mg_at T e0 K _ _ (by with_reducible repeat (first | exact .head _ | apply List.Mem.tail))) (congrArg (fun v : Seen => v.1.2.2.2.2.1) e0)
  have mem : ∀ {x : Str × Value}, x ∈ (T0 d0).g → List.Mem x (T0 d0).g := fun h => h
  refine ⟨⟨⟨gl_top T e0 K t, map_top e0 K t, fn _ _ ?_ ?_, fn _ _ ?_ ?_, fn _ _ ?_ ?_, fn _ _ ?_ ?_, fn _ _ ?_ ?_, fn _ _ ?_ ?_, emap_top e0 K t⟩, enc_top e0 K t, bi_top T t, fn _ _ ?_ ?_, fn _ _ ?_ ?_, fn _ _ ?_ ?_, fn _ _ ?_ ?_, fn _ _ ?_ ?_, fn _ _ ?_ ?_, ⟨70, 66, c1, .head _, inj1⟩, ⟨77, 73, c2, .tail _ (.head _), inj2⟩, fun a q => hideAll_none _ q⟩, fn _ _ ?_ ?_⟩
  all_goals first
    | decide +kernel
    | (with_reducible (repeat (first | exact .head _ | apply List.Mem.tail)))
theorem inv_top (T : Top q0 loose mean mg mb h) (e0 : viewOf b0 = viewIs b0) (K : Ext b0 h) : Inv Z0 [] h := by
  have t := tabbed T e0 K
  intro r hr
  rcases List.mem_cons.mp hr with rfl | hr
  · exact ⟨CodeHd.of t.i2d.1 t.i2d.2, ⟨by simp, by show (70 : Nat) ∉ [66, 73]; decide⟩, #[], t.at66, .inl rfl⟩
  · rw [List.mem_singleton.mp hr]
    exact ⟨CodeHd.of t.d2i.1 t.d2i.2, ⟨by simp, by show (77 : Nat) ∉ [66, 73]; decide⟩, #[], t.at73, .inl rfl⟩
end
end Mine
end

section
open PySem PySem.W PyProof.Rows
set_option Elab.async false
set_option maxRecDepth 100000
set_option linter.unusedVariables false
namespace Mine
theorem VL_of_ints {H : List Addr} {h : Heap} : ∀ {vs : List Value} {ns : List Int}, IntsAre vs ns → VL H h vs (ns.map .int)
  | _, _, .nil => .nil
  | _, _, .cons n t r => .cons (.int _ _) (VL_of_ints r)
theorem room10 : Room 10 callerA := ⟨rfl, by decide +kernel, by decide +kernel⟩
theorem old_of {b0 h h' : Heap} {mg mb : Str → Option Value} {mean : ExcName → Option Value} {loose : List Str} (T : Top q0 loose mean mg mb h) (e0 : viewOf b0 = viewIs b0) (K : Ext b0 h) (k : KeepsOff (zs Z0) h h') (I' : Inv Z0 [] h') : OldK h h' := by
  have t := tabbed T e0 K
  have one : ∀ z, z ∈ zs Z0 → isCodeTable h z ∧ h.get? z = some (tabObj #[]) ∧ ∃ ps, h'.get? z = some (tabObj ps) := fun z hz => by
    obtain ⟨r, hr, rfl⟩ := List.mem_map.mp hz
    obtain ⟨_, _, ps, e, _⟩ := I' r hr
    rcases List.mem_cons.mp hr with rfl | hr
    · exact ⟨t.i2d.2.isCodeTable, t.at66, ps, e⟩
    · rw [List.mem_singleton.mp hr] at e ⊢
      exact ⟨t.d2i.2.isCodeTable, t.at73, ps, e⟩
  refine ⟨fun b o e => ?_, fun b o e => ?_⟩
  · by_cases hb : b ∈ zs Z0
    · obtain ⟨x1, x2, ps, x3⟩ := one b hb
      rw [x2] at e
      cases e
      exact .inr (.inl ⟨x1, rfl, #[], ps, rfl, by rw [x3]; simp⟩)
    · exact .inl (k b o hb e)
  · by_cases hb : b ∈ zs Z0
    · obtain ⟨_, _, ps, x3⟩ := one b hb
      exact ⟨_, x3⟩
    · exact ⟨o, k b o hb e⟩
theorem law_goal : lawGoal := by
  intro w s₀ s₁ mg mb G Y fa o pm cd doc dV kV ho hd hcd hD hmg hg args vals as L hpre hlay hrd hwl hlo
  have T := G.T
  have K0 : Ext (HE w.params) s₁.heap := fun b o e => L.keeps b o ((show s₀.heap = HE w.params from Y) ▸ e)
  have e0 := head_view w.params
  clear hd hcd hD ho
  wrow_args hpre hlay hrd hwl hlo
  rename_i ns _ _ _ _ _ as1 as2 la vs _ hL _ _ _ hI _ hlen _
  have pl := PySem.W.X.script_obj L hL
  obtain ⟨t1, fl⟩ := top1 T e0 K0
  have Iv := inv_top T e0 K0
  have hfa : fa = d0.law := by
    rw [(dOf_mem (recs_find "law" (by decide +kernel))).2, mg_at T e0 K0 "law" (.ref d0.law) (by with_reducible repeat (first | exact .head _ | apply List.Mem.tail))] at hmg
    cases hmg; rfl
  subst hfa
  have t := tabbed T e0 K0
  have hla : la ∉ zs Z0 ++ [] := fun q => by
    rw [List.append_nil, zs0] at q
    rcases List.mem_cons.mp q with rfl | q
    · rw [t.at66] at pl; cases pl
    · rw [List.mem_singleton.mp q, t.at73] at pl; cases pl
  refine law_walk t1 fl (l := ns) (by omega) room10 rfl (fun b o e => of_hideAll _ e) (.cons (.list hla ⟨_, pl⟩ (VL_of_ints hI)) .nil) (fun a q => Iv.live a (by simpa using q)) Iv fun h' tk k I' => ?_
  refine ⟨.inl ⟨.bool true, .bool true, [], rfl, fun _ => rfl, ?_, by first | kernel_rfl | rfl, fun _ => ⟨.nil, fun _ q => nomatch q⟩⟩, old_of T e0 K0 k I', rfl, ?_⟩
  · exact .bool true
  · exact .of_eq hg
end Mine

end
open PySem PySem.W PyProof.Rows
set_option Elab.async false
theorem PySem.Challenge.cw_ku0017_01_holds : PySem.Challenge.rw_ku0017_01.Holds := by
  exact Mine.law_of Mine.law_goal
