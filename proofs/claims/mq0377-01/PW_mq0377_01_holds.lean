import PyProof.Rows.All
import Wide.All
import OpenK.AllK
import Wide.FinOn
import PyProof.ExcBaseAll.ValueError
import Lean
import PySem.Challenge.RW_mq0377_01
open PySem PySem.W PyProof.Rows PySem.Calls
set_option Elab.async false
set_option maxRecDepth 100000
set_option linter.all false
set_option compiler.extract_closed false
namespace Mine
noncomputable section
theorem el_aea {α1 : Type _} {P0 : Prop} {P2 : α1 → Prop} {P3 : α1 → Prop} {G : Prop} (h : P0 ∧ ∃ x1, P2 x1 ∧ P3 x1) (k : P0 → ∀ x1, P2 x1 → P3 x1 → G) : G := by
  obtain ⟨h0, x1, h2, h3⟩ := h
  exact k h0 x1 h2 h3
theorem el_aaaaa  {P0 : Prop} {P1 : Prop} {P2 : Prop} {P3 : Prop} {P4 : Prop} {P5 : Prop} {G : Prop} (h : P0 ∧ P1 ∧ P2 ∧ P3 ∧ P4 ∧ P5) (k : P0 → P1 → P2 → P3 → P4 → P5 → G) : G := by
  obtain ⟨h0, h1, h2, h3, h4, h5⟩ := h
  exact k h0 h1 h2 h3 h4 h5
theorem el_eeeaa {α0 : Type _} {α1 : Type _} {α2 : Type _} {P3 : α0 → α1 → α2 → Prop} {P4 : α0 → α1 → α2 → Prop} {P5 : α0 → α1 → α2 → Prop} {G : Prop} (h : ∃ x0, ∃ x1, ∃ x2, P3 x0 x1 x2 ∧ P4 x0 x1 x2 ∧ P5 x0 x1 x2) (k : ∀ x0, ∀ x1, ∀ x2, P3 x0 x1 x2 → P4 x0 x1 x2 → P5 x0 x1 x2 → G) : G := by
  obtain ⟨x0, x1, x2, h3, h4, h5⟩ := h
  exact k x0 x1 x2 h3 h4 h5
theorem el_ea {α0 : Type _} {P1 : α0 → Prop} {P2 : α0 → Prop} {G : Prop} (h : ∃ x0, P1 x0 ∧ P2 x0) (k : ∀ x0, P1 x0 → P2 x0 → G) : G := by
  obtain ⟨x0, h1, h2⟩ := h
  exact k x0 h1 h2
theorem el_aa  {P0 : Prop} {P1 : Prop} {P2 : Prop} {G : Prop} (h : P0 ∧ P1 ∧ P2) (k : P0 → P1 → P2 → G) : G := by
  obtain ⟨h0, h1, h2⟩ := h
  exact k h0 h1 h2
theorem el_ee {α0 : Type _} {α1 : Type _} {P2 : α0 → α1 → Prop} {G : Prop} (h : ∃ x0, ∃ x1, P2 x0 x1) (k : ∀ x0, ∀ x1, P2 x0 x1 → G) : G := by
  obtain ⟨x0, x1, h2⟩ := h
  exact k x0 x1 h2
theorem el_ae {α1 : Type _} {P0 : Prop} {P2 : α1 → Prop} {G : Prop} (h : P0 ∧ ∃ x1, P2 x1) (k : P0 → ∀ x1, P2 x1 → G) : G := by
  obtain ⟨h0, x1, h2⟩ := h
  exact k h0 x1 h2
theorem el_eaa {α0 : Type _} {P1 : α0 → Prop} {P2 : α0 → Prop} {P3 : α0 → Prop} {G : Prop} (h : ∃ x0, P1 x0 ∧ P2 x0 ∧ P3 x0) (k : ∀ x0, P1 x0 → P2 x0 → P3 x0 → G) : G := by
  obtain ⟨x0, h1, h2, h3⟩ := h
  exact k x0 h1 h2 h3
theorem el_eea {α0 : Type _} {α1 : Type _} {P2 : α0 → α1 → Prop} {P3 : α0 → α1 → Prop} {G : Prop} (h : ∃ x0, ∃ x1, P2 x0 x1 ∧ P3 x0 x1) (k : ∀ x0, ∀ x1, P2 x0 x1 → P3 x0 x1 → G) : G := by
  obtain ⟨x0, x1, h2, h3⟩ := h
  exact k x0 x1 h2 h3
theorem el_aaa  {P0 : Prop} {P1 : Prop} {P2 : Prop} {P3 : Prop} {G : Prop} (h : P0 ∧ P1 ∧ P2 ∧ P3) (k : P0 → P1 → P2 → P3 → G) : G := by
  obtain ⟨h0, h1, h2, h3⟩ := h
  exact k h0 h1 h2 h3
theorem el_eeaa {α0 : Type _} {α1 : Type _} {P2 : α0 → α1 → Prop} {P3 : α0 → α1 → Prop} {P4 : α0 → α1 → Prop} {G : Prop} (h : ∃ x0, ∃ x1, P2 x0 x1 ∧ P3 x0 x1 ∧ P4 x0 x1) (k : ∀ x0, ∀ x1, P2 x0 x1 → P3 x0 x1 → P4 x0 x1 → G) : G := by
  obtain ⟨x0, x1, h2, h3, h4⟩ := h
  exact k x0 x1 h2 h3 h4
theorem el_eaaa {α0 : Type _} {P1 : α0 → Prop} {P2 : α0 → Prop} {P3 : α0 → Prop} {P4 : α0 → Prop} {G : Prop} (h : ∃ x0, P1 x0 ∧ P2 x0 ∧ P3 x0 ∧ P4 x0) (k : ∀ x0, P1 x0 → P2 x0 → P3 x0 → P4 x0 → G) : G := by
  obtain ⟨x0, h1, h2, h3, h4⟩ := h
  exact k x0 h1 h2 h3 h4
theorem el_aaaa  {P0 : Prop} {P1 : Prop} {P2 : Prop} {P3 : Prop} {P4 : Prop} {G : Prop} (h : P0 ∧ P1 ∧ P2 ∧ P3 ∧ P4) (k : P0 → P1 → P2 → P3 → P4 → G) : G := by
  obtain ⟨h0, h1, h2, h3, h4⟩ := h
  exact k h0 h1 h2 h3 h4
theorem el_eeea {α0 : Type _} {α1 : Type _} {α2 : Type _} {P3 : α0 → α1 → α2 → Prop} {P4 : α0 → α1 → α2 → Prop} {G : Prop} (h : ∃ x0, ∃ x1, ∃ x2, P3 x0 x1 x2 ∧ P4 x0 x1 x2) (k : ∀ x0, ∀ x1, ∀ x2, P3 x0 x1 x2 → P4 x0 x1 x2 → G) : G := by
  obtain ⟨x0, x1, x2, h3, h4⟩ := h
  exact k x0 x1 x2 h3 h4
theorem el_aaea {α2 : Type _} {P0 : Prop} {P1 : Prop} {P3 : α2 → Prop} {P4 : α2 → Prop} {G : Prop} (h : P0 ∧ P1 ∧ ∃ x2, P3 x2 ∧ P4 x2) (k : P0 → P1 → ∀ x2, P3 x2 → P4 x2 → G) : G := by
  obtain ⟨h0, h1, x2, h3, h4⟩ := h
  exact k h0 h1 x2 h3 h4
theorem el_eeaaa {α0 : Type _} {α1 : Type _} {P2 : α0 → α1 → Prop} {P3 : α0 → α1 → Prop} {P4 : α0 → α1 → Prop} {P5 : α0 → α1 → Prop} {G : Prop} (h : ∃ x0, ∃ x1, P2 x0 x1 ∧ P3 x0 x1 ∧ P4 x0 x1 ∧ P5 x0 x1) (k : ∀ x0, ∀ x1, P2 x0 x1 → P3 x0 x1 → P4 x0 x1 → P5 x0 x1 → G) : G := by
  obtain ⟨x0, x1, h2, h3, h4, h5⟩ := h
  exact k x0 x1 h2 h3 h4 h5
theorem el_eaaaa {α0 : Type _} {P1 : α0 → Prop} {P2 : α0 → Prop} {P3 : α0 → Prop} {P4 : α0 → Prop} {P5 : α0 → Prop} {G : Prop} (h : ∃ x0, P1 x0 ∧ P2 x0 ∧ P3 x0 ∧ P4 x0 ∧ P5 x0) (k : ∀ x0, P1 x0 → P2 x0 → P3 x0 → P4 x0 → P5 x0 → G) : G := by
  obtain ⟨x0, h1, h2, h3, h4, h5⟩ := h
  exact k x0 h1 h2 h3 h4 h5
theorem el_eeeaaa {α0 : Type _} {α1 : Type _} {α2 : Type _} {P3 : α0 → α1 → α2 → Prop} {P4 : α0 → α1 → α2 → Prop} {P5 : α0 → α1 → α2 → Prop} {P6 : α0 → α1 → α2 → Prop} {G : Prop} (h : ∃ x0, ∃ x1, ∃ x2, P3 x0 x1 x2 ∧ P4 x0 x1 x2 ∧ P5 x0 x1 x2 ∧ P6 x0 x1 x2) (k : ∀ x0, ∀ x1, ∀ x2, P3 x0 x1 x2 → P4 x0 x1 x2 → P5 x0 x1 x2 → P6 x0 x1 x2 → G) : G := by
  obtain ⟨x0, x1, x2, h3, h4, h5, h6⟩ := h
  exact k x0 x1 x2 h3 h4 h5 h6
abbrev P0 : Program := PySem.Challenge.pw_mq0377_01
abbrev GH := Addr → Option Obj
abbrev LM := Str → Option Value
def gset (g : GH) (a : Addr) (o : Obj) : GH := fun x => if x = a then some o else g x
def mset (m : LM) (x : Str) (v : Value) : LM := fun y => if y = x then some v else m y
theorem gset_self {g : GH} {a : Addr} {o : Obj} : gset g a o a = some o := by simp [gset]
theorem gset_ne {g : GH} {a b : Addr} {o : Obj} (h : b ≠ a) : gset g a o b = g b := by simp [gset, h]
theorem mset_self {m : LM} {x : Str} {v : Value} : mset m x v x = some v := by simp [mset]
theorem mset_ne {m : LM} {x y : Str} {v : Value} (h : y ≠ x) : mset m x v y = m y := by simp [mset, h]
abbrev Grows (h h' : Heap) : Prop := ∀ b o, h.get? b = some o → h'.get? b = some o
def Kept (fs : List Addr) (base : GH) (h : Heap) : Prop :=
  ∀ a o, base a = some o → ∃ sl, h.get? a = some { o with slots := sl } ∧ (a ∉ fs → sl = o.slots)
structure Rep (H : Heap) (O : OsState) (fs : List Addr) (base g : GH) (s : Shared) : Prop where
  top : ∀ a o, H.get? a = some o → base a = some o ∧ a ∉ fs
  kb : Kept fs base s.heap
  kg : ∀ a o, g a = some o → s.heap.get? a = some o
  dj : ∀ a o, base a = some o → g a = none
  gens : s.gens = #[]
  os : s.os = O
structure Frm (env : Env) (m : LM) (base g : GH) (h : Heap) : Prop where
  ns : ∃ o es n, h.get? env.locals = some o ∧ o.data = .dict es n ∧ StrKeys es ∧ ∀ x, env.kindOf x = some .local → nsFind es x = m x
  lb : base env.locals = none
  lg : g env.locals = none
  cell : ∀ x c, env.cells.lookup x = some c → h.IsCell c (m x) ∧ g c = none ∧ c ≠ env.locals
  inj : ∀ x y c, env.cells.lookup x = some c → env.cells.lookup y = some c → x = y
  ck : ∀ x c, env.cells.lookup x = some c → env.kindOf x = some .cell ∨ env.kindOf x = some .free
  own : env.frame = some env.locals → ∀ x c, env.cells.lookup x = some c → env.kindOf x = some .cell → base c = none
section
variable {H : Heap} {O : OsState} {fs : List Addr} {base g : GH} {s : Shared} {env : Env} {m : LM} {h h' : Heap}
theorem Rep.topIn (R : Rep H O fs base g s) : Grows H s.heap := fun a o e => by
  obtain ⟨b, n⟩ := R.top a o e
  obtain ⟨sl, q, z⟩ := R.kb a o b
  rw [q, z n]
theorem Rep.baseSome (R : Rep H O fs base g s) {a : Addr} {o : Obj} (e : base a = some o) : ∃ o', s.heap.get? a = some o' ∧ o'.data = o.data := by
  obtain ⟨sl, q, _⟩ := R.kb a o e
  exact ⟨_, q, rfl⟩
theorem Rep.none_base (R : Rep H O fs base g s) {a : Addr} (e : s.heap.get? a = none) : base a = none := by
  cases q : base a with
  | none => rfl
  | some o => obtain ⟨o', q', _⟩ := R.baseSome q; rw [e] at q'; cases q'
theorem Rep.none_g (R : Rep H O fs base g s) {a : Addr} (e : s.heap.get? a = none) : g a = none := by
  cases q : g a with
  | none => rfl
  | some o => rw [R.kg a o q] at e; cases e
theorem Rep.g_base (R : Rep H O fs base g s) {a : Addr} {o : Obj} (e : g a = some o) : base a = none := by
  cases q : base a with
  | none => rfl
  | some o' => rw [R.dj a o' q] at e; cases e
theorem Rep.grow (R : Rep H O fs base g s) (k : Grows s.heap h') (tk : Nat) : Rep H O fs base g { s with heap := h', toks := tk } :=
  ⟨R.top, fun a o e => by obtain ⟨sl, q, z⟩ := R.kb a o e; exact ⟨sl, k _ _ q, z⟩, fun a o e => k _ _ (R.kg a o e), R.dj, R.gens, R.os⟩
theorem Rep.toks (R : Rep H O fs base g s) (tk : Nat) : Rep H O fs base g { s with toks := tk } := ⟨R.top, R.kb, R.kg, R.dj, R.gens, R.os⟩
theorem Rep.priv (R : Rep H O fs base g s) {a : Addr} (hs : ∀ b o, b ≠ a → s.heap.get? b = some o → h'.get? b = some o) (hb : base a = none) (hg : g a = none) (tk : Nat) : Rep H O fs base g { s with heap := h', toks := tk } :=
  ⟨R.top, fun b o e => by obtain ⟨sl, q, z⟩ := R.kb b o e; exact ⟨sl, hs _ _ (fun q => by rw [q, hb] at e; cases e) q, z⟩, fun b o e => hs _ _ (fun q => by rw [q, hg] at e; cases e) (R.kg b o e), R.dj, R.gens, R.os⟩
theorem Rep.upd (R : Rep H O fs base g s) {a : Addr} {o o' : Obj} (hg : g a = some o) (hs : ∀ b o, b ≠ a → s.heap.get? b = some o → h'.get? b = some o) (ho : h'.get? a = some o') (tk : Nat) :
    Rep H O fs base (gset g a o') { s with heap := h', toks := tk } := by
  have hb := R.g_base hg
  refine ⟨R.top, fun b o e => by obtain ⟨sl, q, z⟩ := R.kb b o e; exact ⟨sl, hs _ _ (fun q => by rw [q, hb] at e; cases e) q, z⟩, fun b o₁ e => ?_, fun b o₁ e => ?_, R.gens, R.os⟩
  · by_cases q : b = a
    · subst q; rw [gset_self] at e; cases e; exact ho
    · rw [gset_ne q] at e; exact hs _ _ q (R.kg b o₁ e)
  · by_cases q : b = a
    · subst q; rw [hb] at e; cases e
    · rw [gset_ne q]; exact R.dj b o₁ e
theorem Rep.new (R : Rep H O fs base g s) {a : Addr} {o' : Obj} (hn : s.heap.get? a = none) (k : Grows s.heap h') (ho : h'.get? a = some o') (tk : Nat) :
    Rep H O fs base (gset g a o') { s with heap := h', toks := tk } := by
  have hb := R.none_base hn
  refine ⟨R.top, fun b o e => by obtain ⟨sl, q, z⟩ := R.kb b o e; exact ⟨sl, k _ _ q, z⟩, fun b o₁ e => ?_, fun b o₁ e => ?_, R.gens, R.os⟩
  · by_cases q : b = a
    · subst q; rw [gset_self] at e; cases e; exact ho
    · rw [gset_ne q] at e; exact k _ _ (R.kg b o₁ e)
  · by_cases q : b = a
    · subst q; rw [hb] at e; cases e
    · rw [gset_ne q]; exact R.dj b o₁ e
theorem Frm.Ls (F : Frm env m base g h) : ∃ o, h.get? env.locals = some o := by obtain ⟨o, _, _, a, _⟩ := F.ns; exact ⟨o, a⟩
theorem Frm.mono (F : Frm env m base g h) (g' : GH) (hl : ∃ sl : Obj → Array (Option Value), ∀ o, h.get? env.locals = some o → h'.get? env.locals = some { o with slots := sl o }) (hc : ∀ c v, h.IsCell c v → g c = none → h'.IsCell c v) (hg : ∀ a o, h.get? a = some o → g a = none → g' a = none) : Frm env m base g' h' := by
  obtain ⟨o, es, n, a, b, c, d⟩ := F.ns
  obtain ⟨sl, hl⟩ := hl
  refine ⟨⟨_, es, n, hl o a, b, c, d⟩, F.lb, hg _ _ a F.lg, fun x c' e => ?_, F.inj, F.ck, F.own⟩
  obtain ⟨⟨o', q, z⟩, w1, w2⟩ := F.cell x c' e
  exact ⟨hc _ _ ⟨o', q, z⟩ w1, hg _ _ q w1, w2⟩
theorem Frm.grow (F : Frm env m base g h) (k : Grows h h') : Frm env m base g h' :=
  F.mono g ⟨fun o => o.slots, fun o e => k _ _ e⟩ (fun _ _ ⟨o, e, d⟩ _ => ⟨o, k _ _ e, d⟩) fun _ _ _ e => e
theorem Frm.priv (F : Frm env m base g h) {a : Addr} (hs : ∀ b o, b ≠ a → h.get? b = some o → h'.get? b = some o) (hL : env.locals ≠ a) (hc : ∀ x c, env.cells.lookup x = some c → c ≠ a) : Frm env m base g h' := by
  obtain ⟨o, es, n, a', b, c, d⟩ := F.ns
  refine ⟨⟨_, es, n, hs _ _ hL a', b, c, d⟩, F.lb, F.lg, fun x c' e => ?_, F.inj, F.ck, F.own⟩
  obtain ⟨⟨o', q, z⟩, w1, w2⟩ := F.cell x c' e
  exact ⟨⟨o', hs _ _ (hc x c' e) q, z⟩, w1, w2⟩
theorem Frm.upd (F : Frm env m base g h) {a : Addr} {o o' : Obj} (hg : g a = some o) (hs : ∀ b o, b ≠ a → h.get? b = some o → h'.get? b = some o) : Frm env m base (gset g a o') h' := by
  have hne : ∀ b, g b = none → b ≠ a := fun b e q => by rw [q, hg] at e; cases e
  refine F.mono _ ⟨fun o => o.slots, fun o e => hs _ _ (hne _ F.lg) e⟩ (fun c v ⟨o, e, d⟩ n => ⟨o, hs _ _ (hne _ n) e, d⟩) fun b o₁ _ e => ?_
  rw [gset_ne (hne b e)]; exact e
theorem Frm.new (F : Frm env m base g h) {a : Addr} {o' : Obj} (hn : h.get? a = none) (k : Grows h h') : Frm env m base (gset g a o') h' := by
  refine F.mono _ ⟨fun o => o.slots, fun o e => k _ _ e⟩ (fun c v ⟨o, e, d⟩ _ => ⟨o, k _ _ e, d⟩) fun b o₁ e e' => ?_
  rw [gset_ne (fun q => by rw [q, hn] at e; cases e)]; exact e'
end
structure AOk (H : Heap) (k : Nat) (hd : Option Value) (fs : List Addr) (env : Env) (base : GH) (A : Around) : Prop where
  depth : A.depth + 4 * k ≤ 900
  units : A.units + 60 * k ≤ 9000
  hdl : A.handled = hd
  up : H.objs.size ≤ env.locals
  ff : ∃ Lf, env.frame = some Lf ∧ (Lf = env.locals ∨ ∃ o, base Lf = some o)
  fr : ∃ fr, A.frames = some fr ∧ fs = fr.filterMap (·.frame) ∧ (∀ e ∈ fr, e.scope.kind = .function ∧ ∃ L, e.frame = some L ∧ (L = env.locals ∨ ∃ o es n, base L = some o ∧ o.data = .dict es n)) ∧
    (env.frame = some env.locals → ∃ outer, fr = env :: outer) ∧ env.scope.kind = .function
structure FOk (k : Nat) (fs : List Addr) (base : GH) (A : Around) : Prop where
  depth : A.depth + 4 * k ≤ 900
  units : A.units + 60 * k ≤ 9000
  hdl : A.handled = none
  fr : ∃ fr, A.frames = some fr ∧ fs = fr.filterMap (·.frame) ∧ ∀ e ∈ fr, e.scope.kind = .function ∧ ∃ L o es n, e.frame = some L ∧ base L = some o ∧ o.data = .dict es n
structure Tp (K : Frag) (H : Heap) : Prop where
  X : K.In H
  g : ∃ mg, H.Ns mainGlobals mg
  b : ∃ mb, H.Ns builtinsNs mb ∧ ∀ x : Str, x ≠ "__name__" → mb x = bootBuiltins x
  nolimit : H.NoLimit
  nodigits : ∃ mc, H.Ns cStatics mc ∧ mc "sys.int_max_str_digits" = none
  last : ∃ a o, H.get? a = some o ∧ H.objs.size = a + 1
  mods : ∃ o, H.get? sysModules = some o
abbrev ExcP := List Addr → GH → GH → LM → Value → Heap → Prop
def noX : ExcP := fun _ _ _ _ _ _ => False
structure tri {α : Type} (w : World) (H : Heap) (O : OsState) (k : Nat) (hd : Option Value) (X : ExcP) (env : Env) (t : Sem α) (g : GH) (m : LM) (Q : α → GH → LM → Prop) : Prop where
  run : ∀ A fs base s, AOk H k hd fs env base A → Rep H O fs base g s → Frm env m base g s.heap →
    wpAny (model P0 w) A t (fun v s' => ∃ g' m', Rep H O fs base g' s' ∧ Frm env m' base g' s'.heap ∧ Q v g' m')
      (fun e s' => ∃ g' m', Rep H O fs base g' s' ∧ Frm env m' base g' s'.heap ∧ X fs base g' m' e s'.heap) s
abbrev nextQ (w : World) (H : Heap) (O : OsState) (k : Nat) (hd : Option Value) (X : ExcP) (env : Env) (rest : List Stmt) (Q : Flow → GH → LM → Prop) : Flow → GH → LM → Prop := fun f g' m' => match f with
  | .next => tri w H O k hd X env (execs rest env) g' m' Q
  | f => Q f g' m'
abbrev bin2Q (w : World) (H : Heap) (O : OsState) (k : Nat) (hd : Option Value) (X : ExcP) (env : Env) (op : Operator) (a : Value) (Q : Value → GH → LM → Prop) : Value → GH → LM → Prop := fun b g₁ m₁ => tri w H O k hd X env (binaryOp op a b) g₁ m₁ (Q)
abbrev bin1Q (w : World) (H : Heap) (O : OsState) (k : Nat) (hd : Option Value) (X : ExcP) (env : Env) (r : Expr) (op : Operator) (Q : Value → GH → LM → Prop) : Value → GH → LM → Prop := fun a g₁ m₁ => tri w H O k hd X env (eval r env) g₁ m₁ (bin2Q w H O k hd X env op a Q)
abbrev cmp2Q (w : World) (H : Heap) (O : OsState) (k : Nat) (hd : Option Value) (X : ExcP) (env : Env) (op : CmpOp) (a : Value) (Q : Value → GH → LM → Prop) : Value → GH → LM → Prop := fun b g₁ m₁ => tri w H O k hd X env (compareOp op a b) g₁ m₁ (Q)
abbrev cmp1Q (w : World) (H : Heap) (O : OsState) (k : Nat) (hd : Option Value) (X : ExcP) (env : Env) (r : Expr) (op : CmpOp) (Q : Value → GH → LM → Prop) : Value → GH → LM → Prop := fun a g₁ m₁ => tri w H O k hd X env (eval r env) g₁ m₁ (cmp2Q w H O k hd X env op a Q)
abbrev truQ (w : World) (H : Heap) (O : OsState) (k : Nat) (hd : Option Value) (X : ExcP) (env : Env)  (Q : Bool → GH → LM → Prop) : Value → GH → LM → Prop := fun c g₁ m₁ => tri w H O k hd X env (truthy c) g₁ m₁ (Q)
abbrev tcm2Q (w : World) (H : Heap) (O : OsState) (k : Nat) (hd : Option Value) (X : ExcP) (env : Env) (op : CmpOp) (a : Value) (Q : Bool → GH → LM → Prop) : Value → GH → LM → Prop := fun b g₁ m₁ => tri w H O k hd X env (compareOp op a b) g₁ m₁ (truQ w H O k hd X env Q)
abbrev tcm1Q (w : World) (H : Heap) (O : OsState) (k : Nat) (hd : Option Value) (X : ExcP) (env : Env) (r : Expr) (op : CmpOp) (Q : Bool → GH → LM → Prop) : Value → GH → LM → Prop := fun a g₁ m₁ => tri w H O k hd X env (eval r env) g₁ m₁ (tcm2Q w H O k hd X env op a Q)
abbrev callQ (w : World) (H : Heap) (O : OsState) (k : Nat) (hd : Option Value) (X : ExcP) (env : Env) (pos : Pos) (es : List Expr) (Q : Value → GH → LM → Prop) : Value → GH → LM → Prop := fun f g₁ m₁ => tri w H O k hd X env (callWith pos f [] (backTo pos (starEach es env)) []) g₁ m₁ (Q)
abbrev consQ (v : Value) (Q : List Value → GH → LM → Prop) : List Value → GH → LM → Prop := fun vs g m => Q (v :: vs) g m
abbrev splQ (w : World) (H : Heap) (O : OsState) (k : Nat) (hd : Option Value) (X : ExcP) (env : Env) (rest : List Expr) (pos : Pos) (Q : List Value → GH → LM → Prop) : Value → GH → LM → Prop := fun v g₁ m₁ => tri w H O k hd X env (spliced (backTo pos (starEach rest env))) g₁ m₁ (consQ v Q)
abbrev cwQ (w : World) (H : Heap) (O : OsState) (k : Nat) (hd : Option Value) (X : ExcP) (env : Env) (f : Value) (first : List Value) (Q : Value → GH → LM → Prop) : List Value → GH → LM → Prop := fun vs g₁ m₁ => tri w H O k hd X env (call f (first ++ vs) []) g₁ m₁ (Q)
abbrev sub2Q (w : World) (H : Heap) (O : OsState) (k : Nat) (hd : Option Value) (X : ExcP) (env : Env) (value slice : Expr) (o : Value) (Q : Value → GH → LM → Prop) : Value → GH → LM → Prop := fun i g₁ m₁ => tri w H O k hd X env (subscriptTail value slice o i) g₁ m₁ (Q)
abbrev sub1Q (w : World) (H : Heap) (O : OsState) (k : Nat) (hd : Option Value) (X : ExcP) (env : Env) (value slice : Expr) (Q : Value → GH → LM → Prop) : Value → GH → LM → Prop := fun o g₁ m₁ => tri w H O k hd X env (eval slice env) g₁ m₁ (sub2Q w H O k hd X env value slice o Q)
abbrev attrQ (w : World) (H : Heap) (O : OsState) (k : Nat) (hd : Option Value) (X : ExcP) (env : Env) (attr : Str) (Q : Value → GH → LM → Prop) : Value → GH → LM → Prop := fun o g₁ m₁ => tri w H O k hd X env (getAttr o attr true) g₁ m₁ (Q)
abbrev nxtQ {α : Type} (Q : Flow → GH → LM → Prop) : α → GH → LM → Prop := fun _ g m => Q .next g m
abbrev retQ (Q : Flow → GH → LM → Prop) : Value → GH → LM → Prop := fun v g m => Q (.ret v) g m
abbrev asnQ (w : World) (H : Heap) (O : OsState) (k : Nat) (hd : Option Value) (X : ExcP) (env : Env) (x : Str) (Q : Flow → GH → LM → Prop) : Value → GH → LM → Prop := fun v g₁ m₁ => tri w H O k hd X env (storeName env x v) g₁ m₁ (nxtQ Q)
section
variable {α β : Type} {w : World} {H : Heap} {O : OsState} {k : Nat} {hd : Option Value} {X : ExcP} {env : Env} {g : GH} {m : LM}
theorem tri_pure {a : α} {Q : α → GH → LM → Prop} (h : Q a g m) : tri w H O k hd X env (pure a) g m Q :=
  .mk fun _ _ _ _ _ R F => wpAny_pure ⟨g, m, R, F, h⟩
theorem tri_bind {t : Sem α} {f : α → Sem β} {Q : β → GH → LM → Prop} (h : tri w H O k hd X env t g m fun a g' m' => tri w H O k hd X env (f a) g' m' Q) : tri w H O k hd X env (t >>= f) g m Q :=
  .mk fun A fs base s a R F => wpAny_bind (wpAny_mono (h.run A fs base s a R F) (fun v s' ⟨g', m', R', F', q⟩ => q.run A fs base s' a R' F') fun _ _ e => e)
theorem tri_mono {t : Sem α} {Q Q' : α → GH → LM → Prop} (h : tri w H O k hd X env t g m Q) (hq : ∀ v g' m', Q v g' m' → Q' v g' m') : tri w H O k hd X env t g m Q' :=
  .mk fun A fs base s a R F => wpAny_mono (h.run A fs base s a R F) (fun v s' ⟨g', m', R', F', q⟩ => ⟨g', m', R', F', hq v g' m' q⟩) fun _ _ e => e
theorem tri_eq {t t' : Sem α} {Q : α → GH → LM → Prop} (e : t = t') (h : tri w H O k hd X env t' g m Q) : tri w H O k hd X env t g m Q := e ▸ h
theorem tri_holding {vs : List Value} {t : Sem α} {Q : α → GH → LM → Prop} (h : tri w H O k hd X env t g m Q) : tri w H O k hd X env (holding vs t) g m Q :=
  .mk fun A fs base s a R F => wpAny_holding (h.run A fs base s a R F)
theorem tri_standAt {pos : Pos} {Q : Unit → GH → LM → Prop} (h : Q () g m) : tri w H O k hd X env (standAt pos) g m Q :=
  .mk fun _ _ _ _ _ R F => wpAny_standAt ⟨g, m, R, F, h⟩
theorem tri_hide {t : Sem α} {P : α → GH → LM → Prop} (h : ∀ Q : α → GH → LM → Prop, (∀ v g' m', P v g' m' → Q v g' m') → tri w H O k hd X env t g m Q) : tri w H O k hd X env t g m P := h P fun _ _ _ q => q
end
end
noncomputable section
section
variable {α β : Type} {w : World} {H : Heap} {O : OsState} {k : Nat} {hd : Option Value} {X : ExcP} {env : Env} {g : GH} {m : LM}
theorem tri_val {t : Sem α} {Q : α → GH → LM → Prop} {v : α} (hs : ∀ A fs base s (P : α → Shared → Prop) (E : Value → Shared → Prop), AOk H k hd fs env base A → Rep H O fs base g s → Frm env m base g s.heap → (∀ tk, P v { s with toks := tk }) → wpAny (model P0 w) A t P E s)
    (h : Q v g m) : tri w H O k hd X env t g m Q :=
  .mk fun A fs base s a R F => hs A fs base s _ _ a R F fun tk => ⟨g, m, R.toks tk, F, h⟩
theorem tri_tok {t : Sem α} {Q : α → GH → LM → Prop} {v : Tok → α} (hs : ∀ A fs base s (P : α → Shared → Prop) (E : Value → Shared → Prop), AOk H k hd fs env base A → Rep H O fs base g s → Frm env m base g s.heap → (∀ n tk, P (v n) { s with toks := tk }) → wpAny (model P0 w) A t P E s)
    (h : ∀ n, Q (v n) g m) : tri w H O k hd X env t g m Q :=
  .mk fun A fs base s a R F => hs A fs base s _ _ a R F fun n tk => ⟨g, m, R.toks tk, F, h n⟩
theorem tri_new {t : Sem α} {Q : α → GH → LM → Prop} {v : Addr → α} {o : Obj} (hs : ∀ A fs base s (P : α → Shared → Prop) (E : Value → Shared → Prop), AOk H k hd fs env base A → Rep H O fs base g s → Frm env m base g s.heap → (∀ a h' tk, s.heap.get? a = none → Grows s.heap h' → h'.get? a = some o → P (v a) { s with heap := h', toks := tk }) → wpAny (model P0 w) A t P E s)
    (h : ∀ a, g a = none → Q (v a) (gset g a o) m) : tri w H O k hd X env t g m Q :=
  .mk fun A fs base s a R F => hs A fs base s _ _ a R F fun a' h' tk hn kk ho => ⟨_, m, R.new hn kk ho tk, F.new hn kk, h a' (R.none_g hn)⟩
theorem tri_upd {t : Sem α} {Q : α → GH → LM → Prop} {v : α} {a : Addr} {o : Obj} {f : Nat → Obj} (hg : g a = some o) (hs : ∀ A fs base s (P : α → Shared → Prop) (E : Value → Shared → Prop), AOk H k hd fs env base A → Rep H O fs base g s → Frm env m base g s.heap → s.heap.get? a = some o →
      (∀ e h' tk, Heap.SameBut a s.heap h' → h'.get? a = some (f e) → P v { s with heap := h', toks := tk }) → wpAny (model P0 w) A t P E s)
    (h : ∀ e, Q v (gset g a (f e)) m) : tri w H O k hd X env t g m Q :=
  .mk fun A fs base s aa R F => hs A fs base s _ _ aa R F (R.kg a o hg) fun e h' tk hsb ho =>
    have hx : ∀ b o, b ≠ a → s.heap.get? b = some o → h'.get? b = some o := fun b o hb q => (hsb.2 b hb).trans q
    ⟨_, m, R.upd hg hx ho tk, F.upd hg hx, h e⟩
theorem t_nil {Q : Flow → GH → LM → Prop} (h : Q .next g m) : tri w H O k hd X env (execs [] env) g m Q := tri_eq (arm_execs_nil env) (tri_pure h)
theorem t_cons {st : Stmt} {rest : List Stmt} {Q : Flow → GH → LM → Prop} (h : tri w H O k hd X env (exec st env) g m (nextQ w H O k hd X env rest Q)) : tri w H O k hd X env (execs (st :: rest) env) g m Q := by
  refine tri_eq (arm_execs_cons st rest env) (tri_bind (tri_mono h fun f g' m' q => ?_))
  cases f <;> first | exact q | exact tri_pure q
theorem t_break {pos : Pos} {Q : Flow → GH → LM → Prop} (h : Q .brk g m) : tri w H O k hd X env (exec (.Break pos) env) g m Q := tri_eq (arm_exec_Break pos env) (tri_bind (tri_standAt (tri_pure h)))
theorem t_cont {pos : Pos} {Q : Flow → GH → LM → Prop} (h : Q .cont g m) : tri w H O k hd X env (exec (.Continue pos) env) g m Q := tri_eq (arm_exec_Continue pos env) (tri_bind (tri_standAt (tri_pure h)))
theorem t_ret {e : Expr} {pos : Pos} {Q : Flow → GH → LM → Prop} (h : tri w H O k hd X env (eval e env) g m (retQ Q)) : tri w H O k hd X env (exec (.Return (some e) pos) env) g m Q :=
  tri_eq (exec_Return_some env e pos) (tri_bind (tri_standAt (tri_bind (tri_mono h fun v g' m' q => tri_pure q))))
theorem t_if {test : Expr} {body orelse : List Stmt} {pos : Pos} {Q : Flow → GH → LM → Prop} (h : tri w H O k hd X env (isTrue test env (eval test env)) g m fun b g' m' => if b = true then tri w H O k hd X env (execs body env) g' m' Q else tri w H O k hd X env (execs orelse env) g' m' Q) : tri w H O k hd X env (exec (.If test body orelse pos) env) g m Q := by
  refine tri_eq (arm_exec_If test body orelse pos env) (tri_bind (tri_standAt (tri_bind (tri_mono h fun b g' m' q => ?_))))
  cases b
  · exact q
  · exact q
theorem t_expr {e : Expr} {pos : Pos} {Q : Flow → GH → LM → Prop} (h : tri w H O k hd X env (eval e env) g m fun _ g' m' => Q .next g' m') (hi : interactive env = false) (hs : swapsWith e none pos.line env = pure false) : tri w H O k hd X env (exec (.Expr e pos) env) g m Q := by
  refine tri_eq (exec_Expr env e pos hi hs) (tri_bind (tri_standAt (tri_bind (tri_mono h fun v g' m' q => ?_))))
  exact .mk fun A fs base s a R F => wpAny_dropValue ⟨g', m', R, F, q⟩
theorem t_store {x : Str} {v : Value} {Q : Unit → GH → LM → Prop} (hk : env.kindOf x = some .local) (h : Q () g (mset m x v)) : tri w H O k hd X env (storeName env x v) g m Q := by
  refine .mk fun A fs base s a R F => ?_
  refine el_eaaaa a.fr fun fr _ _ _ _ hf => ?_
  refine el_eeeaaa F.ns fun o es n h1 h2 h3 h4 => ?_
  refine wpAny_storeName_local hk ⟨o, es, n, h1, h2, h3, fun _ => rfl⟩ (fun h' hn hs => ?_) (by rw [hf]; rfl)
  refine el_eeeaaa hn fun o' es' n' k1 k2 k3 k4 => ?_; clear hn
  have hx : ∀ b o, b ≠ env.locals → s.heap.get? b = some o → h'.get? b = some o := fun b o hb q => (hs.2 b hb).trans q
  refine ⟨g, _, R.priv hx F.lb F.lg _, ⟨⟨o', es', n', k1, k2, k3, fun y hy => ?_⟩, F.lb, F.lg, fun y c e => ?_, F.inj, F.ck, F.own⟩, h⟩
  · rw [k4]; unfold mset; dsimp only; split
    · rfl
    · exact h4 y hy
  · refine el_aa (F.cell y c e) fun yy1 w1 w2 => ?_
    obtain ⟨oc, q, z⟩ := yy1
    have hyx : y ≠ x := fun e' => by
      have := F.ck y c e
      rw [e', hk] at this
      rcases this with t | t <;> cases t
    exact ⟨⟨oc, hx _ _ w2 q, by rw [mset_ne hyx]; exact z⟩, w1, w2⟩
end
end
noncomputable section
def Flight (base g : GH) (cls : Value) (ev : Value) (h : Heap) : Prop :=
  ∃ e oe vs T oT ts, ev = .ref e ∧ base e = none ∧ g e = none ∧ h.get? e = some oe ∧ oe.cls = cls ∧ oe.data = .fields vs ∧ vs[1]? = some (.ref T) ∧ base T = none ∧ g T = none ∧ T ≠ e ∧ h.get? T = some oT ∧ oT.data = .fields ts ∧ 3 < ts.size
def fnS (w : World) (H : Heap) (O : OsState) (k : Nat) (f : Value) (args : Args) (g : GH) (R : Value → GH → Prop) (RX : Value → GH → Prop) : Prop :=
  ∀ A fs base s, FOk k fs base A → Rep H O fs base g s → codeAny (model P0 w) A (.call f args)
    (fun r s' => match r with
      | .ok (.ret v) => ∃ g', Rep H O fs base g' s' ∧ R v g'
      | .ok _ => False
      | .error e => ∃ g' c, Rep H O fs base g' s' ∧ Flight base g' c e s'.heap ∧ RX c g') s
def no2 : Value → GH → Prop := fun _ _ => False
def restG (g : GH) (h : Heap) : GH := fun a => if (g a).isSome then none else h.get? a
def bindM (binds : List (Str × Value)) : LM := fun x => binds.reverse.lookup x
section
variable {w : World} {H : Heap} {O : OsState} {k : Nat} {hd : Option Value} {X : ExcP} {env : Env} {g : GH} {m : LM} {fs : List Addr} {base : GH} {s : Shared} {A : Around}
theorem restG_some {h : Heap} {a : Addr} {o : Obj} (e : h.get? a = some o) (n : g a = none) : restG g h a = some o := by simp [restG, n, e]
theorem of_restG {h : Heap} {a : Addr} {o : Obj} (e : restG g h a = some o) : g a = none ∧ h.get? a = some o := by
  unfold restG at e
  cases q : g a with
  | none => rw [q] at e; exact ⟨rfl, e⟩
  | some x => rw [q] at e; simp at e
theorem Rep.rest (R : Rep H O fs base g s) : Rep H O fs (restG g s.heap) g s :=
  ⟨fun a o e => ⟨restG_some (R.topIn a o e) (R.dj a o (R.top a o e).1), (R.top a o e).2⟩, fun a o e => ⟨o.slots, (of_restG e).2, fun _ => rfl⟩, R.kg, fun a o e => (of_restG e).1, R.gens, R.os⟩
theorem Rep.back {g' : GH} {s' : Shared} {fs' : List Addr} (R : Rep H O fs base g s) (R' : Rep H O fs' (restG g s.heap) g' s') (hf : ∀ a o, s.heap.get? a = some o → a ∉ fs → a ∉ fs') : Rep H O fs base g' s' := by
  refine ⟨R.top, fun a o e => ?_, R'.kg, fun a o e => ?_, R'.gens, R'.os⟩
  · refine el_ea (R.kb a o e) fun sl q z => ?_
    refine el_ea (R'.kb a _ (restG_some q (R.dj a o e))) fun sl' q' z' => ?_
    exact ⟨sl', q', fun n => (z' (hf a _ q n)).trans (z n)⟩
  · refine el_ea (R.kb a o e) fun sl q z => ?_
    exact R'.dj a _ (restG_some q (R.dj a o e))
theorem Frm.back {g' : GH} {s' : Shared} {fs' : List Addr} (F : Frm env m base g s.heap) (R : Rep H O fs base g s) (R' : Rep H O fs' (restG g s.heap) g' s') : Frm env m base g' s'.heap := by
  refine F.mono g' ⟨fun o => match s'.heap.get? env.locals with | some o' => o'.slots | none => #[], fun o e => ?_⟩ (fun c v ⟨o, e, d⟩ n => ?_) fun a o e n => R'.dj a o (restG_some e n)
  · refine el_ea (R'.kb _ _ (restG_some e F.lg)) fun sl q _ => ?_
    rw [q]
  · refine el_ea (R'.kb _ _ (restG_some e n)) fun sl q _ => ?_
    exact ⟨_, q, d⟩
theorem AOk.call (a : AOk H k none fs env base A) (R : Rep H O fs base g s) (F : Frm env m base g s.heap) : FOk k fs (restG g s.heap) A := by
  refine el_eaaa a.fr fun fr h1 h2 h3 _ => ?_
  refine ⟨a.depth, a.units, a.hdl, fr, h1, h2, fun e he => ?_⟩
  refine el_aea (h3 e he) fun hk L hL hb => ?_
  refine ⟨hk, L, ?_⟩
  rcases hb with rfl | ⟨o, es, n, hb, hdd⟩
  · refine el_eeeaa F.ns fun o es n q d _ => ?_
    exact ⟨o, es, n, hL, restG_some q F.lg, d⟩
  · refine el_ea (R.kb L o hb) fun sl q _ => ?_
    exact ⟨_, es, n, hL, restG_some q (R.dj L o hb), hdd⟩
theorem tri_call {f : Value} {args : List Value} {kw : List (Str × Value)} {Rq : Value → GH → Prop} {Q : Value → GH → LM → Prop} (h : fnS w H O k f ⟨args, kw⟩ g Rq no2) (hq : ∀ v g', Rq v g' → Q v g' m) : tri w H O k none X env (call f args kw) g m Q := by
  refine .mk fun A fs base s a R F => ?_
  refine wpAny_call (codeAny_mono (h A fs _ s (a.call R F) R.rest) fun r s' hr => ?_)
  cases r with
  | error e => obtain ⟨_, _, _, _, q⟩ := hr; exact q.elim
  | ok f =>
    cases f with
    | ret v => obtain ⟨g', R', q⟩ := hr; exact ⟨g', m, R.back R' (fun _ _ _ n => n), F.back R R', hq v g' q⟩
    | _ => exact hr
theorem fnS_mono {f : Value} {args : Args} {R R' RX : Value → GH → Prop} (h : fnS w H O k f args g R RX) (hr : ∀ v g', R v g' → R' v g') : fnS w H O k f args g R' RX := fun A fs base s a Rp =>
  codeAny_mono (h A fs base s a Rp) fun r s' q => by
    cases r with
    | error e => exact q
    | ok f => cases f with
      | ret v => obtain ⟨g', R', q⟩ := q; exact ⟨g', R', hr v g' q⟩
      | _ => exact q
theorem FOk.less {k' : Nat} (a : FOk k fs base A) (h : k' ≤ k) : FOk k' fs base A := ⟨by have := a.depth; omega, by have := a.units; omega, a.hdl, a.fr⟩
theorem fnS_more {k' : Nat} {f : Value} {args : Args} {R RX : Value → GH → Prop} (h : fnS w H O k f args g R RX) (hk : k ≤ k') : fnS w H O k' f args g R RX := fun A fs base s a Rp => h A fs base s (a.less hk) Rp
theorem Tp.sz {K : Frag} (T : Tp K H) (R : Rep H O fs base g s) : H.objs.size ≤ s.heap.objs.size := by
  refine el_eea T.last fun a o e q => ?_
  rw [q]
  exact Heap.lt_size (R.topIn a o e)
theorem enter_ok {fd : FuncData} {f : Addr} {cells : List (Str × Addr)} {qual : Str} {h₁ : Heap} {tk : Nat} {env : Env} (he : env = newEnv fd.scope s.heap.objs.size fd.globals cells qual (some f) fd.code none fd.builtins) (hk : fd.scope.kind = .function)
    (a : FOk (k + 1) fs base A) (R : Rep H O fs base g s) (hg : Grows s.heap h₁) (hsz : H.objs.size ≤ s.heap.objs.size) :
    AOk H k none (s.heap.objs.size :: fs) env base (A.deeper env) ∧ Rep H O (s.heap.objs.size :: fs) base g { s with heap := h₁, toks := tk } ∧ base env.locals = none ∧ g env.locals = none ∧
      (∀ g' s', Rep H O (s.heap.objs.size :: fs) base g' s' → Rep H O fs base g' s') := by
  have hn : s.heap.get? s.heap.objs.size = none := by
    cases q : s.heap.get? s.heap.objs.size with
    | none => rfl
    | some o => exact absurd (Heap.lt_size q) (Nat.lt_irrefl _)
  have hb := R.none_base hn
  have hgn := R.none_g hn
  have eL : env.locals = s.heap.objs.size := by rw [he]; rfl
  have eF : env.frame = some s.heap.objs.size := by rw [he]; rfl
  have eK : env.scope.kind = .function := by rw [he]; exact hk
  refine el_eaa a.fr fun fr h1 h2 h3 => ?_
  refine ⟨⟨?_, ?_, a.hdl, eL ▸ hsz, ⟨_, eF, .inl eL.symm⟩, env :: fr, Around.frames_deeper h1, ?_, fun e hm => ?_, fun _ => ⟨fr, rfl⟩, eK⟩, ?_, eL ▸ hb, eL ▸ hgn, fun g' s' R' => ?_⟩
  · have := a.depth; show A.depth + 1 + 4 * k ≤ 900; omega
  · have := a.units; show A.units + 3 + 60 * k ≤ 9000; omega
  · rw [List.filterMap_cons, eF, h2]
  · cases hm with
    | head => exact ⟨eK, _, eF, .inl eL.symm⟩
    | tail _ hm => obtain ⟨x, L, o, es, n, y, z, d⟩ := h3 e hm; exact ⟨x, L, y, .inr ⟨o, es, n, z, d⟩⟩
  · have R1 := R.grow hg tk
    exact ⟨fun b o e => ⟨(R.top b o e).1, fun q => (List.mem_cons.mp q).elim (fun q => by have := (R1.top b o e).1; rw [q, hb] at this; cases this) (R.top b o e).2⟩,
      fun b o e => by obtain ⟨sl, q, z⟩ := R1.kb b o e; exact ⟨sl, q, fun n => z fun q => n (.tail _ q)⟩, R1.kg, R1.dj, R1.gens, R1.os⟩
  · refine ⟨R.top, fun b o e => ?_, R'.kg, R'.dj, R'.gens, R'.os⟩
    refine el_ea (R'.kb b o e) fun sl q z => ?_
    refine ⟨sl, q, fun n => z fun hm => (List.mem_cons.mp hm).elim (fun q => ?_) n⟩
    rw [q, hb] at e; cases e
theorem fn_intro {K : Frag} {f : Addr} {o : Obj} {fd : FuncData} {body : List Stmt} {args : Args} {binds : List (Str × Value)} {R : Value → GH → Prop} (T : Tp K H) (ho : K.lookup f = some o) (hdata : o.data = .func fd) (hcd : codeIn K fd.code fd.qualname = true) (hbody : fd.body = .stmts body)
    (hbind : ∀ s, BindsTo s fd args binds) (hclo : fd.closure = []) (hcell : ∀ x ∈ fd.scope.names, x.2 ≠ .cell) (hloc : ∀ x ∈ binds, fd.scope.names.lookup x.1 = some .local)
    (h : ∀ L, tri w H O k none noX (callEnv fd L f) (execs body (callEnv fd L f)) g (bindM binds) fun fl g' _ => R (match fl with | .ret v => v | _ => .none) g')
    (hco : fd.scope.isCoroutine = false) (hgen : fd.scope.isGenerator = false) (hk : fd.scope.kind = .function) : fnS w H O (k + 1) (.ref f) args g R no2 := by
  intro A fs base s a Rp
  have X := T.X.keeps Rp.topIn
  refine codeAny_call_def (fd := fd) (body := body) (binds := binds) (by have := a.depth; unfold recursionLimit; omega) (X _ _ ho) hdata (T.nolimit.keeps Rp.topIn) (codeRec_of X hcd) hbody (hbind s) hcell hloc (fun h₁ hns hg => ?_) hco hgen hk
  refine el_aaaa (enter_ok (k := k) (tk := s.toks + binds.length) (env := callEnv fd s.heap.objs.size f) (cells := fd.closure) rfl hk a Rp hg (T.sz Rp)) fun a' R' hb hg' back => ?_
  refine wpAny_mono ((h s.heap.objs.size).run _ _ base _ a' R' ?_) (fun fl s' hq => ?_) fun e s' hq => ?_
  · refine el_eeeaaa hns fun o' es n q1 q2 q3 q4 => ?_; clear hns
    refine ⟨⟨o', es, n, q1, q2, q3, fun x _ => q4 x⟩, hb, hg', ?_, ?_, ?_, ?_⟩ <;> · intros; rename_i e; simp [callEnv, newEnv, hclo] at *
  · refine el_eeaa hq fun g' m' R1 _ q => ?_; clear hq
    exact ⟨g', back g' s' R1, q⟩
  · obtain ⟨_, _, _, _, q⟩ := hq; exact q.elim
end
end
noncomputable section
section
variable {α β : Type} {w : World} {H : Heap} {O : OsState} {k : Nat} {hd : Option Value} {X : ExcP} {env : Env} {g : GH} {m : LM} {K : Frag}
theorem t_cellstore {x : Str} {c : Addr} {v : Value} {Q : Unit → GH → LM → Prop} (hk : env.kindOf x = some .cell) (hc : env.cells.lookup x = some c) (hf : env.frame = some env.locals) (h : Q () g (mset m x v)) : tri w H O k hd X env (storeName env x v) g m Q := by
  refine .mk fun A fs base s a R F => ?_
  refine el_eaaaa a.fr fun fr _ _ _ _ hfn => ?_
  refine el_aa (F.cell x c hc) fun hcell hcg hcL => ?_
  have hcb := F.own hf x c hc hk
  refine wpAny_storeName_cell hfn hk hc hcell fun h' hv hs => ?_
  have hx : ∀ b o, b ≠ c → s.heap.get? b = some o → h'.get? b = some o := fun b o hb q => (hs.2 b hb).trans q
  refine el_eeeaaa F.ns fun o es n h1 h2 h3 h4 => ?_
  refine ⟨g, _, R.priv hx hcb hcg s.toks, ⟨⟨o, es, n, hx _ _ (Ne.symm hcL) h1, h2, h3, fun y hy => ?_⟩, F.lb, F.lg, fun y c' e => ?_, F.inj, F.ck, F.own⟩, h⟩
  · have : y ≠ x := fun q => by rw [q, hk] at hy; cases hy
    rw [mset_ne this]; exact h4 y hy
  · by_cases q : y = x
    · subst q; rw [hc] at e; cases e; rw [mset_self]; exact ⟨hv, hcg, hcL⟩
    · refine el_aa (F.cell y c' e) fun yy1 w1 w2 => ?_
      obtain ⟨oc, q1, z⟩ := yy1
      have : c' ≠ c := fun z => q (F.inj y x c' e (z ▸ hc))
      rw [mset_ne q]
      exact ⟨⟨oc, hx _ _ this q1, z⟩, w1, w2⟩
theorem t_bind {x : Str} {v : Value} {Q : Unit → GH → LM → Prop} (h : tri w H O k hd X env (storeName env x v) g m Q) : tri w H O k hd X env (bindName env x v) g m Q := .mk fun A fs base s a R F => wpAny_bindName (h.run A fs base s a R F)
theorem t_loc {x : Str} {pos : Pos} {v : Value} {Q : Value → GH → LM → Prop} (hk : env.kindOf x = some .local) (hv : m x = some v) (h : Q v g m) (hd' : (x == ("__debug__" : Str)) = false) : tri w H O k hd X env (eval (.Name x pos) env) g m Q := by
  refine .mk fun A fs base s a R F => ?_
  refine el_eaaaa a.fr fun fr _ _ _ _ hfn => ?_
  refine el_eeeaaa F.ns fun o es n h1 h2 h3 h4 => ?_
  exact wpAny_Name (wpAny_loadName_local hfn hk ⟨o, es, n, h1, h2, h3, fun _ => rfl⟩ ((h4 x hk).trans hv) ⟨g, m, R, F, h⟩) hd'
theorem t_loadloc {x : Str} {v : Value} {Q : Value → GH → LM → Prop} (hk : env.kindOf x = some .local) (hv : m x = some v) (h : Q v g m) : tri w H O k hd X env (loadName env x) g m Q := by
  refine .mk fun A fs base s a R F => ?_
  refine el_eaaaa a.fr fun fr _ _ _ _ hfn => ?_
  refine el_eeeaaa F.ns fun o es n h1 h2 h3 h4 => ?_
  exact wpAny_loadName_local hfn hk ⟨o, es, n, h1, h2, h3, fun _ => rfl⟩ ((h4 x hk).trans hv) ⟨g, m, R, F, h⟩
theorem t_cel {x : Str} {pos : Pos} {c : Addr} {v : Value} {Q : Value → GH → LM → Prop} (hk : env.kindOf x = some .cell) (hc : env.cells.lookup x = some c) (hv : m x = some v) (h : Q v g m) (hd' : (x == ("__debug__" : Str)) = false) : tri w H O k hd X env (eval (.Name x pos) env) g m Q := by
  refine .mk fun A fs base s a R F => ?_
  refine el_eaaaa a.fr fun fr _ _ _ _ hfn => ?_
  exact wpAny_Name (wpAny_loadName_cell hfn hk hc (hv ▸ (F.cell x c hc).1) ⟨g, m, R, F, h⟩) hd'
theorem t_free {x : Str} {pos : Pos} {c : Addr} {v : Value} {Q : Value → GH → LM → Prop} (hk : env.kindOf x = some .free) (hc : env.cells.lookup x = some c) (hv : m x = some v) (h : Q v g m) (hd' : (x == ("__debug__" : Str)) = false) (hn : (x == ("__classdict__" : Str)) = false) : tri w H O k hd X env (eval (.Name x pos) env) g m Q := by
  refine .mk fun A fs base s a R F => ?_
  refine el_eaaaa a.fr fun fr _ _ _ _ hfn => ?_
  exact wpAny_Name (wpAny_loadName_free hfn hk hc (hv ▸ (F.cell x c hc).1) ⟨g, m, R, F, h⟩ hn) hd'
def GlobIs (K : Frag) (x : Str) (v : Value) : Prop := nsIn K mainGlobals x = some (some v) ∨ (nsIn K mainGlobals x = some none ∧ bootBuiltins x = some v ∧ x ≠ "__name__")
theorem t_glob {x : Str} {pos : Pos} {v : Value} {Q : Value → GH → LM → Prop} (T : Tp K H) (e : GlobIs K x v) (hk : env.kindOf x = some .globalImplicit) (hg : env.globals = mainGlobals) (hb : env.builtins = builtinsNs) (h : Q v g m) (hd' : (x == ("__debug__" : Str)) = false) : tri w H O k hd X env (eval (.Name x pos) env) g m Q := by
  refine .mk fun A fs base s a R F => ?_
  refine el_eaaaa a.fr fun fr _ _ _ _ hfn => ?_
  obtain ⟨mg, hmg⟩ := T.g
  refine el_ea T.b fun mb hmb hbt => ?_
  rcases e with e | ⟨e, e2, e3⟩
  · exact Name_function_global hfn hk (loadGlobal_global (hg ▸ hmg.keeps R.topIn) (mg_of T.X hmg e) ⟨g, m, R, F, h⟩) hd'
  · exact Name_function_global hfn hk (loadGlobal_builtin (hg ▸ hmg.keeps R.topIn) (mg_none_of T.X hmg e) (hb ▸ hmb.keeps R.topIn) ((hbt x e3).trans e2) ⟨g, m, R, F, h⟩) hd'
theorem t_int {i : Int} {j : Nat} {pos : Pos} {Q : Value → GH → LM → Prop} (h : ∀ t, Q (.int i t) g m) : tri w H O k hd X env (eval (.Constant (.int i) j pos) env) g m Q := .mk fun A fs base s a R F => fun _ _ _ => ⟨g, m, R.toks _, F, h _⟩
theorem t_strc {x : Str} {j : Nat} {pos : Pos} {Q : Value → GH → LM → Prop} (h : ∀ t, Q (.str x t) g m) : tri w H O k hd X env (eval (.Constant (.str x) j pos) env) g m Q := .mk fun A fs base s a R F => fun _ _ _ => ⟨g, m, R.toks _, F, h _⟩
theorem t_none {j : Nat} {pos : Pos} {Q : Value → GH → LM → Prop} (h : Q .none g m) : tri w H O k hd X env (eval (.Constant .none j pos) env) g m Q := .mk fun A fs base s a R F => fun _ _ _ => ⟨g, m, R, F, h⟩
theorem t_boolc {b : Bool} {j : Nat} {pos : Pos} {Q : Value → GH → LM → Prop} (h : Q (.bool b) g m) : tri w H O k hd X env (eval (.Constant (.bool b) j pos) env) g m Q := .mk fun A fs base s a R F => fun _ _ _ => ⟨g, m, R, F, h⟩
theorem t_operate {vs : List Value} {t : Sem Value} {Q : Value → GH → LM → Prop} (h : tri w H O k hd X env t g m Q) : tri w H O k hd X env (operate vs t) g m Q := .mk fun A fs base s a R F => wpAny_operate' (h.run A fs base s a R F)
theorem t_release {vs kp : List Value} {Q : Unit → GH → LM → Prop} (h : Q () g m) : tri w H O k hd X env (release vs kp) g m Q := .mk fun A fs base s a R F => wpAny_release' ⟨g, m, R, F, h⟩
theorem t_bin {l r : Expr} {op : Operator} {pos : Pos} {Q : Value → GH → LM → Prop} (h : tri w H O k hd X env (eval l env) g m (bin1Q w H O k hd X env r op Q)) : tri w H O k hd X env (eval (.BinOp l op r pos) env) g m Q :=
  tri_eq (arm_eval_BinOp l op r pos env) (tri_bind (tri_mono h fun a g₁ m₁ q => tri_bind (tri_holding (tri_mono q fun b g₂ m₂ q => tri_bind (tri_standAt (t_operate q))))))
theorem t_un {x : Expr} {op : UnaryOp} {pos : Pos} {Q : Value → GH → LM → Prop} (h : tri w H O k hd X env (eval x env) g m fun a g₁ m₁ => tri w H O k hd X env (unaryOp op a) g₁ m₁ Q) : tri w H O k hd X env (eval (.UnaryOp op x pos) env) g m Q :=
  tri_eq (arm_eval_UnaryOp op x pos env) (tri_bind (tri_mono h fun a g₁ m₁ q => tri_bind (tri_standAt (tri_holding q))))
theorem t_named {x : Str} {px : Pos} {value : Expr} {pos : Pos} {Q : Value → GH → LM → Prop} (h : tri w H O k hd X env (eval value env) g m fun v g₁ m₁ => tri w H O k hd X env (storeName env x v) g₁ m₁ fun _ g₂ m₂ => Q v g₂ m₂) : tri w H O k hd X env (eval (.NamedExpr (.Name x px) value pos) env) g m Q :=
  tri_eq (arm_eval_NamedExpr _ value pos env) (tri_bind (tri_mono h fun v g₁ m₁ q => tri_bind (tri_holding (tri_eq (arm_assign_Name x px env v) (tri_bind (tri_standAt (t_bind (tri_mono q fun _ g₂ m₂ q => tri_pure q))))))))
theorem t_ifexp {test body orelse : Expr} {pos : Pos} {Q : Value → GH → LM → Prop} (h : tri w H O k hd X env (isTrue test env (eval test env)) g m fun b g' m' => if b = true then tri w H O k hd X env (eval body env) g' m' Q else tri w H O k hd X env (eval orelse env) g' m' Q) : tri w H O k hd X env (eval (.IfExp test body orelse pos) env) g m Q := by
  refine tri_eq (arm_eval_IfExp test body orelse pos env) (tri_bind (tri_mono h fun b g' m' q => ?_))
  cases b
  · exact q
  · exact q
theorem t_cmp {l r : Expr} {op : CmpOp} {pos : Pos} {Q : Value → GH → LM → Prop} (hm : behindInMarks op r = false) (h : tri w H O k hd X env (eval l env) g m (cmp1Q w H O k hd X env r op Q)) : tri w H O k hd X env (eval (.Compare l [op] [r] pos) env) g m Q :=
  tri_eq (eval_Compare1 env l op r pos) (tri_bind (tri_mono h fun a g₁ m₁ q => tri_bind (tri_holding (tri_eq (markedBehindIn_of_false hm) (tri_mono q fun b g₂ m₂ q => tri_bind (tri_standAt (t_operate q)))))))
theorem t_tcmp {l r : Expr} {op : CmpOp} {pos : Pos} {wh : Sem Value} {Q : Bool → GH → LM → Prop} (hm : behindInMarks op r = false) (h : tri w H O k hd X env (eval l env) g m (tcm1Q w H O k hd X env r op Q)) : tri w H O k hd X env (isTrue (.Compare l [op] [r] pos) env wh) g m Q :=
  tri_eq (isTrue_Compare1 env l op r pos wh) (tri_bind (tri_mono h fun a g₁ m₁ q => tri_bind (tri_holding (tri_eq (markedBehindIn_of_false hm) (tri_mono q fun b g₂ m₂ q => tri_bind (tri_standAt (tri_bind (t_operate (tri_mono q fun c g₃ m₃ q => tri_holding q)))))))))
theorem t_tboolop {op : BoolOp} {vs : List Expr} {pos : Pos} {wh : Sem Value} {Q : Bool → GH → LM → Prop} (h : tri w H O k hd X env (allTrue op vs env) g m Q) : tri w H O k hd X env (isTrue (.BoolOp op vs pos) env wh) g m Q := tri_eq (arm_isTrue_BoolOp op vs pos env wh) h
theorem t_and_cons {x : Expr} {rest : List Expr} {Q : Bool → GH → LM → Prop} (h : tri w H O k hd X env (isTrue x env (eval x env)) g m fun b g₁ m₁ => if b = true then tri w H O k hd X env (allTrue .And rest env) g₁ m₁ Q else Q false g₁ m₁) : tri w H O k hd X env (allTrue .And (x :: rest) env) g m Q := by
  refine tri_eq (arm_allTrue_cons .And x rest env) (tri_bind (tri_mono h fun b g₁ m₁ q => ?_))
  cases b
  · exact tri_pure q
  · exact q
theorem t_and_nil {Q : Bool → GH → LM → Prop} (h : Q true g m) : tri w H O k hd X env (allTrue .And [] env) g m Q := tri_eq (arm_allTrue_nil .And env) (tri_pure h)
theorem t_test {e : Expr} {Q : Bool → GH → LM → Prop} (he : isTrue e env (eval e env) = (do let v ← eval e env; standAt e.pos; holding [v] (truthy v))) (h : tri w H O k hd X env (eval e env) g m fun v g₁ m₁ => tri w H O k hd X env (truthy v) g₁ m₁ Q) : tri w H O k hd X env (isTrue e env (eval e env)) g m Q :=
  tri_eq he (tri_bind (tri_mono h fun v g₁ m₁ q => tri_bind (tri_standAt (tri_holding q))))
theorem t_add {a b : Int} {t u : Tok} {Q : Value → GH → LM → Prop} (h : ∀ n, Q (.int (a + b) n) g m) : tri w H O k hd X env (binaryOp .Add (.int a t) (.int b u)) g m Q := tri_tok (fun _ _ _ _ _ _ _ _ _ q => PyProof.Rows.add_int (q _ _)) h
theorem t_sub {a b : Int} {t u : Tok} {Q : Value → GH → LM → Prop} (h : ∀ n, Q (.int (a - b) n) g m) : tri w H O k hd X env (binaryOp .Sub (.int a t) (.int b u)) g m Q := tri_tok (fun _ _ _ _ _ _ _ _ _ q => PyProof.Rows.sub_int (q _ _)) h
theorem t_iadd {a b : Int} {t u : Tok} {Q : Value → GH → LM → Prop} (h : ∀ n, Q (.int (a + b) n) g m) : tri w H O k hd X env (inplaceOp .Add (.int a t) (.int b u)) g m Q := tri_tok (fun _ _ _ _ _ _ _ _ _ q => PyProof.Rows.iadd_int (q _ _)) h
theorem t_isub {a b : Int} {t u : Tok} {Q : Value → GH → LM → Prop} (h : ∀ n, Q (.int (a - b) n) g m) : tri w H O k hd X env (inplaceOp .Sub (.int a t) (.int b u)) g m Q := tri_tok (fun _ _ _ _ _ _ _ _ _ q => PyProof.Rows.isub_int (q _ _)) h
theorem t_mul {a b : Int} {t u : Tok} {Q : Value → GH → LM → Prop} (hm : IntMulOk a b) (h : ∀ n, Q (.int (a * b) n) g m) : tri w H O k hd X env (binaryOp .Mult (.int a t) (.int b u)) g m Q := tri_tok (fun _ _ _ _ _ _ _ _ _ q => PyProof.Rows.mul_int (q _ _) hm) h
theorem t_mod {a b : Int} {t u : Tok} {Q : Value → GH → LM → Prop} (hb : b ≠ 0) (h : ∀ n, Q (.int (a.fmod b) n) g m) : tri w H O k hd X env (binaryOp .Mod (.int a t) (.int b u)) g m Q := tri_tok (fun _ _ _ _ _ _ _ _ _ q => PyProof.Rows.mod_int hb (q _ _)) h
theorem t_div {a b : Int} {t u : Tok} {Q : Value → GH → LM → Prop} (hb : b ≠ 0) (hp : Builtin.divisionGoesByPylong a b = false) (h : ∀ n, Q (.int (a.fdiv b) n) g m) : tri w H O k hd X env (binaryOp .FloorDiv (.int a t) (.int b u)) g m Q := tri_tok (fun _ _ _ _ _ _ _ _ _ q => PyProof.Rows.floordiv_int hb (q _ _) (.inl hp)) h
theorem t_band {a b : Int} {t u : Tok} {Q : Value → GH → LM → Prop} (h : ∀ n, Q (.int (Builtin.bitAnd a b) n) g m) : tri w H O k hd X env (binaryOp .BitAnd (.int a t) (.int b u)) g m Q := tri_tok (fun _ _ _ _ _ _ _ _ _ q => PyProof.Rows.and_int (q _ _)) h
theorem t_shr {a b : Int} {t u : Tok} {Q : Value → GH → LM → Prop} (hb : 0 ≤ b) (h : ∀ n, Q (.int (a.fdiv (2 ^ b.toNat)) n) g m) : tri w H O k hd X env (binaryOp .RShift (.int a t) (.int b u)) g m Q := tri_tok (fun _ _ _ _ _ _ _ _ _ q => PyProof.Rows.rshift_int hb (q _ _)) h
theorem t_pow {a b : Int} {t u : Tok} {Q : Value → GH → LM → Prop} (hb : 0 ≤ b) (hb2 : b ≤ 1000000) (ha : a.natAbs < 2 ^ 64) (h : ∀ n, Q (.int (a ^ b.toNat) n) g m) : tri w H O k hd X env (binaryOp .Pow (.int a t) (.int b u)) g m Q := tri_tok (fun _ _ _ _ _ _ _ _ _ q => PyProof.Rows.pow_int_small hb hb2 ha (q _ _)) h
theorem t_neg {a : Int} {t : Tok} {Q : Value → GH → LM → Prop} (h : ∀ n, Q (.int (-a) n) g m) : tri w H O k hd X env (unaryOp .USub (.int a t)) g m Q := tri_tok (fun _ _ _ _ _ _ _ _ _ q => PyProof.Rows.neg_int (q _ _)) h
theorem t_eqi {a b : Int} {t u : Tok} {Q : Value → GH → LM → Prop} (h : Q (.bool (a == b)) g m) : tri w H O k hd X env (compareOp .Eq (.int a t) (.int b u)) g m Q := tri_val (fun _ _ _ s _ _ _ _ _ q => wpAny_eq_int (q s.toks)) h
theorem t_nei {a b : Int} {t u : Tok} {Q : Value → GH → LM → Prop} (h : Q (.bool (a != b)) g m) : tri w H O k hd X env (compareOp .NotEq (.int a t) (.int b u)) g m Q := tri_val (fun _ _ _ s _ _ _ _ _ q => PyProof.Rows.ne_int (q s.toks)) h
theorem t_lti {a b : Int} {t u : Tok} {Q : Value → GH → LM → Prop} (h : Q (.bool (decide (a < b))) g m) : tri w H O k hd X env (compareOp .Lt (.int a t) (.int b u)) g m Q := tri_val (fun _ _ _ s _ _ _ _ _ q => wpAny_lt_int (q s.toks)) h
theorem t_lei {a b : Int} {t u : Tok} {Q : Value → GH → LM → Prop} (h : Q (.bool (decide (a ≤ b))) g m) : tri w H O k hd X env (compareOp .LtE (.int a t) (.int b u)) g m Q := tri_val (fun _ _ _ s _ _ _ _ _ q => PyProof.Rows.le_int (q s.toks)) h
theorem t_gei {a b : Int} {t u : Tok} {Q : Value → GH → LM → Prop} (h : Q (.bool (decide (b ≤ a))) g m) : tri w H O k hd X env (compareOp .GtE (.int a t) (.int b u)) g m Q := tri_val (fun _ _ _ s _ _ _ _ _ q => PyProof.Rows.ge_int (q s.toks)) h
theorem t_gti {a b : Int} {t u : Tok} {Q : Value → GH → LM → Prop} (h : Q (.bool (decide (b < a))) g m) : tri w H O k hd X env (compareOp .Gt (.int a t) (.int b u)) g m Q := tri_val (fun _ _ _ s _ _ _ _ _ q => PyProof.Rows.gt_int (q s.toks)) h
theorem t_is_none {v : Value} {Q : Value → GH → LM → Prop} (h : Q (.bool (v == .none)) g m) : tri w H O k hd X env (compareOp .Is v .none) g m Q := tri_val (fun _ _ _ s _ _ _ _ _ q => is_none_gen (q s.toks)) h
theorem t_isnot_none {v : Value} {Q : Value → GH → LM → Prop} (h : Q (.bool (!(v == .none))) g m) : tri w H O k hd X env (compareOp .IsNot v .none) g m Q := tri_val (fun _ _ _ s _ _ _ _ _ q => isnot_none_gen (q s.toks)) h
theorem t_tbool {b : Bool} {Q : Bool → GH → LM → Prop} (h : Q b g m) : tri w H O k hd X env (truthy (.bool b)) g m Q := tri_val (fun _ _ _ s _ _ _ _ _ q => (fun _ _ _ => q s.toks)) h
theorem t_tnone {Q : Bool → GH → LM → Prop} (h : Q false g m) : tri w H O k hd X env (truthy .none) g m Q := tri_val (fun _ _ _ s _ _ _ _ _ q => truthy_none (q s.toks)) h
theorem t_assignN {x : Str} {px pos : Pos} {value : Expr} {Q : Flow → GH → LM → Prop} (hs : swapsWith value (some (.Name x px)) pos.line env = pure false) (h : tri w H O k hd X env (eval value env) g m (asnQ w H O k hd X env x Q)) : tri w H O k hd X env (exec (.Assign [.Name x px] value pos) env) g m Q :=
  tri_eq (exec_Assign_Name env x px value pos hs) (tri_bind (tri_standAt (tri_bind (tri_mono h fun v g₁ m₁ q => tri_bind (tri_standAt (tri_bind (t_bind (tri_mono q fun _ g₂ m₂ q => tri_pure q))))))))
theorem t_assign {targets : List Expr} {value : Expr} {pos : Pos} {Q : Flow → GH → LM → Prop} (hs : swapsWithSole targets value pos.line env = pure false) (hw : swappedStores targets value env = pure none)
    (h : tri w H O k hd X env (eval value env) g m fun v g₁ m₁ => tri w H O k hd X env (assignAll v ((assignEach targets env).map (·.2))) g₁ m₁ fun _ g₂ m₂ => Q .next g₂ m₂) : tri w H O k hd X env (exec (.Assign targets value pos) env) g m Q := by
  refine tri_eq (arm_exec_Assign targets value pos env) (tri_bind (tri_standAt (tri_bind ?_)))
  rw [hs]
  refine tri_pure ?_
  simp only [Bool.false_eq_true, if_false]
  refine tri_bind (tri_mono h fun v g₁ m₁ q => tri_bind ?_)
  rw [hw]
  exact tri_pure (tri_bind (tri_mono q fun _ g₂ m₂ q => tri_pure q))
theorem t_asgA {o : Expr} {attr : Str} {pos : Pos} {v : Value} {Q : Unit → GH → LM → Prop} (h : tri w H O k hd X env (eval o env) g m fun ov g₁ m₁ => tri w H O k hd X env (setAttr ov attr v) g₁ m₁ Q) : tri w H O k hd X env (assign (.Attribute o attr pos) env v) g m Q :=
  tri_eq (arm_assign_Attribute o attr pos env v) (tri_bind (tri_holding (tri_mono h fun ov g₁ m₁ q => tri_bind (tri_standAt (tri_bind (tri_holding (tri_mono q fun _ g₂ m₂ q => t_release q)))))))
theorem t_asgS {o i : Expr} {pos : Pos} {v : Value} {Q : Unit → GH → LM → Prop} (h : tri w H O k hd X env (eval o env) g m fun ov g₁ m₁ => tri w H O k hd X env (eval i env) g₁ m₁ fun iv g₂ m₂ => tri w H O k hd X env (setItem ov iv v) g₂ m₂ Q) : tri w H O k hd X env (assign (.Subscript o i pos) env v) g m Q :=
  tri_eq (arm_assign_Subscript o i pos env v) (tri_bind (tri_holding (tri_mono h fun ov g₁ m₁ q => tri_bind (tri_holding (tri_mono q fun iv g₂ m₂ q => tri_bind (tri_standAt (tri_bind (tri_holding (tri_mono q fun _ g₃ m₃ q => t_release q)))))))))
theorem t_asgN {x : Str} {pos : Pos} {v : Value} {Q : Unit → GH → LM → Prop} (h : tri w H O k hd X env (storeName env x v) g m Q) : tri w H O k hd X env (assign (.Name x pos) env v) g m Q :=
  tri_eq (arm_assign_Name x pos env v) (tri_bind (tri_standAt (t_bind h)))
theorem t_all1 {v : Value} {t : Value → Sem Unit} {Q : Unit → GH → LM → Prop} (h : tri w H O k hd X env (t v) g m Q) : tri w H O k hd X env (assignAll v [t]) g m Q := h
theorem t_all2 {v : Value} {t t' : Value → Sem Unit} {r : List (Value → Sem Unit)} {Q : Unit → GH → LM → Prop} (h : tri w H O k hd X env (t v) g m fun _ g₁ m₁ => tri w H O k hd X env (assignAll v (t' :: r)) g₁ m₁ Q) : tri w H O k hd X env (assignAll v (t :: t' :: r)) g m Q := tri_bind (tri_holding h)
theorem t_augN {x : Str} {px pos : Pos} {op : Operator} {value : Expr} {Q : Flow → GH → LM → Prop} (h : tri w H O k hd X env (loadName env x) g m fun old g₁ m₁ => tri w H O k hd X env (eval value env) g₁ m₁ fun v g₂ m₂ => tri w H O k hd X env (inplaceOp op old v) g₂ m₂ fun new g₃ m₃ => tri w H O k hd X env (storeName env x new) g₃ m₃ fun _ g₄ m₄ => Q .next g₄ m₄) : tri w H O k hd X env (exec (.AugAssign (.Name x px) op value pos) env) g m Q :=
  tri_eq (exec_AugAssign_Name env x px op value pos) (tri_bind (tri_standAt (tri_bind (tri_mono h fun old g₁ m₁ q => tri_bind (tri_holding (tri_mono q fun v g₂ m₂ q => tri_bind (tri_standAt (tri_bind (t_operate (tri_mono q fun new g₃ m₃ q => tri_bind (tri_standAt (tri_bind (t_bind (tri_mono q fun _ g₄ m₄ q => tri_pure q))))))))))))))
theorem t_augA {o : Expr} {attr : Str} {tp pos : Pos} {op : Operator} {value : Expr} {Q : Flow → GH → LM → Prop} (h : tri w H O k hd X env (eval o env) g m fun ov g₁ m₁ => tri w H O k hd X env (getAttr ov attr true) g₁ m₁ fun old g₂ m₂ => tri w H O k hd X env (eval value env) g₂ m₂ fun v g₃ m₃ => tri w H O k hd X env (inplaceOp op old v) g₃ m₃ fun new g₄ m₄ => tri w H O k hd X env (setAttr ov attr new) g₄ m₄ fun _ g₅ m₅ => Q .next g₅ m₅) : tri w H O k hd X env (exec (.AugAssign (.Attribute o attr tp) op value pos) env) g m Q :=
  tri_eq (arm_exec_AugAssign_2 o attr tp op value pos env) (tri_bind (tri_standAt (tri_bind (tri_mono h fun ov g₁ m₁ q => tri_bind (tri_holding (tri_bind (tri_standAt (tri_bind (tri_mono q fun old g₂ m₂ q => tri_bind (tri_holding (tri_mono q fun v g₃ m₃ q => tri_bind (tri_standAt (t_operate (tri_mono q fun new g₄ m₄ q => tri_bind (tri_standAt (tri_bind (tri_holding (tri_mono q fun _ g₅ m₅ q => tri_bind (t_release (tri_pure q))))))))))))))))))))
end
end
noncomputable section
noncomputable def noSt : Stmt := .Pass default
noncomputable def sAt (i : Nat) : Stmt := (P0.main.body[i]?).getD noSt
noncomputable def cBody : Stmt → List Stmt
  | .ClassDef _ _ _ b _ _ _ _ _ _ _ => b
  | _ => []
noncomputable def mAt (i j : Nat) : Stmt := ((cBody (sAt i))[j]?).getD noSt
noncomputable def fBody : Stmt → List Stmt
  | .FunctionDef _ _ b _ _ _ _ _ _ _ => b
  | _ => []
noncomputable def fArgs : Stmt → Arguments
  | .FunctionDef _ a _ _ _ _ _ _ _ _ => a
  | _ => ⟨[], [], none, [], [], none, []⟩
noncomputable def fScope : Stmt → Scope
  | .FunctionDef _ _ _ _ _ _ s _ _ _ => s
  | _ => default
noncomputable def o3 (P : Params) : Obj := { cls := .type "dict", data := .dict #[⟨PyData.keyHash P (Str.ofString "__name__"), .str (Str.ofString "__name__") 165, .str (Str.ofString "law_mq0377_01") 475⟩, ⟨PyData.keyHash P (Str.ofString "__doc__"), .str (Str.ofString "__doc__") 166, .none⟩, ⟨PyData.keyHash P (Str.ofString "__package__"), .str (Str.ofString "__package__") 167, .none⟩, ⟨PyData.keyHash P (Str.ofString "__loader__"), .str (Str.ofString "__loader__") 168, .builtin "__main__.__loader__#opaque"⟩, ⟨PyData.keyHash P (Str.ofString "__spec__"), .str (Str.ofString "__spec__") 169, .none⟩, ⟨PyData.keyHash P (Str.ofString "__annotations__"), .str (Str.ofString "__annotations__") 170, .ref 6⟩, ⟨PyData.keyHash P (Str.ofString "__builtins__"), .str (Str.ofString "__builtins__") 171, .ref 4⟩, ⟨PyData.keyHash P (Str.ofString "__file__"), .str (Str.ofString "__file__") 173, .str (Str.ofString "/claim/cut.py") 172⟩, ⟨PyData.keyHash P (Str.ofString "__cached__"), .str (Str.ofString "__cached__") 174, .none⟩, ⟨PyData.keyHash P (Str.ofString "_wall"), .str (Str.ofString "_wall") 193, .ref 21⟩, ⟨PyData.keyHash P (Str.ofString "_NODE_OUT"), .str (Str.ofString "_NODE_OUT") 198, .int (-1) 197⟩, ⟨PyData.keyHash P (Str.ofString "_NODE_DONE"), .str (Str.ofString "_NODE_DONE") 201, .int (-2) 200⟩, ⟨PyData.keyHash P (Str.ofString "_NodeInfo"), .str (Str.ofString "_NodeInfo") 238, .ref 40⟩, ⟨PyData.keyHash P (Str.ofString "CycleError"), .str (Str.ofString "CycleError") 256, .ref 55⟩, ⟨PyData.keyHash P (Str.ofString "TopologicalSorter"), .str (Str.ofString "TopologicalSorter") 375, .ref 137⟩, ⟨PyData.keyHash P (Str.ofString "S_IMODE"), .str (Str.ofString "S_IMODE") 384, .ref 148⟩, ⟨PyData.keyHash P (Str.ofString "S_IFMT"), .str (Str.ofString "S_IFMT") 391, .ref 155⟩, ⟨PyData.keyHash P (Str.ofString "S_IFDIR"), .str (Str.ofString "S_IFDIR") 393, .int (16384) 392⟩, ⟨PyData.keyHash P (Str.ofString "S_IFCHR"), .str (Str.ofString "S_IFCHR") 395, .int (8192) 394⟩, ⟨PyData.keyHash P (Str.ofString "S_IFBLK"), .str (Str.ofString "S_IFBLK") 397, .int (24576) 396⟩, ⟨PyData.keyHash P (Str.ofString "S_IFREG"), .str (Str.ofString "S_IFREG") 399, .int (32768) 398⟩, ⟨PyData.keyHash P (Str.ofString "S_IFIFO"), .str (Str.ofString "S_IFIFO") 401, .int (4096) 400⟩, ⟨PyData.keyHash P (Str.ofString "S_IFLNK"), .str (Str.ofString "S_IFLNK") 403, .int (40960) 402⟩, ⟨PyData.keyHash P (Str.ofString "S_IFSOCK"), .str (Str.ofString "S_IFSOCK") 405, .int (49152) 404⟩, ⟨PyData.keyHash P (Str.ofString "S_ISLNK"), .str (Str.ofString "S_ISLNK") 412, .ref 162⟩, ⟨PyData.keyHash P (Str.ofString "S_ISUID"), .str (Str.ofString "S_ISUID") 414, .int (2048) 413⟩, ⟨PyData.keyHash P (Str.ofString "S_ISGID"), .str (Str.ofString "S_ISGID") 416, .int (1024) 415⟩, ⟨PyData.keyHash P (Str.ofString "S_ISVTX"), .str (Str.ofString "S_ISVTX") 418, .int (512) 417⟩, ⟨PyData.keyHash P (Str.ofString "S_IRUSR"), .str (Str.ofString "S_IRUSR") 420, .int (256) 419⟩, ⟨PyData.keyHash P (Str.ofString "S_IWUSR"), .str (Str.ofString "S_IWUSR") 422, .int (128) 421⟩, ⟨PyData.keyHash P (Str.ofString "S_IXUSR"), .str (Str.ofString "S_IXUSR") 424, .int (64) 423⟩, ⟨PyData.keyHash P (Str.ofString "S_IRGRP"), .str (Str.ofString "S_IRGRP") 426, .int (32) 425⟩, ⟨PyData.keyHash P (Str.ofString "S_IWGRP"), .str (Str.ofString "S_IWGRP") 428, .int (16) 427⟩, ⟨PyData.keyHash P (Str.ofString "S_IXGRP"), .str (Str.ofString "S_IXGRP") 430, .int (8) 429⟩, ⟨PyData.keyHash P (Str.ofString "S_IROTH"), .str (Str.ofString "S_IROTH") 432, .int (4) 431⟩, ⟨PyData.keyHash P (Str.ofString "S_IWOTH"), .str (Str.ofString "S_IWOTH") 434, .int (2) 433⟩, ⟨PyData.keyHash P (Str.ofString "S_IXOTH"), .str (Str.ofString "S_IXOTH") 436, .int (1) 435⟩, ⟨PyData.keyHash P (Str.ofString "_filemode_table"), .str (Str.ofString "_filemode_table") 462, .ref 195⟩, ⟨PyData.keyHash P (Str.ofString "filemode"), .str (Str.ofString "filemode") 474, .ref 202⟩, ⟨PyData.keyHash P (Str.ofString "_law_words"), .str (Str.ofString "_law_words") 482, .ref 207⟩, ⟨PyData.keyHash P (Str.ofString "_law_read"), .str (Str.ofString "_law_read") 493, .ref 214⟩, ⟨PyData.keyHash P (Str.ofString "_law_refused"), .str (Str.ofString "_law_refused") 501, .ref 221⟩, ⟨PyData.keyHash P (Str.ofString "_law_chase"), .str (Str.ofString "_law_chase") 507, .ref 226⟩, ⟨PyData.keyHash P (Str.ofString "_law_follow"), .str (Str.ofString "_law_follow") 518, .ref 233⟩, ⟨PyData.keyHash P (Str.ofString "_law_told"), .str (Str.ofString "_law_told") 524, .ref 238⟩, ⟨PyData.keyHash P (Str.ofString "law"), .str (Str.ofString "law") 530, .ref 243⟩] 46 : Obj }
noncomputable def o35 (P : Params) : Obj := { cls := .type "code", data := .fields #[.str (Str.ofString "__init__") 218, .str (Str.ofString "_NodeInfo.__init__") 219, .str (Str.ofString "/claim/cut.py") 220, .int (10) 0, .int (2) 0, .int (0) 0, .int (0) 0, .int (3) 0, .ref 30, .bool true, .int (181) 0, .ref 31, .none, .ref 32, .ref 33, .ref 34, .int (223) 0, .int (10) 0, .str (Str.ofString "/claim/cut.py") 224] : Obj }
noncomputable def fd36 : FuncData := { name := Str.ofString "__init__", qualname := Str.ofString "_NodeInfo.__init__", params := fArgs (mAt 4 1), body := .stmts (fBody (mAt 4 1)), scope := fScope (mAt 4 1), globals := 3, closure := [], defaults := .none, kwdefaults := .none, doc := .none, pyModule := .str (Str.ofString "cpy313.graphlib") 194, annotations := none, code := .ref 35, closureTuple := .none, builtins := 0 }
noncomputable def o36 (P : Params) : Obj := { cls := .type "function", data := .func fd36 : Obj }
noncomputable def o39 (P : Params) : Obj := { cls := .type "dict", data := .dict #[⟨PyData.keyHash P (Str.ofString "__module__"), .str (Str.ofString "__module__") 209, .str (Str.ofString "cpy313.graphlib") 194⟩, ⟨PyData.keyHash P (Str.ofString "__firstlineno__"), .str (Str.ofString "__firstlineno__") 213, .int (7) 212⟩, ⟨PyData.keyHash P (Str.ofString "__slots__"), .str (Str.ofString "__slots__") 217, .ref 29⟩, ⟨PyData.keyHash P (Str.ofString "__init__"), .str (Str.ofString "__init__") 225, .ref 36⟩, ⟨PyData.keyHash P (Str.ofString "__static_attributes__"), .str (Str.ofString "__static_attributes__") 229, .ref 37⟩, ⟨PyData.keyHash P (Str.ofString "node"), .str (Str.ofString "node") 231, .ref 41⟩, ⟨PyData.keyHash P (Str.ofString "npredecessors"), .str (Str.ofString "npredecessors") 233, .ref 42⟩, ⟨PyData.keyHash P (Str.ofString "successors"), .str (Str.ofString "successors") 235, .ref 43⟩, ⟨PyData.keyHash P (Str.ofString "__doc__"), .str (Str.ofString "__doc__") 236, .none⟩] 5 : Obj }
noncomputable def o40 (P : Params) : Obj := { cls := .type "type", data := .cls { name := Str.ofString "_NodeInfo", bases := [.type "object"], mro := [.ref 40, .type "object"], ns := 39, qualname := Str.ofString "_NodeInfo", hasDict := false, slotNames := [Str.ofString "node", Str.ofString "npredecessors", Str.ofString "successors"], subclasses := [], abstract := false, collection := none, hasDel := false }, slots := #[none, none, some (.str (Str.ofString "_NodeInfo") 202), some (.str (Str.ofString "_NodeInfo") 210), some (.builtin "object.__new__"), some (.bool false)] : Obj }
noncomputable def o41 (P : Params) : Obj := { cls := .type "member_descriptor", data := .fields #[.str (Str.ofString "node") 230, .ref 40, .builtin "proto.slot", .builtin "proto.slot#set", .int (2) 0] : Obj }
noncomputable def o42 (P : Params) : Obj := { cls := .type "member_descriptor", data := .fields #[.str (Str.ofString "npredecessors") 232, .ref 40, .builtin "proto.slot", .builtin "proto.slot#set", .int (1) 0] : Obj }
noncomputable def o43 (P : Params) : Obj := { cls := .type "member_descriptor", data := .fields #[.str (Str.ofString "successors") 234, .ref 40, .builtin "proto.slot", .builtin "proto.slot#set", .int (0) 0] : Obj }
noncomputable def o54 (P : Params) : Obj := { cls := .type "dict", data := .dict #[⟨PyData.keyHash P (Str.ofString "__module__"), .str (Str.ofString "__module__") 246, .str (Str.ofString "cpy313.graphlib") 194⟩, ⟨PyData.keyHash P (Str.ofString "__firstlineno__"), .str (Str.ofString "__firstlineno__") 250, .int (14) 249⟩, ⟨PyData.keyHash P (Str.ofString "__static_attributes__"), .str (Str.ofString "__static_attributes__") 251, .ref 53⟩, ⟨PyData.keyHash P (Str.ofString "__weakref__"), .str (Str.ofString "__weakref__") 253, .ref 56⟩, ⟨PyData.keyHash P (Str.ofString "__doc__"), .str (Str.ofString "__doc__") 254, .none⟩] 3 : Obj }
noncomputable def o55 (P : Params) : Obj := { cls := .type "type", data := .cls { name := Str.ofString "CycleError", bases := [.type "ValueError"], mro := [.ref 55, .type "ValueError", .type "Exception", .type "BaseException", .type "object"], ns := 54, qualname := Str.ofString "CycleError", hasDict := true, slotNames := [], subclasses := [], abstract := false, collection := none, hasDel := false }, slots := #[some (.ref 46), none, some (.str (Str.ofString "CycleError") 239), some (.str (Str.ofString "CycleError") 247), some (.builtin "ValueError.__new__"), some (.bool true)] : Obj }
noncomputable def o66 (P : Params) : Obj := { cls := .type "tuple", data := .seq #[.none] 0 : Obj }
noncomputable def o72 (P : Params) : Obj := { cls := .type "code", data := .fields #[.str (Str.ofString "__init__") 269, .str (Str.ofString "TopologicalSorter.__init__") 270, .str (Str.ofString "/claim/cut.py") 271, .int (18) 0, .int (2) 0, .int (0) 0, .int (0) 0, .int (3) 0, .ref 67, .bool true, .int (181) 0, .ref 68, .none, .ref 69, .ref 70, .ref 71, .int (276) 0, .int (18) 0, .str (Str.ofString "/claim/cut.py") 277] : Obj }
noncomputable def fd73 : FuncData := { name := Str.ofString "__init__", qualname := Str.ofString "TopologicalSorter.__init__", params := fArgs (mAt 6 0), body := .stmts (fBody (mAt 6 0)), scope := fScope (mAt 6 0), globals := 3, closure := [], defaults := .ref 66, kwdefaults := .none, doc := .none, pyModule := .str (Str.ofString "cpy313.graphlib") 194, annotations := none, code := .ref 72, closureTuple := .none, builtins := 0 }
noncomputable def o73 (P : Params) : Obj := { cls := .type "function", data := .func fd73 : Obj }
noncomputable def o79 (P : Params) : Obj := { cls := .type "code", data := .fields #[.str (Str.ofString "_get_nodeinfo") 279, .str (Str.ofString "TopologicalSorter._get_nodeinfo") 280, .str (Str.ofString "/claim/cut.py") 281, .int (27) 0, .int (2) 0, .int (0) 0, .int (0) 0, .int (3) 0, .ref 74, .bool true, .int (181) 0, .ref 75, .none, .ref 76, .ref 77, .ref 78, .int (285) 0, .int (27) 0, .str (Str.ofString "/claim/cut.py") 286] : Obj }
noncomputable def fd80 : FuncData := { name := Str.ofString "_get_nodeinfo", qualname := Str.ofString "TopologicalSorter._get_nodeinfo", params := fArgs (mAt 6 1), body := .stmts (fBody (mAt 6 1)), scope := fScope (mAt 6 1), globals := 3, closure := [], defaults := .none, kwdefaults := .none, doc := .none, pyModule := .str (Str.ofString "cpy313.graphlib") 194, annotations := none, code := .ref 79, closureTuple := .none, builtins := 0 }
noncomputable def o80 (P : Params) : Obj := { cls := .type "function", data := .func fd80 : Obj }
noncomputable def o86 (P : Params) : Obj := { cls := .type "code", data := .fields #[.str (Str.ofString "add") 288, .str (Str.ofString "TopologicalSorter.add") 289, .str (Str.ofString "/claim/cut.py") 290, .int (32) 0, .int (2) 0, .int (0) 0, .int (0) 0, .int (7) 0, .ref 81, .bool true, .int (181) 0, .ref 82, .none, .ref 83, .ref 84, .ref 85, .int (297) 0, .int (32) 0, .str (Str.ofString "/claim/cut.py") 298] : Obj }
noncomputable def fd87 : FuncData := { name := Str.ofString "add", qualname := Str.ofString "TopologicalSorter.add", params := fArgs (mAt 6 2), body := .stmts (fBody (mAt 6 2)), scope := fScope (mAt 6 2), globals := 3, closure := [], defaults := .none, kwdefaults := .none, doc := .none, pyModule := .str (Str.ofString "cpy313.graphlib") 194, annotations := none, code := .ref 86, closureTuple := .none, builtins := 0 }
noncomputable def o87 (P : Params) : Obj := { cls := .type "function", data := .func fd87 : Obj }
noncomputable def o91 (P : Params) : Obj := { cls := .type "code", data := .fields #[.str (Str.ofString "prepare") 300, .str (Str.ofString "TopologicalSorter.prepare") 301, .str (Str.ofString "/claim/cut.py") 302, .int (41) 0, .int (1) 0, .int (0) 0, .int (0) 0, .int (3) 0, .ref 88, .bool true, .int (181) 0, .ref 89, .none, .none, .none, .ref 90, .int (303) 0, .int (41) 0, .str (Str.ofString "/claim/cut.py") 304] : Obj }
noncomputable def fd92 : FuncData := { name := Str.ofString "prepare", qualname := Str.ofString "TopologicalSorter.prepare", params := fArgs (mAt 6 3), body := .stmts (fBody (mAt 6 3)), scope := fScope (mAt 6 3), globals := 3, closure := [], defaults := .none, kwdefaults := .none, doc := .none, pyModule := .str (Str.ofString "cpy313.graphlib") 194, annotations := none, code := .ref 91, closureTuple := .none, builtins := 0 }
noncomputable def o92 (P : Params) : Obj := { cls := .type "function", data := .func fd92 : Obj }
noncomputable def o98 (P : Params) : Obj := { cls := .type "code", data := .fields #[.str (Str.ofString "get_ready") 306, .str (Str.ofString "TopologicalSorter.get_ready") 307, .str (Str.ofString "/claim/cut.py") 308, .int (49) 0, .int (1) 0, .int (0) 0, .int (0) 0, .int (3) 0, .ref 93, .bool true, .int (181) 0, .ref 94, .none, .ref 95, .ref 96, .ref 97, .int (313) 0, .int (49) 0, .str (Str.ofString "/claim/cut.py") 314] : Obj }
noncomputable def fd99 : FuncData := { name := Str.ofString "get_ready", qualname := Str.ofString "TopologicalSorter.get_ready", params := fArgs (mAt 6 4), body := .stmts (fBody (mAt 6 4)), scope := fScope (mAt 6 4), globals := 3, closure := [], defaults := .none, kwdefaults := .none, doc := .none, pyModule := .str (Str.ofString "cpy313.graphlib") 194, annotations := none, code := .ref 98, closureTuple := .none, builtins := 0 }
noncomputable def o99 (P : Params) : Obj := { cls := .type "function", data := .func fd99 : Obj }
noncomputable def o105 (P : Params) : Obj := { cls := .type "code", data := .fields #[.str (Str.ofString "is_active") 316, .str (Str.ofString "TopologicalSorter.is_active") 317, .str (Str.ofString "/claim/cut.py") 318, .int (60) 0, .int (1) 0, .int (0) 0, .int (0) 0, .int (3) 0, .ref 100, .bool true, .int (181) 0, .ref 101, .none, .ref 102, .ref 103, .ref 104, .int (320) 0, .int (60) 0, .str (Str.ofString "/claim/cut.py") 321] : Obj }
noncomputable def fd106 : FuncData := { name := Str.ofString "is_active", qualname := Str.ofString "TopologicalSorter.is_active", params := fArgs (mAt 6 5), body := .stmts (fBody (mAt 6 5)), scope := fScope (mAt 6 5), globals := 3, closure := [], defaults := .none, kwdefaults := .none, doc := .none, pyModule := .str (Str.ofString "cpy313.graphlib") 194, annotations := none, code := .ref 105, closureTuple := .none, builtins := 0 }
noncomputable def o106 (P : Params) : Obj := { cls := .type "function", data := .func fd106 : Obj }
noncomputable def o112 (P : Params) : Obj := { cls := .type "code", data := .fields #[.str (Str.ofString "__bool__") 323, .str (Str.ofString "TopologicalSorter.__bool__") 324, .str (Str.ofString "/claim/cut.py") 325, .int (65) 0, .int (1) 0, .int (0) 0, .int (0) 0, .int (3) 0, .ref 107, .bool true, .int (181) 0, .ref 108, .none, .ref 109, .ref 110, .ref 111, .int (327) 0, .int (65) 0, .str (Str.ofString "/claim/cut.py") 328] : Obj }
noncomputable def fd113 : FuncData := { name := Str.ofString "__bool__", qualname := Str.ofString "TopologicalSorter.__bool__", params := fArgs (mAt 6 6), body := .stmts (fBody (mAt 6 6)), scope := fScope (mAt 6 6), globals := 3, closure := [], defaults := .none, kwdefaults := .none, doc := .none, pyModule := .str (Str.ofString "cpy313.graphlib") 194, annotations := none, code := .ref 112, closureTuple := .none, builtins := 0 }
noncomputable def o113 (P : Params) : Obj := { cls := .type "function", data := .func fd113 : Obj }
noncomputable def o119 (P : Params) : Obj := { cls := .type "code", data := .fields #[.str (Str.ofString "done") 330, .str (Str.ofString "TopologicalSorter.done") 331, .str (Str.ofString "/claim/cut.py") 332, .int (68) 0, .int (1) 0, .int (0) 0, .int (0) 0, .int (7) 0, .ref 114, .bool true, .int (181) 0, .ref 115, .none, .ref 116, .ref 117, .ref 118, .int (341) 0, .int (68) 0, .str (Str.ofString "/claim/cut.py") 342] : Obj }
noncomputable def fd120 : FuncData := { name := Str.ofString "done", qualname := Str.ofString "TopologicalSorter.done", params := fArgs (mAt 6 7), body := .stmts (fBody (mAt 6 7)), scope := fScope (mAt 6 7), globals := 3, closure := [], defaults := .none, kwdefaults := .none, doc := .none, pyModule := .str (Str.ofString "cpy313.graphlib") 194, annotations := none, code := .ref 119, closureTuple := .none, builtins := 0 }
noncomputable def o120 (P : Params) : Obj := { cls := .type "function", data := .func fd120 : Obj }
noncomputable def o126 (P : Params) : Obj := { cls := .type "code", data := .fields #[.str (Str.ofString "_find_cycle") 344, .str (Str.ofString "TopologicalSorter._find_cycle") 345, .str (Str.ofString "/claim/cut.py") 346, .int (91) 0, .int (1) 0, .int (0) 0, .int (0) 0, .int (3) 0, .ref 121, .bool true, .int (181) 0, .ref 122, .none, .ref 123, .ref 124, .ref 125, .int (354) 0, .int (91) 0, .str (Str.ofString "/claim/cut.py") 355] : Obj }
noncomputable def fd127 : FuncData := { name := Str.ofString "_find_cycle", qualname := Str.ofString "TopologicalSorter._find_cycle", params := fArgs (mAt 6 8), body := .stmts (fBody (mAt 6 8)), scope := fScope (mAt 6 8), globals := 3, closure := [], defaults := .none, kwdefaults := .none, doc := .none, pyModule := .str (Str.ofString "cpy313.graphlib") 194, annotations := none, code := .ref 126, closureTuple := .none, builtins := 0 }
noncomputable def o127 (P : Params) : Obj := { cls := .type "function", data := .func fd127 : Obj }
noncomputable def o136 (P : Params) : Obj := { cls := .type "dict", data := .dict #[⟨PyData.keyHash P (Str.ofString "__module__"), .str (Str.ofString "__module__") 264, .str (Str.ofString "cpy313.graphlib") 194⟩, ⟨PyData.keyHash P (Str.ofString "__firstlineno__"), .str (Str.ofString "__firstlineno__") 268, .int (16) 267⟩, ⟨PyData.keyHash P (Str.ofString "__init__"), .str (Str.ofString "__init__") 278, .ref 73⟩, ⟨PyData.keyHash P (Str.ofString "_get_nodeinfo"), .str (Str.ofString "_get_nodeinfo") 287, .ref 80⟩, ⟨PyData.keyHash P (Str.ofString "add"), .str (Str.ofString "add") 299, .ref 87⟩, ⟨PyData.keyHash P (Str.ofString "prepare"), .str (Str.ofString "prepare") 305, .ref 92⟩, ⟨PyData.keyHash P (Str.ofString "get_ready"), .str (Str.ofString "get_ready") 315, .ref 99⟩, ⟨PyData.keyHash P (Str.ofString "is_active"), .str (Str.ofString "is_active") 322, .ref 106⟩, ⟨PyData.keyHash P (Str.ofString "__bool__"), .str (Str.ofString "__bool__") 329, .ref 113⟩, ⟨PyData.keyHash P (Str.ofString "done"), .str (Str.ofString "done") 343, .ref 120⟩, ⟨PyData.keyHash P (Str.ofString "_find_cycle"), .str (Str.ofString "_find_cycle") 356, .ref 127⟩, ⟨PyData.keyHash P (Str.ofString "static_order"), .str (Str.ofString "static_order") 363, .ref 134⟩, ⟨PyData.keyHash P (Str.ofString "__static_attributes__"), .str (Str.ofString "__static_attributes__") 368, .ref 135⟩, ⟨PyData.keyHash P (Str.ofString "__dict__"), .str (Str.ofString "__dict__") 370, .ref 138⟩, ⟨PyData.keyHash P (Str.ofString "__weakref__"), .str (Str.ofString "__weakref__") 372, .ref 139⟩, ⟨PyData.keyHash P (Str.ofString "__doc__"), .str (Str.ofString "__doc__") 373, .none⟩] 4 : Obj }
noncomputable def o137 (P : Params) : Obj := { cls := .type "type", data := .cls { name := Str.ofString "TopologicalSorter", bases := [.type "object"], mro := [.ref 137, .type "object"], ns := 136, qualname := Str.ofString "TopologicalSorter", hasDict := true, slotNames := [], subclasses := [], abstract := false, collection := none, hasDel := false }, slots := #[none, none, some (.str (Str.ofString "TopologicalSorter") 257), some (.str (Str.ofString "TopologicalSorter") 265), some (.builtin "object.__new__"), some (.bool true)] : Obj }
noncomputable def o138 (P : Params) : Obj := { cls := .type "getset_descriptor", data := .fields #[.str (Str.ofString "__dict__") 369, .ref 137, .builtin "function.__dict__", .builtin "function.__dict__#set"] : Obj }
noncomputable def o139 (P : Params) : Obj := { cls := .type "getset_descriptor", data := .fields #[.str (Str.ofString "__weakref__") 371, .ref 137, .builtin "ExceptionGroup.__weakref__", .none] : Obj }
noncomputable def o147 (P : Params) : Obj := { cls := .type "code", data := .fields #[.str (Str.ofString "S_IMODE") 378, .str (Str.ofString "S_IMODE") 379, .str (Str.ofString "/claim/cut.py") 380, .int (123) 0, .int (1) 0, .int (0) 0, .int (0) 0, .int (3) 0, .ref 142, .bool true, .int (181) 0, .ref 143, .none, .ref 144, .ref 145, .ref 146, .int (382) 0, .int (123) 0, .str (Str.ofString "/claim/cut.py") 383] : Obj }
noncomputable def fd148 : FuncData := { name := Str.ofString "S_IMODE", qualname := Str.ofString "S_IMODE", params := fArgs (sAt 8), body := .stmts (fBody (sAt 8)), scope := fScope (sAt 8), globals := 3, closure := [], defaults := .none, kwdefaults := .none, doc := .none, pyModule := .str (Str.ofString "cpy313.stat") 376, annotations := none, code := .ref 147, closureTuple := .none, builtins := 0 }
noncomputable def o148 (P : Params) : Obj := { cls := .type "function", data := .func fd148 : Obj }
noncomputable def o154 (P : Params) : Obj := { cls := .type "code", data := .fields #[.str (Str.ofString "S_IFMT") 385, .str (Str.ofString "S_IFMT") 386, .str (Str.ofString "/claim/cut.py") 387, .int (125) 0, .int (1) 0, .int (0) 0, .int (0) 0, .int (3) 0, .ref 149, .bool true, .int (181) 0, .ref 150, .none, .ref 151, .ref 152, .ref 153, .int (389) 0, .int (125) 0, .str (Str.ofString "/claim/cut.py") 390] : Obj }
noncomputable def fd155 : FuncData := { name := Str.ofString "S_IFMT", qualname := Str.ofString "S_IFMT", params := fArgs (sAt 9), body := .stmts (fBody (sAt 9)), scope := fScope (sAt 9), globals := 3, closure := [], defaults := .none, kwdefaults := .none, doc := .none, pyModule := .str (Str.ofString "cpy313.stat") 376, annotations := none, code := .ref 154, closureTuple := .none, builtins := 0 }
noncomputable def o155 (P : Params) : Obj := { cls := .type "function", data := .func fd155 : Obj }
noncomputable def o161 (P : Params) : Obj := { cls := .type "code", data := .fields #[.str (Str.ofString "S_ISLNK") 406, .str (Str.ofString "S_ISLNK") 407, .str (Str.ofString "/claim/cut.py") 408, .int (134) 0, .int (1) 0, .int (0) 0, .int (0) 0, .int (3) 0, .ref 156, .bool true, .int (181) 0, .ref 157, .none, .ref 158, .ref 159, .ref 160, .int (410) 0, .int (134) 0, .str (Str.ofString "/claim/cut.py") 411] : Obj }
noncomputable def fd162 : FuncData := { name := Str.ofString "S_ISLNK", qualname := Str.ofString "S_ISLNK", params := fArgs (sAt 17), body := .stmts (fBody (sAt 17)), scope := fScope (sAt 17), globals := 3, closure := [], defaults := .none, kwdefaults := .none, doc := .none, pyModule := .str (Str.ofString "cpy313.stat") 376, annotations := none, code := .ref 161, closureTuple := .none, builtins := 0 }
noncomputable def o162 (P : Params) : Obj := { cls := .type "function", data := .func fd162 : Obj }
noncomputable def o163 (P : Params) : Obj := { cls := .type "tuple", data := .seq #[.int (40960) 402, .str (Str.ofString "l") 437] 0 : Obj }
noncomputable def o164 (P : Params) : Obj := { cls := .type "tuple", data := .seq #[.int (49152) 404, .str (Str.ofString "s") 438] 0 : Obj }
noncomputable def o165 (P : Params) : Obj := { cls := .type "tuple", data := .seq #[.int (32768) 398, .str (Str.ofString "-") 439] 0 : Obj }
noncomputable def o166 (P : Params) : Obj := { cls := .type "tuple", data := .seq #[.int (24576) 396, .str (Str.ofString "b") 440] 0 : Obj }
noncomputable def o167 (P : Params) : Obj := { cls := .type "tuple", data := .seq #[.int (16384) 392, .str (Str.ofString "d") 441] 0 : Obj }
noncomputable def o168 (P : Params) : Obj := { cls := .type "tuple", data := .seq #[.int (8192) 394, .str (Str.ofString "c") 442] 0 : Obj }
noncomputable def o169 (P : Params) : Obj := { cls := .type "tuple", data := .seq #[.int (4096) 400, .str (Str.ofString "p") 443] 0 : Obj }
noncomputable def o170 (P : Params) : Obj := { cls := .type "tuple", data := .seq #[.ref 163, .ref 164, .ref 165, .ref 166, .ref 167, .ref 168, .ref 169] 0 : Obj }
noncomputable def o171 (P : Params) : Obj := { cls := .type "tuple", data := .seq #[.int (256) 419, .str (Str.ofString "r") 444] 0 : Obj }
noncomputable def o172 (P : Params) : Obj := { cls := .type "tuple", data := .seq #[.ref 171] 0 : Obj }
noncomputable def o173 (P : Params) : Obj := { cls := .type "tuple", data := .seq #[.int (128) 421, .str (Str.ofString "w") 445] 0 : Obj }
noncomputable def o174 (P : Params) : Obj := { cls := .type "tuple", data := .seq #[.ref 173] 0 : Obj }
noncomputable def o175 (P : Params) : Obj := { cls := .type "tuple", data := .seq #[.int (2112) 446, .str (Str.ofString "s") 447] 0 : Obj }
noncomputable def o176 (P : Params) : Obj := { cls := .type "tuple", data := .seq #[.int (2048) 413, .str (Str.ofString "S") 448] 0 : Obj }
noncomputable def o177 (P : Params) : Obj := { cls := .type "tuple", data := .seq #[.int (64) 423, .str (Str.ofString "x") 449] 0 : Obj }
noncomputable def o178 (P : Params) : Obj := { cls := .type "tuple", data := .seq #[.ref 175, .ref 176, .ref 177] 0 : Obj }
noncomputable def o179 (P : Params) : Obj := { cls := .type "tuple", data := .seq #[.int (32) 425, .str (Str.ofString "r") 450] 0 : Obj }
noncomputable def o180 (P : Params) : Obj := { cls := .type "tuple", data := .seq #[.ref 179] 0 : Obj }
noncomputable def o181 (P : Params) : Obj := { cls := .type "tuple", data := .seq #[.int (16) 427, .str (Str.ofString "w") 451] 0 : Obj }
noncomputable def o182 (P : Params) : Obj := { cls := .type "tuple", data := .seq #[.ref 181] 0 : Obj }
noncomputable def o183 (P : Params) : Obj := { cls := .type "tuple", data := .seq #[.int (1032) 452, .str (Str.ofString "s") 453] 0 : Obj }
noncomputable def o184 (P : Params) : Obj := { cls := .type "tuple", data := .seq #[.int (1024) 415, .str (Str.ofString "S") 454] 0 : Obj }
noncomputable def o185 (P : Params) : Obj := { cls := .type "tuple", data := .seq #[.int (8) 429, .str (Str.ofString "x") 455] 0 : Obj }
noncomputable def o186 (P : Params) : Obj := { cls := .type "tuple", data := .seq #[.ref 183, .ref 184, .ref 185] 0 : Obj }
noncomputable def o187 (P : Params) : Obj := { cls := .type "tuple", data := .seq #[.int (4) 431, .str (Str.ofString "r") 456] 0 : Obj }
noncomputable def o188 (P : Params) : Obj := { cls := .type "tuple", data := .seq #[.ref 187] 0 : Obj }
noncomputable def o189 (P : Params) : Obj := { cls := .type "tuple", data := .seq #[.int (2) 433, .str (Str.ofString "w") 457] 0 : Obj }
noncomputable def o190 (P : Params) : Obj := { cls := .type "tuple", data := .seq #[.ref 189] 0 : Obj }
noncomputable def o191 (P : Params) : Obj := { cls := .type "tuple", data := .seq #[.int (513) 458, .str (Str.ofString "t") 459] 0 : Obj }
noncomputable def o192 (P : Params) : Obj := { cls := .type "tuple", data := .seq #[.int (512) 417, .str (Str.ofString "T") 460] 0 : Obj }
noncomputable def o193 (P : Params) : Obj := { cls := .type "tuple", data := .seq #[.int (1) 435, .str (Str.ofString "x") 461] 0 : Obj }
noncomputable def o194 (P : Params) : Obj := { cls := .type "tuple", data := .seq #[.ref 191, .ref 192, .ref 193] 0 : Obj }
noncomputable def o195 (P : Params) : Obj := { cls := .type "tuple", data := .seq #[.ref 170, .ref 172, .ref 174, .ref 178, .ref 180, .ref 182, .ref 186, .ref 188, .ref 190, .ref 194] 0 : Obj }
noncomputable def o201 (P : Params) : Obj := { cls := .type "code", data := .fields #[.str (Str.ofString "filemode") 463, .str (Str.ofString "filemode") 464, .str (Str.ofString "/claim/cut.py") 465, .int (149) 0, .int (1) 0, .int (0) 0, .int (0) 0, .int (3) 0, .ref 196, .bool true, .int (181) 0, .ref 197, .none, .ref 198, .ref 199, .ref 200, .int (472) 0, .int (149) 0, .str (Str.ofString "/claim/cut.py") 473] : Obj }
noncomputable def fd202 : FuncData := { name := Str.ofString "filemode", qualname := Str.ofString "filemode", params := fArgs (sAt 31), body := .stmts (fBody (sAt 31)), scope := fScope (sAt 31), globals := 3, closure := [], defaults := .none, kwdefaults := .none, doc := .none, pyModule := .str (Str.ofString "cpy313.stat") 376, annotations := none, code := .ref 201, closureTuple := .none, builtins := 0 }
noncomputable def o202 (P : Params) : Obj := { cls := .type "function", data := .func fd202 : Obj }
noncomputable def o206 (P : Params) : Obj := { cls := .type "code", data := .fields #[.str (Str.ofString "_law_words") 477, .str (Str.ofString "_law_words") 478, .str (Str.ofString "/claim/cut.py") 479, .int (167) 0, .int (1) 0, .int (0) 0, .int (0) 0, .int (3) 0, .ref 203, .bool true, .int (181) 0, .ref 204, .none, .none, .none, .ref 205, .int (480) 0, .int (167) 0, .str (Str.ofString "/claim/cut.py") 481] : Obj }
noncomputable def fd207 : FuncData := { name := Str.ofString "_law_words", qualname := Str.ofString "_law_words", params := fArgs (sAt 33), body := .stmts (fBody (sAt 33)), scope := fScope (sAt 33), globals := 3, closure := [], defaults := .none, kwdefaults := .none, doc := .none, pyModule := .str (Str.ofString "law_mq0377_01") 475, annotations := none, code := .ref 206, closureTuple := .none, builtins := 0 }
noncomputable def o207 (P : Params) : Obj := { cls := .type "function", data := .func fd207 : Obj }
noncomputable def o213 (P : Params) : Obj := { cls := .type "code", data := .fields #[.str (Str.ofString "_law_read") 483, .str (Str.ofString "_law_read") 484, .str (Str.ofString "/claim/cut.py") 485, .int (170) 0, .int (1) 0, .int (0) 0, .int (0) 0, .int (3) 0, .ref 208, .bool true, .int (181) 0, .ref 209, .none, .ref 210, .ref 211, .ref 212, .int (491) 0, .int (170) 0, .str (Str.ofString "/claim/cut.py") 492] : Obj }
noncomputable def fd214 : FuncData := { name := Str.ofString "_law_read", qualname := Str.ofString "_law_read", params := fArgs (sAt 34), body := .stmts (fBody (sAt 34)), scope := fScope (sAt 34), globals := 3, closure := [], defaults := .none, kwdefaults := .none, doc := .none, pyModule := .str (Str.ofString "law_mq0377_01") 475, annotations := none, code := .ref 213, closureTuple := .none, builtins := 0 }
noncomputable def o214 (P : Params) : Obj := { cls := .type "function", data := .func fd214 : Obj }
noncomputable def o220 (P : Params) : Obj := { cls := .type "code", data := .fields #[.str (Str.ofString "_law_refused") 494, .str (Str.ofString "_law_refused") 495, .str (Str.ofString "/claim/cut.py") 496, .int (177) 0, .int (2) 0, .int (0) 0, .int (0) 0, .int (3) 0, .ref 215, .bool true, .int (181) 0, .ref 216, .none, .ref 217, .ref 218, .ref 219, .int (499) 0, .int (177) 0, .str (Str.ofString "/claim/cut.py") 500] : Obj }
noncomputable def fd221 : FuncData := { name := Str.ofString "_law_refused", qualname := Str.ofString "_law_refused", params := fArgs (sAt 35), body := .stmts (fBody (sAt 35)), scope := fScope (sAt 35), globals := 3, closure := [], defaults := .none, kwdefaults := .none, doc := .none, pyModule := .str (Str.ofString "law_mq0377_01") 475, annotations := none, code := .ref 220, closureTuple := .none, builtins := 0 }
noncomputable def o221 (P : Params) : Obj := { cls := .type "function", data := .func fd221 : Obj }
noncomputable def o225 (P : Params) : Obj := { cls := .type "code", data := .fields #[.str (Str.ofString "_law_chase") 502, .str (Str.ofString "_law_chase") 503, .str (Str.ofString "/claim/cut.py") 504, .int (183) 0, .int (1) 0, .int (0) 0, .int (0) 0, .int (3) 0, .ref 222, .bool true, .int (181) 0, .ref 223, .none, .none, .none, .ref 224, .int (505) 0, .int (183) 0, .str (Str.ofString "/claim/cut.py") 506] : Obj }
noncomputable def fd226 : FuncData := { name := Str.ofString "_law_chase", qualname := Str.ofString "_law_chase", params := fArgs (sAt 36), body := .stmts (fBody (sAt 36)), scope := fScope (sAt 36), globals := 3, closure := [], defaults := .none, kwdefaults := .none, doc := .none, pyModule := .str (Str.ofString "law_mq0377_01") 475, annotations := none, code := .ref 225, closureTuple := .none, builtins := 0 }
noncomputable def o226 (P : Params) : Obj := { cls := .type "function", data := .func fd226 : Obj }
noncomputable def o232 (P : Params) : Obj := { cls := .type "code", data := .fields #[.str (Str.ofString "_law_follow") 508, .str (Str.ofString "_law_follow") 509, .str (Str.ofString "/claim/cut.py") 510, .int (211) 0, .int (3) 0, .int (0) 0, .int (0) 0, .int (3) 0, .ref 227, .bool true, .int (181) 0, .ref 228, .none, .ref 229, .ref 230, .ref 231, .int (516) 0, .int (211) 0, .str (Str.ofString "/claim/cut.py") 517] : Obj }
noncomputable def fd233 : FuncData := { name := Str.ofString "_law_follow", qualname := Str.ofString "_law_follow", params := fArgs (sAt 37), body := .stmts (fBody (sAt 37)), scope := fScope (sAt 37), globals := 3, closure := [], defaults := .none, kwdefaults := .none, doc := .none, pyModule := .str (Str.ofString "law_mq0377_01") 475, annotations := none, code := .ref 232, closureTuple := .none, builtins := 0 }
noncomputable def o233 (P : Params) : Obj := { cls := .type "function", data := .func fd233 : Obj }
noncomputable def o237 (P : Params) : Obj := { cls := .type "code", data := .fields #[.str (Str.ofString "_law_told") 519, .str (Str.ofString "_law_told") 520, .str (Str.ofString "/claim/cut.py") 521, .int (218) 0, .int (4) 0, .int (0) 0, .int (0) 0, .int (3) 0, .ref 234, .bool true, .int (181) 0, .ref 235, .none, .none, .none, .ref 236, .int (522) 0, .int (218) 0, .str (Str.ofString "/claim/cut.py") 523] : Obj }
noncomputable def fd238 : FuncData := { name := Str.ofString "_law_told", qualname := Str.ofString "_law_told", params := fArgs (sAt 38), body := .stmts (fBody (sAt 38)), scope := fScope (sAt 38), globals := 3, closure := [], defaults := .none, kwdefaults := .none, doc := .none, pyModule := .str (Str.ofString "law_mq0377_01") 475, annotations := none, code := .ref 237, closureTuple := .none, builtins := 0 }
noncomputable def o238 (P : Params) : Obj := { cls := .type "function", data := .func fd238 : Obj }
noncomputable def o242 (P : Params) : Obj := { cls := .type "code", data := .fields #[.str (Str.ofString "law") 525, .str (Str.ofString "law") 526, .str (Str.ofString "/claim/cut.py") 527, .int (239) 0, .int (1) 0, .int (0) 0, .int (0) 0, .int (3) 0, .ref 239, .bool true, .int (181) 0, .ref 240, .none, .none, .none, .ref 241, .int (528) 0, .int (239) 0, .str (Str.ofString "/claim/cut.py") 529] : Obj }
noncomputable def fd243 : FuncData := { name := Str.ofString "law", qualname := Str.ofString "law", params := fArgs (sAt 39), body := .stmts (fBody (sAt 39)), scope := fScope (sAt 39), globals := 3, closure := [], defaults := .none, kwdefaults := .none, doc := .none, pyModule := .str (Str.ofString "law_mq0377_01") 475, annotations := none, code := .ref 242, closureTuple := .none, builtins := 0 }
noncomputable def o243 (P : Params) : Obj := { cls := .type "function", data := .func fd243 : Obj }
noncomputable def KK (P : Params) : Frag := [(3, o3 P), (35, o35 P), (36, o36 P), (39, o39 P), (40, o40 P), (41, o41 P), (42, o42 P), (43, o43 P), (54, o54 P), (55, o55 P), (66, o66 P), (72, o72 P), (73, o73 P), (79, o79 P), (80, o80 P), (86, o86 P), (87, o87 P), (91, o91 P), (92, o92 P), (98, o98 P), (99, o99 P), (105, o105 P), (106, o106 P), (112, o112 P), (113, o113 P), (119, o119 P), (120, o120 P), (126, o126 P), (127, o127 P), (136, o136 P), (137, o137 P), (138, o138 P), (139, o139 P), (147, o147 P), (148, o148 P), (154, o154 P), (155, o155 P), (161, o161 P), (162, o162 P), (163, o163 P), (164, o164 P), (165, o165 P), (166, o166 P), (167, o167 P), (168, o168 P), (169, o169 P), (170, o170 P), (171, o171 P), (172, o172 P), (173, o173 P), (174, o174 P), (175, o175 P), (176, o176 P), (177, o177 P), (178, o178 P), (179, o179 P), (180, o180 P), (181, o181 P), (182, o182 P), (183, o183 P), (184, o184 P), (185, o185 P), (186, o186 P), (187, o187 P), (188, o188 P), (189, o189 P), (190, o190 P), (191, o191 P), (192, o192 P), (193, o193 P), (194, o194 P), (195, o195 P), (201, o201 P), (202, o202 P), (206, o206 P), (207, o207 P), (213, o213 P), (214, o214 P), (220, o220 P), (221, o221 P), (225, o225 P), (226, o226 P), (232, o232 P), (233, o233 P), (237, o237 P), (238, o238 P), (242, o242 P), (243, o243 P)]
end
noncomputable section
section
variable {α β : Type} {w : World} {H : Heap} {O : OsState} {k : Nat} {hd : Option Value} {X : ExcP} {env : Env} {g : GH} {m : LM} {K : Frag}
theorem t_spl0 {pos : Pos} {Q : List Value → GH → LM → Prop} (h : Q [] g m) : tri w H O k hd X env (spliced (backTo pos (starEach [] env))) g m Q := tri_pure h
theorem t_spl {e : Expr} {rest : List Expr} {pos : Pos} {Q : List Value → GH → LM → Prop} (he : starEach (e :: rest) env = (false, eval e env) :: starEach rest env)
    (h : tri w H O k hd X env (eval e env) g m (splQ w H O k hd X env rest pos Q)) : tri w H O k hd X env (spliced (backTo pos (starEach (e :: rest) env))) g m Q := by
  rw [he]
  show tri w H O k hd X env (do
    let v ← eval e env
    let here ← pure [v]
    return here ++ (← holding here (spliced (backTo pos (starEach rest env))))) g m Q
  exact tri_bind (tri_mono h fun v g₁ m₁ q => tri_bind (tri_pure (tri_bind (tri_holding (tri_mono q fun vs g₂ m₂ q => tri_pure q)))))
def KeepOk (K : Frag) : Value → Prop
  | .ref a => keepIn K (.ref a) = true
  | _ => True
theorem KeepOk.looks {f : Value} (hk : KeepOk K f) {M : Model} {h : Heap} (x : K.In h) : ∃ q, (q = Keeper.frame ∨ q = Keeper.machine ∨ q = Keeper.boundFrame) ∧ Looks M h (keeperOf f) q := by
  cases f with
  | ref a => exact keeps_K hk h x
  | _ => exact ⟨.machine, .inr (.inl rfl), Looks.of_pure rfl⟩
theorem spliced_plain {pos : Pos} : ∀ {es : List Expr}, (es.all fun e => match e with | .Starred .. => false | _ => true) = true → ((backTo pos (starEach es env)).any (·.1)) = false
  | [], _ => rfl
  | e :: r, h => by
    have h1 := (Bool.and_eq_true_iff.mp (List.all_cons ▸ h)).2
    have ih := spliced_plain (pos := pos) h1
    have h0 := (Bool.and_eq_true_iff.mp (List.all_cons ▸ h)).1
    cases e <;> first | exact ih | cases h0
theorem t_evalArgs {f : Value} {pos : Pos} {es : List Expr} {Q : Args → GH → LM → Prop} (hp : (es.all fun e => match e with | .Starred .. => false | _ => true) = true)
    (h : tri w H O k hd X env (spliced (backTo pos (starEach es env))) g m fun vs g₁ m₁ => Q ⟨vs, []⟩ g₁ m₁) : tri w H O k hd X env (evalArgs f true (backTo pos (starEach es env)) []) g m Q := by
  refine .mk fun A fs base s a R F => ?_
  have hs := spliced_plain (env := env) (pos := pos) hp
  have h1 := h.run A fs base s a R F
  cases q : backTo pos (starEach es env) with
  | nil => rw [q] at h1; exact fun Γ p hΓ => h1 Γ p hΓ
  | cons x r =>
    rw [q] at hs h1
    obtain ⟨b, t⟩ := x
    cases b with
    | true => simp at hs
    | false => exact PySem.Calls.evalArgs_plain h1
theorem t_cw {f : Value} {first : List Value} {es : List Expr} {pos : Pos} {Q : Value → GH → LM → Prop} (T : Tp K H) (hk : KeepOk K f) (hp : (es.all fun e => match e with | .Starred .. => false | _ => true) = true)
    (h : tri w H O k hd X env (spliced (backTo pos (starEach es env))) g m (cwQ w H O k hd X env f first Q)) : tri w H O k hd X env (callWith pos f first (backTo pos (starEach es env)) []) g m Q := by
  refine .mk fun A fs base s a R F => ?_
  refine callWith_of (P := fun h => K.In h) (by rw [spliced_plain hp]; rfl) (fun h x => hk.looks x) ?_
  exact (t_evalArgs (f := f) (Q := fun a g₁ m₁ => tri w H O k hd X env (call f (first ++ a.pos) a.kw) g₁ m₁ Q) hp h).run A fs base s a R F |> fun q => wpAny_mono q (fun x s' ⟨g', m', R', F', q'⟩ => ⟨T.X.keeps R'.topIn, q'.run A fs base s' a R' F'⟩) fun _ _ e => e
theorem t_callN {x : Str} {p pos : Pos} {es : List Expr} {Q : Value → GH → LM → Prop} (h : tri w H O k hd X env (eval (.Name x p) env) g m (callQ w H O k hd X env pos es Q)) : tri w H O k hd X env (eval (.Call (.Name x p) es [] pos) env) g m Q :=
  tri_eq (show eval (.Call (.Name x p) es [] pos) env = (do callWith pos (← eval (.Name x p) env) [] (backTo pos (starEach es env)) []) from rfl) (tri_bind h)
theorem t_subs {value slice : Expr} {pos : Pos} {Q : Value → GH → LM → Prop} (h : tri w H O k hd X env (eval value env) g m (sub1Q w H O k hd X env value slice Q)) : tri w H O k hd X env (eval (.Subscript value slice pos) env) g m Q :=
  tri_eq (arm_eval_Subscript value slice pos env) (tri_bind (tri_mono h fun o g₁ m₁ q => tri_bind (tri_holding (tri_mono q fun i g₂ m₂ q => tri_bind (tri_standAt (.mk fun A fs base s a R F => q.run A fs base s a R F))))))
def IsL (g : GH) (a : Addr) (items : List Value) : Prop := ∃ n, g a = some { cls := .type "list", data := .seq items.toArray n }
def IsT (g : GH) (a : Addr) (items : List Value) : Prop := ∃ o n, g a = some o ∧ o.cls = .type "tuple" ∧ o.data = .seq items.toArray n
theorem IsL.at {a : Addr} {items : List Value} {fs : List Addr} {base : GH} {s : Shared} (h : IsL g a items) (R : Rep H O fs base g s) : s.heap.IsList a items.toArray := by obtain ⟨n, e⟩ := h; exact ⟨_, R.kg _ _ e, rfl, n, rfl⟩
theorem IsT.at {a : Addr} {items : List Value} {fs : List Addr} {base : GH} {s : Shared} (h : IsT g a items) (R : Rep H O fs base g s) : IsTup s.heap a items.toArray := by obtain ⟨o, n, e, c, d⟩ := h; exact ⟨_, R.kg _ _ e, c, n, d⟩
theorem t_idxL {value slice : Expr} {l : Addr} {items : List Value} {i : Int} {u : Tok} {v : Value} {Q : Value → GH → LM → Prop} (hl : IsL g l items) (h0 : 0 ≤ i) (hi : i < 2 ^ 63) (hv : items[i.toNat]? = some v) (h : Q v g m)
    (hs : subscripted slice false (.ref l) (.int i u) = operate [.ref l, .int i u] (getItem (.ref l) (.int i u))) : tri w H O k hd X env (subscriptTail value slice (.ref l) (.int i u)) g m Q :=
  tri_val (fun A fs base s P E a R F q => tail_any (hl.at R).typeIs slot_list_getitem.lookup (wpAny_getItem_list (hl.at R) h0 hi (by simpa using hv) (q s.toks)) hs) h
theorem t_idxT {value slice : Expr} {l : Addr} {items : List Value} {i : Int} {u : Tok} {v : Value} {Q : Value → GH → LM → Prop} (hl : IsT g l items) (h0 : 0 ≤ i) (hi : i < 2 ^ 63) (hv : items[i.toNat]? = some v) (h : Q v g m)
    (hs : subscripted slice false (.ref l) (.int i u) = operate [.ref l, .int i u] (getItem (.ref l) (.int i u))) : tri w H O k hd X env (subscriptTail value slice (.ref l) (.int i u)) g m Q := by
  have hlt : i.toNat < items.length := (List.getElem?_eq_some_iff.mp hv).1
  exact tri_val (fun A fs base s P E a R F q => item_tupleT (hl.at R) (by omega) hi (j := i.toNat) (by unfold seqIndex?; simp; rw [if_neg (Int.not_lt.mpr h0)]; exact ⟨⟨h0, by omega⟩, rfl⟩) (by simpa using hv) (q s.toks) hs) h
end
end
noncomputable section
noncomputable def allN (H h : Heap) (L : Addr) (ex : List Addr) : List (Addr × Obj) :=
  (List.range h.objs.size).filterMap fun a => if a = L ∨ a ∈ ex ∨ (H.get? a).isSome = true then none else (h.get? a).map fun o => (a, o)
section
variable {α β : Type} {w : World} {H : Heap} {O : OsState} {k : Nat} {hd : Option Value} {X : ExcP} {env : Env} {g : GH} {m : LM} {K : Frag} {fs : List Addr} {base : GH} {s : Shared} {A : Around} {h h' : Heap} {L : Addr} {ex : List Addr}
theorem allN_in {p : Addr × Obj} (hp : p ∈ allN H h L ex) : p.1 ≠ L ∧ p.1 ∉ ex ∧ H.get? p.1 = none ∧ h.get? p.1 = some p.2 := by
  unfold allN at hp
  refine el_ea (List.mem_filterMap.mp hp) fun a _ e => ?_
  split at e
  · cases e
  · rename_i n
    refine el_ea (Option.map_eq_some_iff.mp e) fun o ho yy1 => ?_
    obtain rfl := yy1
    simp only [not_or] at n
    refine ⟨n.1, n.2.1, ?_, ho⟩
    cases q : H.get? a with
    | none => rfl
    | some o' => exact absurd (by rw [q]; rfl) n.2.2
theorem allN_mem {a : Addr} {o : Obj} (e : h.get? a = some o) (hL : a ≠ L) (hx : a ∉ ex) (hH : H.get? a = none) : (a, o) ∈ allN H h L ex := by
  unfold allN
  refine List.mem_filterMap.mpr ⟨a, List.mem_range.mpr (Heap.lt_size e), ?_⟩
  rw [if_neg (by simp [hL, hx, hH]), e]; rfl
theorem allN_news : News H L h (allN H h L ex) := fun p hp => by obtain ⟨a, _, c, d⟩ := allN_in hp; exact ⟨d, a, c⟩
theorem allN_kept {m' : LM} {chg : List (Addr × Obj)} (k0 : Grows H h) (F' : Fr H L h' m') (N' : News H L h' (chg ++ allN H h L ex)) : ∀ b o, b ≠ L → b ∉ ex → h.get? b = some o → h'.get? b = some o := fun b o hL hx e => by
  cases q : H.get? b with
  | none => exact (N' (b, o) (List.mem_append_right _ (allN_mem e hL hx q))).1
  | some o' => have := k0 b o' q; rw [e] at this; cases this; exact F'.keep b o q
theorem Frm.fr (F : Frm env m base g s.heap) (a : AOk H k hd fs env base A) (R : Rep H O fs base g s) : ∃ mL, Fr H env.locals s.heap mL ∧ ∀ x, env.kindOf x = some .local → mL x = m x := by
  refine el_eeeaaa F.ns fun o es n h1 h2 h3 h4 => ?_
  exact ⟨nsFind es, ⟨⟨o, es, n, h1, h2, h3, fun _ => rfl⟩, R.topIn, a.up⟩, h4⟩
theorem Rep.chg {g' : GH} (R : Rep H O fs base g s) (F : Frm env m base g s.heap) (hk : ∀ b o, b ≠ env.locals → b ∉ ex → s.heap.get? b = some o → h'.get? b = some o) (hex : ∀ b ∈ ex, base b = none) (hg : ∀ b o, g' b = some o → h'.get? b = some o) (hdj : ∀ b o, base b = some o → g' b = none) (tk : Nat) :
    Rep H O fs base g' { s with heap := h', toks := tk } :=
  ⟨R.top, fun b o e => by obtain ⟨sl, q, z⟩ := R.kb b o e; exact ⟨sl, hk _ _ (fun q => by rw [q, F.lb] at e; cases e) (fun q => by rw [hex b q] at e; cases e) q, z⟩, hg, hdj, R.gens, R.os⟩
theorem Frm.chg {g' : GH} {mL : LM} (F : Frm env m base g h) (hk : ∀ b o, b ≠ env.locals → b ∉ ex → h.get? b = some o → h'.get? b = some o) (hex : ∀ x c, env.cells.lookup x = some c → c ∉ ex) (hns : h'.Ns env.locals mL) (hm : ∀ x, env.kindOf x = some .local → mL x = m x)
    (hg : ∀ a o, h.get? a = some o → g a = none → g' a = none) : Frm env m base g' h' := by
  refine el_eeeaaa hns fun o es n h1 h2 h3 h4 => ?_; clear hns
  obtain ⟨o0, hL⟩ := F.Ls
  refine ⟨⟨o, es, n, h1, h2, h3, fun x hx => (h4 x).trans (hm x hx)⟩, F.lb, hg _ _ hL F.lg, fun x c e => ?_, F.inj, F.ck, F.own⟩
  refine el_aa (F.cell x c e) fun yy2 w1 w2 => ?_
  obtain ⟨o', q, z⟩ := yy2
  exact ⟨⟨o', hk _ _ w2 (hex x c e) q, z⟩, hg _ _ q w1, w2⟩
theorem tri_ledU {ι : Type} {t : Sem α} {Q : α → GH → LM → Prop} {v : α} {a : Addr} {o : Obj} {f : ι → Obj} (hg : g a = some o)
    (hs : ∀ A fs base s mL (P : α → Shared → Prop) (E : Value → Shared → Prop), AOk H k hd fs env base A → Rep H O fs base g s → Fr H env.locals s.heap mL → News H env.locals s.heap ((a, o) :: allN H s.heap env.locals [a]) → (∀ p ∈ allN H s.heap env.locals [a], p.1 ≠ a) →
      (∀ h' tk e, Fr H env.locals h' mL → News H env.locals h' ((a, f e) :: allN H s.heap env.locals [a]) → P v { s with heap := h', toks := tk }) → wpAny (model P0 w) A t P E s)
    (h : ∀ e, Q v (gset g a (f e)) m) : tri w H O k hd X env t g m Q := by
  refine .mk fun A fs base s aa R F => ?_
  refine el_ea (F.fr aa R) fun mL Fr0 hm => ?_
  have ha := R.kg a o hg
  have haL : a ≠ env.locals := fun q => by rw [q, F.lg] at hg; cases hg
  have haH : H.get? a = none := by
    cases q : H.get? a with
    | none => rfl
    | some o' => have := R.dj a o' (R.top a o' q).1; rw [hg] at this; cases this
  refine hs A fs base s mL _ _ aa R Fr0 (fun p hp => ?_) (fun p hp => ?_) fun h' tk e F' N' => ?_
  · rcases List.mem_cons.mp hp with rfl | hp
    · exact ⟨ha, haL, haH⟩
    · exact allN_news p hp
  · exact fun q => (allN_in hp).2.1 (q ▸ List.mem_singleton.mpr rfl)
  · have kept := allN_kept (chg := [(a, f e)]) R.topIn F' N'
    have hne : ∀ b, g b = none → b ≠ a := fun b q z => by rw [z, hg] at q; cases q
    refine ⟨_, m, R.chg F kept (fun b hb => by rw [List.mem_singleton.mp hb]; exact R.g_base hg) (fun b ob q => ?_) (fun b ob q => ?_) tk, F.chg kept (fun x c q z => ?_) F'.ns hm (fun b ob _ q => by rw [gset_ne (hne b q)]; exact q), h e⟩
    · by_cases z : b = a
      · subst z; rw [gset_self] at q; cases q; exact (N' _ (.head _)).1
      · rw [gset_ne z] at q
        have hbL : b ≠ env.locals := fun z => by rw [z, F.lg] at q; cases q
        exact kept b ob hbL (fun y => z (List.mem_singleton.mp y)) (R.kg b ob q)
    · rw [gset_ne (hne b (R.dj b ob q))]; exact R.dj b ob q
    · rw [List.mem_singleton.mp z] at q
      exact absurd (F.cell x a q).2.1 (by rw [hg]; exact fun z => nomatch z)
theorem t_attr {value : Expr} {attr : Str} {pos : Pos} {Q : Value → GH → LM → Prop} (hb : attributeBase value attr env (eval value env) = eval value env) (h : tri w H O k hd X env (eval value env) g m (attrQ w H O k hd X env attr Q)) : tri w H O k hd X env (eval (.Attribute value attr pos) env) g m Q := by
  refine tri_eq (arm_eval_Attribute value attr pos env) ?_
  rw [hb]
  exact tri_bind (tri_mono h fun o g₁ m₁ q => tri_bind (tri_standAt (tri_bind (tri_holding (tri_mono q fun r g₂ m₂ q => tri_bind (.mk fun A fs base s a R F => wpAny_letTemporaryGo ⟨g₂, m₂, R, F, tri_pure q⟩))))))
structure InstG (g : GH) (x : Addr) (C dx : Addr) (sl : Array (Option Value)) (es : List DictEntry) (n : Nat) : Prop where
  ob : g x = some { cls := .ref C, dict := some dx, slots := sl }
  di : g dx = some (dictOf es n)
theorem InstG.at {x C dx : Addr} {sl : Array (Option Value)} {es : List DictEntry} {n : Nat} (I : InstG g x C dx sl es n) (R : Rep H O fs base g s) : InstAt s.heap x { cls := .ref C, dict := some dx, slots := sl } C (some (dictOf es n)) := ⟨R.kg _ _ I.ob, rfl, rfl, R.kg _ _ I.di⟩
theorem t_getown {x C dx : Addr} {sl : Array (Option Value)} {es : List DictEntry} {n : Nat} {name : Str} {attr : Option Value} {v : Value} {b : Bool} {Q : Value → GH → LM → Prop} (T : Tp K H) (I : InstG g x C dx sl es n) (hg : plainGet K C name = true) (hh : hasDictIn K C = true) (ha : findIn K (.ref C) name = some attr) (hn : noGet K attr = true) (hl : getL name es = some (some v)) (hv : handedIn v = true) (h : Q v g m) :
    tri w H O k hd X env (getAttr (.ref x) name b) g m Q := by
  refine .mk fun A fs base s a R F => ?_
  refine el_ea (F.fr a R) fun mL Fr0 _ => ?_
  exact get_own Fr0 T.X (I.at R) hg hh ha hn hl hv ⟨g, m, R.toks _, F, h⟩
theorem t_getslot {x C dx p : Addr} {sl : Array (Option Value)} {es : List DictEntry} {n i : Nat} {name : Str} {v : Value} {b : Bool} {Q : Value → GH → LM → Prop} (T : Tp K H) (I : InstG g x C dx sl es n) (hg : plainGet K C name = true) (hc : isClsIn K C = true) (ha : findIn K (.ref C) name = some (some (.ref p))) (hn : specialIn K (.ref p) "__get__" = some (some (.builtin "member_descriptor.__get__"))) (ht : takesIn K (.ref p) = some true) (hp : slotIn K p C = some i) (hv : (sl[i]?).join = some v) (hh : handedIn v = true) (h : Q v g m) :
    tri w H O k hd X env (getAttr (.ref x) name b) g m Q := by
  refine .mk fun A fs base s a R F => ?_
  refine el_ea (F.fr a R) fun mL Fr0 _ => ?_
  exact get_slot Fr0 T.X (I.at R) hg hc ha hn ht hp hv hh ⟨g, m, R.toks _, F, h⟩
theorem t_setslot {x C dx p : Addr} {sl : Array (Option Value)} {es : List DictEntry} {n i : Nat} {name : Str} {v : Value} {Q : Unit → GH → LM → Prop} (T : Tp K H) (I : InstG g x C dx sl es n) (hs : findIn K (.ref C) "__setattr__" = some (some (.builtin "object.__setattr__"))) (hp : plainOver K C = true) (ht : takerIn K C name = some (some (.ref p))) (hT : typeIn K (.ref p) = some (.type "member_descriptor")) (hi : slotIn K p C = some i) (hz : i < 1000)
    (h : Q () (gset g x { cls := .ref C, dict := some dx, slots := (sl ++ Array.replicate (i + 1 - sl.size) none).setIfInBounds i (some v) }) m) : tri w H O k hd X env (setAttr (.ref x) name v) g m Q :=
  tri_ledU (ι := Unit) (f := fun _ => { cls := .ref C, dict := some dx, slots := (sl ++ Array.replicate (i + 1 - sl.size) none).setIfInBounds i (some v) }) I.ob
    (fun A fs base s mL P E a R F0 N hne q => set_slot F0 T.X N (I.at R) hs hp ht hT hi hz rfl rfl (Upd.head hne) fun h' F' N' => q h' _ () F' N') fun _ => h
theorem t_setown {x C dx : Addr} {sl : Array (Option Value)} {es : List DictEntry} {n : Nat} {name : Str} {v : Value} {Q : Unit → GH → LM → Prop} (T : Tp K H) (I : InstG g x C dx sl es n) (hs : findIn K (.ref C) "__setattr__" = some (some (.builtin "object.__setattr__"))) (hp : plainOver K C = true) (ht : takerIn K C name = some none) (hh : hasDictIn K C = true) (hl : (getL name es).isSome = true) (hz : ∀ t, (putL name (PyData.keyHash w.params name) (.str name t) v es).length ≤ 1000)
    (h : ∀ t : Tok, Q () (gset g dx (dictOf (putL name (PyData.keyHash w.params name) (.str name t) v es) (putN name es n))) m) : tri w H O k hd X env (setAttr (.ref x) name v) g m Q :=
  tri_ledU (ι := Tok) (f := fun t => dictOf (putL name (PyData.keyHash w.params name) (.str name t) v es) (putN name es n)) I.di
    (fun A fs base s mL P E a R F0 N hne q => set_dict F0 T.X N (I.at R) rfl hs hp ht hh hl rfl (Upd.head hne) (hz _) fun h' F' N' => q h' _ (s.toks + 1) F' N') h
end
end
noncomputable section
structure Priv (ps : GH) (env : Env) (base g : GH) (h : Heap) : Prop where
  at_ : ∀ a o, ps a = some o → h.get? a = some o
  nb : ∀ a o, ps a = some o → base a = none
  ng : ∀ a o, ps a = some o → g a = none
  nL : ∀ a o, ps a = some o → a ≠ env.locals
  nc : ∀ a o, ps a = some o → ∀ x, env.cells.lookup x ≠ some a
def addB (base ps : GH) : GH := fun a => match ps a with | some o => some o | none => base a
section
variable {α β : Type} {w : World} {H : Heap} {O : OsState} {k : Nat} {hd : Option Value} {X : ExcP} {env : Env} {g : GH} {m : LM} {K : Frag} {fs : List Addr} {base ps : GH} {s : Shared} {A : Around}
theorem addB_ps {a : Addr} {o : Obj} (e : ps a = some o) : addB base ps a = some o := by simp [addB, e]
theorem addB_base {a : Addr} (e : ps a = none) : addB base ps a = base a := by simp [addB, e]
theorem of_addB {a : Addr} {o : Obj} (e : addB base ps a = some o) : ps a = some o ∨ (ps a = none ∧ base a = some o) := by
  unfold addB at e
  cases q : ps a with
  | none => rw [q] at e; exact .inr ⟨rfl, e⟩
  | some x => rw [q] at e; exact .inl e
theorem AOk.fs_in (a : AOk H k hd fs env base A) {b : Addr} (hb : b ∈ fs) : b = env.locals ∨ ∃ o, base b = some o := by
  refine el_eaaa a.fr fun fr _ yy1 h3 _ => ?_
  obtain rfl := yy1
  refine el_ea (List.mem_filterMap.mp hb) fun e he hf => ?_
  refine el_aea (h3 e he) fun _ L hL q => ?_
  rw [hf] at hL; cases hL
  rcases q with rfl | ⟨o, _, _, q, _⟩
  · exact .inl rfl
  · exact .inr ⟨o, q⟩
theorem AOk.add (a : AOk H k hd fs env base A) (P : Priv ps env base g s.heap) : AOk H k hd fs env (addB base ps) A := by
  refine el_eaaa a.fr fun fr h1 h2 h3 h4 => ?_
  have hn : ∀ L o, base L = some o → addB base ps L = some o := fun L o b => by
    cases z : ps L with
    | none => rw [addB_base z]; exact b
    | some o' => rw [P.nb L o' z] at b; cases b
  refine ⟨a.depth, a.units, a.hdl, a.up, by obtain ⟨Lf, x, y⟩ := a.ff; exact ⟨Lf, x, y.imp id fun ⟨o, q⟩ => ⟨o, hn _ _ q⟩⟩, fr, h1, h2, fun e he => ?_, h4⟩
  refine el_aea (h3 e he) fun x L hL q => ?_
  refine ⟨x, L, hL, q.imp id fun ⟨o, es, n, b, d⟩ => ⟨o, es, n, hn _ _ b, d⟩⟩
theorem Rep.add (R : Rep H O fs base g s) (a : AOk H k hd fs env base A) (P : Priv ps env base g s.heap) : Rep H O fs (addB base ps) g s := by
  refine ⟨fun b o e => ?_, fun b o e => ?_, R.kg, fun b o e => ?_, R.gens, R.os⟩
  · obtain ⟨x, y⟩ := R.top b o e
    cases z : ps b with
    | none => exact ⟨by rw [addB_base z]; exact x, y⟩
    | some o' => rw [P.nb b o' z] at x; cases x
  · rcases of_addB e with q | ⟨_, q⟩
    · exact ⟨o.slots, P.at_ b o q, fun _ => rfl⟩
    · exact R.kb b o q
  · rcases of_addB e with q | ⟨_, q⟩
    · exact P.ng b o q
    · exact R.dj b o q
theorem Rep.unadd {g' : GH} {s' : Shared} (R : Rep H O fs base g s) (a : AOk H k hd fs env base A) (P : Priv ps env base g s.heap) (R' : Rep H O fs (addB base ps) g' s') : Rep H O fs base g' s' ∧ ∀ b o, ps b = some o → s'.heap.get? b = some o ∧ g' b = none := by
  have hb : ∀ b o, base b = some o → ps b = none := fun b o e => by
    cases z : ps b with
    | none => rfl
    | some o' => rw [P.nb b o' z] at e; cases e
  refine ⟨⟨R.top, fun b o e => R'.kb b o (by rw [addB_base (hb b o e)]; exact e), R'.kg, fun b o e => R'.dj b o (by rw [addB_base (hb b o e)]; exact e), R'.gens, R'.os⟩, fun b o e => ⟨?_, R'.dj b o (addB_ps e)⟩⟩
  refine el_ea (R'.kb b o (addB_ps e)) fun sl q z => ?_
  have : b ∉ fs := fun y => by
    rcases a.fs_in y with q | ⟨o', q⟩
    · exact P.nL b o e q
    · rw [P.nb b o e] at q; cases q
  rw [q, z this]
theorem Frm.add {h : Heap} (F : Frm env m base g h) (P : Priv ps env base g h) : Frm env m (addB base ps) g h := by
  have hn : ∀ a, (∀ o, ps a ≠ some o) → addB base ps a = base a := fun a q => addB_base (by cases z : ps a with | none => rfl | some o => exact absurd z (q o))
  exact ⟨F.ns, by rw [hn _ fun o q => P.nL _ _ q rfl]; exact F.lb, F.lg, F.cell, F.inj, F.ck, fun e x c q z => by rw [hn _ fun o q' => P.nc _ _ q' x q]; exact F.own e x c q z⟩
theorem Frm.unadd {h h' : Heap} {g' : GH} {m' : LM} (P : Priv ps env base g h) (F' : Frm env m' (addB base ps) g' h') : Frm env m' base g' h' := by
  have hn : ∀ a, (∀ o, ps a ≠ some o) → addB base ps a = base a := fun a q => addB_base (by cases z : ps a with | none => rfl | some o => exact absurd z (q o))
  exact ⟨F'.ns, by have := F'.lb; rw [hn _ fun o q => P.nL _ _ q rfl] at this; exact this, F'.lg, F'.cell, F'.inj, F'.ck, fun e x c q z => by have := F'.own e x c q z; rw [hn _ fun o q' => P.nc _ _ q' x q] at this; exact this⟩
theorem tri.hold {t : Sem α} {Q : α → GH → LM → Prop} (h : tri w H O k hd X env t g m Q) (hX : ∀ fs base g' m' e h', X fs (addB base ps) g' m' e h' → X fs base g' m' e h') (a : AOk H k hd fs env base A) (R : Rep H O fs base g s) (F : Frm env m base g s.heap) (P : Priv ps env base g s.heap) :
    wpAny (model P0 w) A t (fun v s' => ∃ g' m', Rep H O fs base g' s' ∧ Frm env m' base g' s'.heap ∧ Priv ps env base g' s'.heap ∧ Q v g' m')
      (fun e s' => ∃ g' m', Rep H O fs base g' s' ∧ Frm env m' base g' s'.heap ∧ X fs base g' m' e s'.heap) s := by
  refine wpAny_mono (h.run A fs _ s (a.add P) (R.add a P) (F.add P)) (fun v s' ⟨g', m', R', F', q⟩ => ?_) fun e s' ⟨g', m', R', F', q⟩ => ?_
  · obtain ⟨R1, k1⟩ := R.unadd a P R'
    exact ⟨g', m', R1, F'.unadd P, ⟨fun b o e => (k1 b o e).1, P.nb, fun b o e => (k1 b o e).2, P.nL, P.nc⟩, q⟩
  · obtain ⟨R1, _⟩ := R.unadd a P R'
    exact ⟨g', m', R1, F'.unadd P, hX _ _ _ _ _ _ q⟩
theorem tri.weak {t : Sem α} {Q : α → GH → LM → Prop} (h : tri w H O k hd noX env t g m Q) : tri w H O k hd X env t g m Q := .mk fun A fs base s a R F => wpAny_mono (h.run A fs base s a R F) (fun _ _ q => q) fun _ _ ⟨_, _, _, _, q⟩ => q.elim
theorem t_mcall {o : Expr} {name : Str} {apos pos : Pos} {es : List Expr} {Q : Value → GH → LM → Prop} (hb : attributeBase o name env (eval o env) = eval o env) (hp : (es.all fun e => match e with | .Starred .. => false | _ => true) = true) (hl : decide (es.length < 30) = true) (hpos : (apos.endLine == pos.line) = true)
    (h : tri w H O k hd X env (eval o env) g m fun ov g₁ m₁ => tri w H O k hd X env (getMethod ov name (do return (← importBound o env).getD true)) g₁ m₁ fun fv g₂ m₂ => tri w H O k hd X env (callWith pos fv.1 fv.2 (backTo pos (starEach es env)) []) g₂ m₂ Q) : tri w H O k hd X env (eval (.Call (.Attribute o name apos) es [] pos) env) g m Q := by
  refine tri_eq (arm_eval_Call o name apos es [] pos env) ?_
  rw [hb]
  refine tri_bind (tri_mono h fun ov g₁ m₁ q => tri_bind (tri_standAt ?_))
  have hf : methodCallForm (es.length + 0) (backTo pos (starEach es env)) (backToKw pos (keywordEach [] env)) = true := by
    unfold methodCallForm
    have := spliced_plain (env := env) (pos := pos) hp
    have h1 : ((backTo pos (starEach es env)).all fun x => !x.1) = true := by
      rw [List.all_eq_true]; intro x hx
      have := (List.any_eq_false.mp this) x hx
      simpa using this
    rw [h1, arm_keywordEach_nil]
    simpa [backToKw] using hl
  unfold methodCall
  rw [show es.length + ([] : List Keyword).length = es.length + 0 from rfl, hf]
  refine tri_bind (tri_holding ?_)
  show tri w H O k hd X env (getMethod ov name (do return (← importBound o env).getD true)) g₁ m₁ _
  refine tri_mono q fun fv g₂ m₂ q => ?_
  obtain ⟨f, first⟩ := fv
  refine tri_bind ?_
  unfold methodCallPos
  rw [hpos]
  exact tri_pure q
theorem t_meth {x C dx f : Addr} {sl : Array (Option Value)} {es : List DictEntry} {n : Nat} {name : Str} {pl : Sem Bool} {Q : Value × List Value → GH → LM → Prop} (T : Tp K H) (I : InstG g x C dx sl es n) (hg : plainGet K C name = true) (hf : findIn K (.ref C) name = some (some (.ref f))) (ht : isFn K (.ref f) = true) (hl : getL name es = some none) (h : Q (.ref f, [.ref x]) g m) :
    tri w H O k hd X env (getMethod (.ref x) name pl) g m Q := by
  refine .mk fun A fs base s a R F => ?_
  refine el_ea (F.fr a R) fun mL Fr0 _ => ?_
  exact method_inst Fr0 T.X (I.at R) hg hf ht hl ⟨g, m, R, F, h⟩
end
end
noncomputable section
def LoopQ (J : GH → LM → Prop) (Q : Flow → GH → LM → Prop) : Flow → GH → LM → Prop := fun f g m => match f with
  | .next | .cont => J g m
  | .brk => Q .next g m
  | .ret v => Q (.ret v) g m
section
variable {α β : Type} {w : World} {H : Heap} {O : OsState} {k : Nat} {hd : Option Value} {X : ExcP} {env : Env} {g : GH} {m : LM} {K : Frag} {fs : List Addr} {base ps : GH} {s : Shared} {A : Around}
def PrivA (wr : List Addr) (env : Env) (base g : GH) (h : Heap) : Prop := ∀ b ∈ wr, (∃ o, h.get? b = some o) ∧ base b = none ∧ g b = none ∧ b ≠ env.locals ∧ ∀ x, env.cells.lookup x ≠ some b
theorem PrivA.priv {wr : List Addr} {h : Heap} (P : PrivA wr env base g h) : Priv (fun a => if a ∈ wr then h.get? a else none) env base g h := by
  refine ⟨fun a o e => ?_, fun a o e => ?_, fun a o e => ?_, fun a o e => ?_, fun a o e => ?_⟩ <;> (split at e <;> first | cases e | rename_i q)
  · exact e
  · exact (P a q).2.1
  · exact (P a q).2.2.1
  · exact (P a q).2.2.2.1
  · exact (P a q).2.2.2.2
theorem PrivA.back {wr : List Addr} {h h' : Heap} {g' : GH} (P : PrivA wr env base g h) (P' : Priv (fun a => if a ∈ wr then h.get? a else none) env base g' h') : PrivA wr env base g' h' ∧ ∀ b ∈ wr, ∀ o, h.get? b = some o → h'.get? b = some o := by
  have e : ∀ b ∈ wr, ∀ o, h.get? b = some o → (fun a => if a ∈ wr then h.get? a else none) b = some o := fun b hb o q => by simp [hb, q]
  refine ⟨fun b hb => ?_, fun b hb o q => P'.at_ b o (e b hb o q)⟩
  refine el_aaaa (P b hb) fun yy1 x1 x2 x3 x4 => ?_
  obtain ⟨o, q⟩ := yy1
  exact ⟨⟨o, P'.at_ b o (e b hb o q)⟩, x1, P'.ng b o (e b hb o q), x3, x4⟩
theorem Rep.iter {wr : List Addr} {h' : Heap} (R : Rep H O fs base g s) (P : PrivA wr env base g s.heap) (hk : ∀ b o, b ∉ wr → s.heap.get? b = some o → h'.get? b = some o) (tk : Nat) : Rep H O fs base g { s with heap := h', toks := tk } := by
  refine ⟨R.top, fun b o e => by obtain ⟨sl, q, z⟩ := R.kb b o e; exact ⟨sl, hk _ _ (fun y => by rw [(P b y).2.1] at e; cases e) q, z⟩, fun b o e => hk _ _ (fun y => by rw [(P b y).2.2.1] at e; cases e) (R.kg b o e), R.dj, R.gens, R.os⟩
theorem Frm.iter {wr : List Addr} {h h' : Heap} (F : Frm env m base g h) (P : PrivA wr env base g h) (hk : ∀ b o, b ∉ wr → h.get? b = some o → h'.get? b = some o) : Frm env m base g h' := by
  refine el_eeeaaa F.ns fun o es n a' b c d => ?_
  refine ⟨⟨_, es, n, hk _ _ (fun y => (P _ y).2.2.2.1 rfl) a', b, c, d⟩, F.lb, F.lg, fun x c' e => ?_, F.inj, F.ck, F.own⟩
  refine el_aa (F.cell x c' e) fun yy2 w1 w2 => ?_
  obtain ⟨o', q, z⟩ := yy2
  exact ⟨⟨o', hk _ _ (fun y => (P _ y).2.2.2.2 x e) q, z⟩, w1, w2⟩
theorem noX_add {fs : List Addr} {base ps g' : GH} {m' : LM} {e : Value} {h' : Heap} : noX fs (addB base ps) g' m' e h' → noX fs base g' m' e h' := fun q => q.elim
theorem get_size_none (h : Heap) : h.get? h.objs.size = none := by
  cases q : h.get? h.objs.size with
  | none => rfl
  | some o => exact absurd (Heap.lt_size q) (Nat.lt_irrefl _)
theorem get_ge_none {h : Heap} {b : Addr} (hb : h.objs.size ≤ b) : h.get? b = none := by
  cases q : h.get? b with
  | none => rfl
  | some o => exact absurd (Heap.lt_size q) (Nat.not_lt.mpr hb)
theorem Rep.publish {a : Addr} {o : Obj} (R : Rep H O fs base g s) (hb : base a = none) (ho : s.heap.get? a = some o) : Rep H O fs base (gset g a o) s := by
  refine ⟨R.top, R.kb, fun b ob e => ?_, fun b ob e => ?_, R.gens, R.os⟩
  · by_cases q : b = a
    · subst q; rw [gset_self] at e; cases e; exact ho
    · rw [gset_ne q] at e; exact R.kg b ob e
  · rw [gset_ne (fun q => by rw [q, hb] at e; cases e)]; exact R.dj b ob e
theorem Frm.publish {a : Addr} {o : Obj} {h : Heap} (F : Frm env m base g h) (hL : a ≠ env.locals) (hc : ∀ x, env.cells.lookup x ≠ some a) : Frm env m base (gset g a o) h :=
  ⟨F.ns, F.lb, by rw [gset_ne (Ne.symm hL)]; exact F.lg, fun x c e => by obtain ⟨x1, x2, x3⟩ := F.cell x c e; exact ⟨x1, by rw [gset_ne (fun q : c = a => hc x (q ▸ e))]; exact x2, x3⟩, F.inj, F.ck, F.own⟩
theorem fresh_priv {b : Addr} (R : Rep H O fs base g s) (F : Frm env m base g s.heap) (hn : s.heap.get? b = none) : base b = none ∧ g b = none ∧ b ≠ env.locals ∧ ∀ x, env.cells.lookup x ≠ some b := by
  refine ⟨R.none_base hn, R.none_g hn, fun q => ?_, fun x q => ?_⟩
  · obtain ⟨o, e⟩ := F.Ls; rw [← q, hn] at e; cases e
  · obtain ⟨⟨o, e, _⟩, _⟩ := F.cell x _ q; rw [hn] at e; cases e
def Sub (g' g : GH) : Prop := ∀ a o, g' a = some o → g a = some o
theorem Sub.none {g' g : GH} (h : Sub g' g) {a : Addr} (e : g a = none) : g' a = none := by
  cases q : g' a with
  | none => rfl
  | some o => rw [h a o q] at e; cases e
theorem Rep.less {g' : GH} (R : Rep H O fs base g s) (h : Sub g' g) : Rep H O fs base g' s := ⟨R.top, R.kb, fun a o e => R.kg a o (h a o e), fun a o e => h.none (R.dj a o e), R.gens, R.os⟩
theorem Frm.less {g' : GH} {h : Heap} (F : Frm env m base g h) (hs : Sub g' g) : Frm env m base g' h := ⟨F.ns, F.lb, hs.none F.lg, fun x c e => by obtain ⟨x1, x2, x3⟩ := F.cell x c e; exact ⟨x1, hs.none x2, x3⟩, F.inj, F.ck, F.own⟩
theorem pub_priv {b : Addr} {o : Obj} {h : Heap} (R : Rep H O fs base g s) (F : Frm env m base g h) (e : g b = some o) : base b = none ∧ b ≠ env.locals ∧ ∀ x, env.cells.lookup x ≠ some b :=
  ⟨R.g_base e, fun q => absurd (q ▸ F.lg : g b = none) (by rw [e]; exact fun z => nomatch z), fun x q => absurd (F.cell x b q).2.1 (by rw [e]; exact fun z => nomatch z)⟩
theorem tri.frame {t : Sem α} {D : Addr} {o : Obj} {Q : α → GH → LM → Prop} (h : tri w H O k hd noX env t g m Q) (hD : g D = none) : tri w H O k hd X env t (gset g D o) m fun v g' m' => ∃ g₀, g' = gset g₀ D o ∧ g₀ D = none ∧ Q v g₀ m' := by
  refine .mk fun A fs base s a R F => ?_
  have sub : Sub g (gset g D o) := fun b ob e => by rw [gset_ne (fun q => by rw [q, hD] at e; cases e)]; exact e
  have ho := R.kg D o gset_self
  refine el_aa (pub_priv R F (b := D) (o := o) gset_self) fun b1 b2 b3 => ?_
  have P : Priv (fun a => if a = D then some o else none) env base g s.heap := by
    refine ⟨fun a o' e => ?_, fun a o' e => ?_, fun a o' e => ?_, fun a o' e => ?_, fun a o' e => ?_⟩ <;> (split at e <;> first | (cases e; rename_i q; subst q) | cases e)
    · exact ho
    · exact b1
    · exact hD
    · exact b2
    · exact b3
  refine wpAny_mono (h.hold (fun _ _ _ _ _ _ q => q.elim) a (R.less sub) (F.less sub) P) (fun v s' ⟨g', m', R', F', P', q⟩ => ?_) fun _ _ ⟨_, _, _, _, q⟩ => q.elim
  exact ⟨_, m', R'.publish b1 (P'.at_ D o (if_pos rfl)), F'.publish b2 b3, g', rfl, P'.ng D o (if_pos rfl), q⟩
def gnew (g : GH) : Option (Addr × Obj) → GH
  | some p => gset g p.1 p.2
  | none => g
structure Turns (w : World) (H : Heap) (O : OsState) (target : Expr) (I : Addr) (wr : List Addr) (n : Nat) (Nx : Nat → Value → Option (Addr × Obj) → Prop) (It : Nat → Heap → Prop) (Src : GH → Prop) : Prop where
  itk : ∀ i h h', It i h → (∀ b ∈ wr, ∀ o, h.get? b = some o → h'.get? b = some o) → It i h'
  hal : ∀ i h, It i h → ∀ b ∈ wr, ∃ o, h.get? b = some o
  item : ∀ (A : Around) fs base g s i (Q : Option Value → Shared → Prop) (E : Value → Shared → Prop), A.handled = none → i < n → Rep H O fs base g s → Src g → It i s.heap →
    (∀ v s₁, (∀ (Z : Unit → Shared → Prop) (E' : Value → Shared → Prop), (∀ new h' tk, Nx i v new → It (i + 1) h' → (∀ b o, b ∉ wr → s.heap.get? b = some o → h'.get? b = some o) → (∀ p, new = some p → s.heap.get? p.1 = none ∧ p.1 ∉ wr ∧ h'.get? p.1 = some p.2) → Z () { s with heap := h', toks := tk }) → wpAny (model P0 w) A (letOwnedTupleGo target (.ref I) v) Z E' s₁) → Q (some v) s₁) → wpAny (model P0 w) A (pyNext (.ref I)) Q E s
  done : ∀ (A : Around) fs base g s (Q : Option Value → Shared → Prop) (E : Value → Shared → Prop), A.handled = none → Rep H O fs base g s → Src g → It n s.heap →
    (∀ h' tk, (∀ b o, b ∉ wr → s.heap.get? b = some o → h'.get? b = some o) → Q none { s with heap := h', toks := tk }) → wpAny (model P0 w) A (pyNext (.ref I)) Q E s
  self : ∀ (A : Around) i s (Q : Value → Shared → Prop) (E : Value → Shared → Prop), It i s.heap → Q (.ref I) s → wpAny (model P0 w) A (pyIter (.ref I)) Q E s
def Starts (w : World) (H : Heap) (O : OsState) (target : Expr) (x : Value) (g g' : GH) (n : Nat) (Nx : Nat → Value → Option (Addr × Obj) → Prop) (Src : GH → Prop) : Prop :=
  Sub g' g ∧ ∀ (A : Around) fs base s (Q : Value → Shared → Prop) (E : Value → Shared → Prop), Rep H O fs base g s →
    (∀ I wr It h', Turns w H O target I wr n Nx It Src → It 0 h' → Grows s.heap h' → (∀ b ∈ wr, s.heap.get? b = none ∨ (g' b = none ∧ ∃ o, g b = some o)) → Q (.ref I) { s with heap := h' }) → wpAny (model P0 w) A (pyIter x) Q E s
theorem wr_priv {wr : List Addr} {g' : GH} {h' : Heap} (hs : Sub g' g) (R : Rep H O fs base g s) (F : Frm env m base g s.heap) (hal : ∀ b ∈ wr, ∃ o, h'.get? b = some o) (hw : ∀ b ∈ wr, s.heap.get? b = none ∨ (g' b = none ∧ ∃ o, g b = some o)) : PrivA wr env base g' h' := fun b hb => by
  refine ⟨hal b hb, ?_⟩
  rcases hw b hb with q | ⟨q, o, e⟩
  · obtain ⟨x1, x2, x3⟩ := fresh_priv R F q; exact ⟨x1, hs.none x2, x3⟩
  · obtain ⟨x1, x2, x3⟩ := pub_priv R F e; exact ⟨x1, q, x2, x3⟩
theorem turn_ok {wr : List Addr} {h' : Heap} {new : Option (Addr × Obj)} (R : Rep H O fs base g s) (F : Frm env m base g s.heap) (P : PrivA wr env base g s.heap) (hal : ∀ b ∈ wr, ∃ o, h'.get? b = some o) (hk : ∀ b o, b ∉ wr → s.heap.get? b = some o → h'.get? b = some o) (hn : ∀ p, new = some p → s.heap.get? p.1 = none ∧ p.1 ∉ wr ∧ h'.get? p.1 = some p.2) (tk : Nat) :
    Rep H O fs base (gnew g new) { s with heap := h', toks := tk } ∧ Frm env m base (gnew g new) h' ∧ PrivA wr env base (gnew g new) h' ∧ ∀ p, new = some p → g p.1 = none := by
  have R1 := R.iter P hk tk
  have F1 := F.iter P hk
  have P1 : PrivA wr env base g h' := fun b hb => ⟨hal b hb, (P b hb).2⟩
  cases new with
  | none => exact ⟨R1, F1, P1, fun _ e => nomatch e⟩
  | some p =>
    refine el_aa (hn p rfl) fun n1 n2 n3 => ?_
    refine el_aaa (fresh_priv R F n1) fun x1 x2 x3 x4 => ?_
    refine ⟨R1.publish x1 n3, F1.publish x3 x4, fun b hb => ⟨(P1 b hb).1, (P1 b hb).2.1, ?_, (P1 b hb).2.2.2⟩, fun q e => by cases e; exact x2⟩
    show gset g p.1 p.2 b = none
    rw [gset_ne (fun q : b = p.1 => n2 (q ▸ hb))]; exact (P1 b hb).2.2.1
end
end
noncomputable section
def forOver (env : Env) (target : Expr) (body orelse : List Stmt) (x : Value) : Sem Flow := do runOwn (.forLoop target (← holding [x] (pyIter x)) body orelse env) env
section
variable {α β : Type} {w : World} {H : Heap} {O : OsState} {k : Nat} {hd : Option Value} {X : ExcP} {env : Env} {g : GH} {m : LM} {K : Frag} {target : Expr} {body orelse : List Stmt} {Q : Flow → GH → LM → Prop}
theorem t_for {iter : Expr} {pos : Pos} (hf : ∀ x, foldedSetIterable iter env x = pure x) (h : tri w H O k hd X env (eval iter env) g m fun x g₁ m₁ => tri w H O k hd X env (forOver env target body orelse x) g₁ m₁ Q) : tri w H O k hd X env (exec (.For target iter body orelse pos) env) g m Q := by
  refine tri_eq (arm_exec_For target iter body orelse pos env) (tri_bind (tri_standAt (tri_bind (tri_mono h fun x g₁ m₁ q => tri_bind ?_))))
  rw [hf]
  exact tri_pure (tri_bind (tri_standAt q))
theorem Starts.mk1 {x : Value} {fp : Addr → List Addr} {n : Nat} {P : Nat → Value → Prop} {It : Addr → Nat → Heap → Prop} {SrcH : Heap → Prop} {Src : GH → Prop} {ob : Obj} (avoid : List Addr) (hav : ∀ b ∈ avoid, (∃ o, g b = some o) ∨ ∃ o, H.get? b = some o)
    (hit : ∀ A fs base s (Pq : Value → Shared → Prop) (E : Value → Shared → Prop), Rep H O fs base g s → Pq (.ref s.heap.objs.size) { s with heap := s.heap.push ob } → wpAny (model P0 w) A (pyIter x) Pq E s) (hfree : ob.isFreed = false)
    (W : ∀ I (A : Around), A.handled = none → I ∉ avoid → Walks P0 w A I (fp I) [I] n P (fun i h => It I i h ∧ SrcH h)) (hI0 : ∀ I h, h.get? I = some ob → It I 0 h) (hIt : ∀ I i h h', It I i h → (∀ o, h.get? I = some o → h'.get? I = some o) → It I i h') (hal : ∀ I i h, It I i h → ∃ o, h.get? I = some o)
    (hsrc : ∀ g, Src g → ∀ fs base s, Rep H O fs base g s → SrcH s.heap) (hlet : ∀ I A i v s (Z : Unit → Shared → Prop) (E : Value → Shared → Prop), It I i s.heap → Z () s → wpAny (model P0 w) A (letOwnedTupleGo target (.ref I) v) Z E s)
    (hself : ∀ I A i s (Q : Value → Shared → Prop) (E : Value → Shared → Prop), It I i s.heap → Q (.ref I) s → wpAny (model P0 w) A (pyIter (.ref I)) Q E s) : Starts w H O target x g g n (fun i v new => P i v ∧ new = none) Src := by
  refine ⟨fun _ _ e => e, fun A fs base s Q E R hQ => hit A fs base s _ _ R ?_⟩
  have hn := get_size_none s.heap
  have hob := Heap.get?_push_size s.heap hfree
  have hnav : s.heap.objs.size ∉ avoid := fun q => by
    rcases hav _ q with ⟨o, e⟩ | ⟨o, e⟩
    · rw [R.kg _ _ e] at hn; cases hn
    · rw [R.topIn _ _ e] at hn; cases hn
  refine hQ _ [s.heap.objs.size] (It s.heap.objs.size) _ ⟨fun i h h' q kk => hIt _ i h h' q (kk _ (.head _)), fun i h q b hb => by rw [List.mem_singleton.mp hb]; exact hal _ i h q, ?_, ?_, fun A i s Q E q z => hself _ A i s Q E q z⟩ (hI0 _ _ hob) (fun b o e => Heap.get?_push_of_some _ e) (fun b hb => .inl (by rw [List.mem_singleton.mp hb]; exact hn))
  · intro A fs base g s' i Q E hA hi R hS hI hQ
    exact (W _ A hA hnav).item i s' _ _ hi ⟨hI, hsrc g hS fs base s' R⟩ fun v h' tk hv hst hk => hQ v _ fun Z E' hz => hlet _ A _ v _ Z E' hst.1 (hz none h' tk ⟨hv, rfl⟩ hst.1 hk fun _ e => nomatch e)
  · intro A fs base g s' Q E hA R hS hI hQ
    exact (W _ A hA hnav).done s' _ _ ⟨hI, hsrc g hS fs base s' R⟩ hQ
theorem let_other {A : Around} {s : Shared} {it : Addr} {o : Obj} {vs : Array Value} {T : String} {v : Value} {Z : Unit → Shared → Prop} {E : Value → Shared → Prop} (ho : s.heap.get? it = some o ∧ o.cls = .type T ∧ o.data = .fields vs)
    (hT : (["enumerate", "zip", "dict_itemiterator", "dict_reverseitemiterator", "odict_iterator", "itertools.zip_longest", "itertools.pairwise"].contains T) = false) (h : Z () s) : wpAny (model P0 w) A (letOwnedTupleGo target (.ref it) v) Z E s := by
  obtain ⟨e, hc, hd'⟩ := ho
  have go : ∀ (elts : List Expr), wpAny (model P0 w) A (do
      let (.ref r, .ref a) := ((Value.ref it), v) | return
      let o ← load r
      match o.cls, o.data with
      | .type n, .fields vs =>
        if ["enumerate", "zip", "dict_itemiterator", "dict_reverseitemiterator", "odict_iterator", "itertools.zip_longest", "itertools.pairwise"].contains n && vs[0]? == some (rawInt a) then
          rule "for.unpacks-the-owned-tuple"
          updateField r 0 .none
      | _, _ => pure ()) Z E s := fun elts => by
    cases v <;> first | exact wpAny_pure h | skip
    refine wpAny_bind (wpAny_load e ?_)
    rw [hc, hd']
    dsimp only
    rw [hT]
    exact wpAny_pure h
  cases target <;> first | exact wpAny_pure h | exact go []
theorem walks_conv {A : Around} {I : Addr} {fp wr : List Addr} {n : Nat} {P P' : Nat → Value → Prop} {St St' : Nat → Heap → Prop} (W : Walks P0 w A I fp wr n P St) (h : ∀ i v, P i v → P' i v) (a : ∀ i h, St' i h → St i h) (b : ∀ i h, St i h → St' i h) : Walks P0 w A I fp wr n P' St' :=
  ⟨W.sub, fun i h h' x y => b _ _ (W.frame i h h' (a _ _ x) y), fun i s Q E hi x q => W.item i s Q E hi (a _ _ x) fun v h' tk hp hs hk => q v h' tk (h _ _ hp) (b _ _ hs) hk, fun s Q E x q => W.done s Q E (a _ _ x) q, fun i s Q E x q => W.self i s Q E (a _ _ x) q⟩
theorem Starts.list {l : Addr} {items : List Value} (hl : IsL g l items) : Starts w H O target (.ref l) g g items.length (fun i v new => items[i]? = some v ∧ new = none) (fun g => IsL g l items) := by
  refine Starts.mk1 (It := fun I i h => h.IsListIter I l i) (SrcH := fun h => h.IsList l items.toArray) (fp := fun I => [I, l]) [l] (fun b hb => ?_) (fun A fs base s Pq E R q => wpAny_pyIter_list (hl.at R) q) rfl (fun I A hA hI => ?_)
    (fun I h e => ⟨_, e, rfl, rfl⟩) (fun I i h h' q kk => q.at kk) (fun I i h ⟨o, e, _⟩ => ⟨o, e⟩) (fun g q fs base s R => q.at R) (fun I A i v s Z E q z => by obtain ⟨o, a, b, c⟩ := q; exact let_other ⟨a, b, c⟩ (by decide) z) (fun I A i s Q E q z => wpAny_pyIter_listiter q z)
  · rw [List.mem_singleton.mp hb]; obtain ⟨n, e⟩ := hl; exact .inl ⟨_, e⟩
  · have := Walks.list (prog := P0) (w := w) hA I l (fun q => hI (by rw [q]; exact .head _)) items.toArray
    simpa using this
def IsT' (H : Heap) (g : GH) (a : Addr) (items : List Value) : Prop := IsT g a items ∨ IsTup H a items.toArray
theorem IsT'.at {a : Addr} {items : List Value} {fs : List Addr} {base : GH} {s : Shared} (h : IsT' H g a items) (R : Rep H O fs base g s) : IsTup s.heap a items.toArray := h.elim (fun h => h.at R) fun ⟨o, e, q⟩ => ⟨o, R.topIn _ _ e, q⟩
theorem Starts.tuple {l : Addr} {items : List Value} (hl : IsT' H g l items) : Starts w H O target (.ref l) g g items.length (fun i v new => items[i]? = some v ∧ new = none) (fun g => IsT' H g l items) := by
  refine Starts.mk1 (It := fun I i h => h.IsTupleIter I l i) (SrcH := fun h => h.IsTuple l items.toArray) (fp := fun I => [I, l]) [l] (fun b hb => ?_) (fun A fs base s Pq E R q => wpAny_pyIter_tuple (hl.at R) q) rfl (fun I A hA hI => ?_)
    (fun I h e => ⟨_, e, rfl, rfl⟩) (fun I i h h' ⟨o, e, q⟩ kk => ⟨o, kk o e, q⟩) (fun I i h ⟨o, e, _⟩ => ⟨o, e⟩) (fun g q fs base s R => q.at R) (fun I A i v s Z E q z => by obtain ⟨o, a, b, c⟩ := q; exact let_other ⟨a, b, c⟩ (by decide) z) (fun I A i s Q E q z => wpAny_pyIter_tupleiter q z)
  · rw [List.mem_singleton.mp hb]; exact hl.imp (fun ⟨o, n, e, _⟩ => ⟨_, e⟩) fun ⟨o, e, _⟩ => ⟨_, e⟩
  · have := Walks.tuple (prog := P0) (w := w) hA I l (fun q => hI (by rw [q]; exact .head _)) items.toArray
    simpa using this
def IsR (g : GH) (r : Addr) (n : Nat) : Prop := ∃ t u v, g r = some { cls := .type "range", data := .fields #[.int 0 t, .int n u, .int 1 v] }
theorem Starts.range {r : Addr} {n : Nat} (hr : IsR g r n) (hn : n ≤ 100000) : Starts w H O target (.ref r) g g n (fun i v new => (∃ t, v = .int i t) ∧ new = none) (fun _ => True) := by
  obtain ⟨t, u, v, e⟩ := hr
  have hz : Builtin.Range.rangeSize 0 (n : Int) 1 = (n : Int) := by
    have := rangeSize_nat 0 n; simpa using this
  refine Starts.mk1 (It := fun I i h => IsRangeIter h I (0 + (i : Nat) * 1) ((n : Int) - (i : Nat)) 1) (SrcH := fun h => True) (fp := fun I => [I]) [] (fun b hb => nomatch hb) (fun A fs base s Pq E R q => wpAny_pyIter_range (a := 0) (b := n) (c := 1) (R.kg _ _ e) (small_one (by omega) (by omega) (by omega) (by omega)) q) rfl (fun I A hA hI => ?_)
    (fun I h e => by rw [hz] at e; simpa using e) (fun I i h h' q kk => kk _ q) (fun I i h e => ⟨_, e⟩) (fun g q fs base s R => trivial) (fun I A i v s Z E q z => let_other (T := "range_iterator") ⟨q, rfl, rfl⟩ (by decide) z) (fun I A i s Q E q z => wpAny_pyIter_rangeiter q z)
  exact walks_conv (Walks.range (prog := P0) (w := w) hA I 0 1 n) (fun i v ⟨t, e⟩ => ⟨t, by rw [e]; simp⟩) (fun _ _ q => q.1) (fun _ _ q => ⟨q, trivial⟩)
def DKeys (w : World) (kvs : List (Str × Value)) (i : Nat) (v : Value) : Prop := ∃ k x t, kvs[i]? = some (k, x) ∧ v = .str k t
theorem dict_at {d : Addr} {o : Obj} {kvs : List (Str × Value)} {fs : List Addr} {base : GH} {s : Shared} (R : Rep H O fs base g s) (e : g d = some o) {es : Array DictEntry} {ep : Nat} (h : o.ExactDict ∧ o.data = .dict es ep ∧ KeysOf (strKind P0 w) es ∧ Pairs (strKind P0 w) es.toList kvs ∧ (kvs.map (·.1)).Nodup) : s.heap.DictAt (strKind P0 w) d kvs ep := ⟨o, es, R.kg _ _ e, h⟩
theorem Starts.keys {d : Addr} {o : Obj} {kvs : List (Str × Value)} (e : g d = some o) (hd : o.IsDictOf (strKind P0 w) kvs) (lo : (d == sysModules) = false) : Starts w H O target (.ref d) g g kvs.length (fun i v new => DKeys w kvs i v ∧ new = none) (fun g => g d = some o) := by
  obtain ⟨es, ep, hd⟩ := hd
  refine Starts.mk1 (It := fun I i h => h.IsKeyIter I d i kvs.length ep) (SrcH := fun h => h.DictAt (strKind P0 w) d kvs ep) (fp := fun I => [I, d]) [d] (fun b hb => ?_) (fun A fs base s Pq E R q => wpAny_pyIter_dict lo (dict_at R e hd) q) rfl (fun I A hA hI => ?_)
    (fun I h e => ⟨_, e, rfl, rfl⟩) (fun I i h h' q kk => q.at kk) (fun I i h ⟨o, e, _⟩ => ⟨o, e⟩) (fun g q fs base s R => dict_at R q hd) (fun I A i v s Z E q z => by obtain ⟨o, a, b, c⟩ := q; exact let_other ⟨a, b, c⟩ (by decide) z) (fun I A i s Q E q z => wpAny_pyIter_keyiter q z)
  · rw [List.mem_singleton.mp hb]; exact .inl ⟨_, e⟩
  · exact walks_conv (Walks.dictKeys hA I d (fun q => hI (by rw [q]; exact .head _)) kvs ep) (fun i v ⟨k, x, e1, e2⟩ => by obtain ⟨t, e⟩ := Value.isStrOf_shape e2; exact ⟨k, x, t, e1, e⟩) (fun _ _ q => q) (fun _ _ q => q)
theorem Starts.values {d v : Addr} {o : Obj} {kvs : List (Str × Value)} (e : g d = some o) (hd : o.IsDictOf (strKind P0 w) kvs) (hv : g v = some { cls := .type "dict_values", data := .fields #[.ref d] }) : Starts w H O target (.ref v) g g kvs.length (fun i x new => (∃ k, kvs[i]? = some (k, x)) ∧ new = none) (fun g => g d = some o) := by
  obtain ⟨es, ep, hd⟩ := hd
  refine Starts.mk1 (It := fun I i h => h.IsValIter I d i kvs.length ep) (SrcH := fun h => h.DictAt (strKind P0 w) d kvs ep) (fp := fun I => [I, d]) [d] (fun b hb => ?_) (fun A fs base s Pq E R q => wpAny_pyIter_values ⟨_, R.kg _ _ hv, rfl, rfl⟩ (dict_at R e hd) q) rfl (fun I A hA hI => Walks.dictValues hA I d (fun q => hI (by rw [q]; exact .head _)) kvs ep)
    (fun I h e => ⟨_, e, rfl, rfl⟩) (fun I i h h' ⟨o, e, q⟩ kk => ⟨o, kk o e, q⟩) (fun I i h ⟨o, e, _⟩ => ⟨o, e⟩) (fun g q fs base s R => dict_at R q hd) (fun I A i v s Z E q z => by obtain ⟨o, a, b, c⟩ := q; exact let_other ⟨a, b, c⟩ (by decide) z) (fun I A i s Q E q z => wpAny_pyIter_valiter q z)
  rw [List.mem_singleton.mp hb]; exact .inl ⟨_, e⟩
end
end
noncomputable section
noncomputable def clGo (env : Env) : List (Str × NameKind) → List (Str × Addr) → List (Str × Addr)
  | [], acc => acc
  | (n, kd) :: r, acc => if kd == .free then (match env.cells.lookup n with | some c => clGo env r ((n, c) :: acc) | none => clGo env r acc) else clGo env r acc
def compOk (scope : Scope) (env : Env) : Bool :=
  scope.kind == .function && scope.names.all (fun p => p.2 != .cell) && scope.names.all (fun p => p.2 != .local || scope.names.lookup p.1 == some .local) &&
  scope.names.all (fun p => p.2 != .free || ((env.cells.lookup p.1).isSome && scope.names.lookup p.1 == some .free))
theorem clGo_lookup {env : Env} : ∀ (names : List (Str × NameKind)) (acc : List (Str × Addr)), (∀ x c, acc.lookup x = some c → env.cells.lookup x = some c) → ∀ x c, (clGo env names acc).lookup x = some c → env.cells.lookup x = some c
  | [], _, h => h
  | (n, kd) :: r, acc, h => by
    unfold clGo
    split
    · split
      · rename_i c hc
        refine clGo_lookup r _ fun x c' e => ?_
        rw [List.lookup_cons] at e
        cases q : x == n with
        | true => rw [q] at e; cases e; rw [beq_iff_eq.mp q]; exact hc
        | false => rw [q] at e; exact h x c' e
      · exact clGo_lookup r _ h
    · exact clGo_lookup r _ h
theorem clGo_names {env : Env} : ∀ (names : List (Str × NameKind)) (acc : List (Str × Addr)) (x : Str) (c : Addr), (clGo env names acc).lookup x = some c → (x, NameKind.free) ∈ names ∨ acc.lookup x = some c
  | [], _, _, _, h => .inr h
  | (n, kd) :: r, acc, x, c, h => by
    unfold clGo at h
    split at h
    · rename_i hk
      split at h
      · rcases clGo_names r _ x c h with q | q
        · exact .inl (.tail _ q)
        · rw [List.lookup_cons] at q
          cases z : x == n with
          | true => exact .inl (by rw [beq_iff_eq.mp z, ← beq_iff_eq.mp hk]; exact .head _)
          | false => rw [z] at q; exact .inr q
      · exact (clGo_names r _ x c h).imp (.tail _) id
    · exact (clGo_names r _ x c h).imp (.tail _) id
theorem closureFor_eq {scope : Scope} {env : Env} (h : scope.names.all (fun p => p.2 != .free || ((env.cells.lookup p.1).isSome && scope.names.lookup p.1 == some .free)) = true) : closureFor scope env = pure (clGo env scope.names []) := by
  have h' : scope.names.all (fun p => p.2 != .free || (env.cells.lookup p.1).isSome) = true := by
    rw [List.all_eq_true] at h ⊢
    intro p hp
    have := h p hp
    revert this
    cases p.2 != .free with
    | true => exact fun _ => rfl
    | false => rw [Bool.false_or, Bool.false_or, Bool.and_eq_true]; exact fun h => h.1
  unfold closureFor
  show (forIn scope.names [] _ >>= _) = _
  have : ∀ (names : List (Str × NameKind)) (acc : List (Str × Addr)), names.all (fun p => p.2 != .free || (env.cells.lookup p.1).isSome) = true →
      (forIn names acc (fun (x : Str × NameKind) (r : List (Str × Addr)) => if (x.2 == NameKind.free) = true then do let y ← cellOf env x.1; pure (ForInStep.yield ((x.1, y) :: r)) else pure (ForInStep.yield r)) : Sem (List (Str × Addr))) = pure (clGo env names acc) := by
    intro names
    induction names with
    | nil => intro acc _; rfl
    | cons p r ih =>
      obtain ⟨n, kd⟩ := p
      intro acc hh
      obtain ⟨h1, h2⟩ := Bool.and_eq_true_iff.mp (List.all_cons ▸ hh)
      rw [List.forIn_cons]
      unfold clGo
      by_cases hk : (kd == NameKind.free) = true
      · rw [if_pos hk]
        have : (env.cells.lookup n).isSome = true := by
          have : (kd != NameKind.free) = false := by unfold bne; rw [hk]; rfl
          rw [this] at h1; simpa using h1
        obtain ⟨c, hc⟩ := Option.isSome_iff_exists.mp this
        have e : cellOf env n = pure c := by unfold cellOf; rw [hc]
        simp only [hk, if_true, e, hc]
        exact ih _ h2
      · rw [if_neg hk]
        simp only [hk]
        exact ih _ h2
  exact congrArg (· >>= _) (this scope.names [] h')
theorem relabel_free {env : Env} : ∀ {names : List (Str × NameKind)} {x : Str}, names.lookup x = some .free →
    ((names.map fun (n, k) => if (k == NameKind.free && env.scope.kind == .function && env.kindOf n == some .cell) then (n, NameKind.cell) else (n, k)).lookup x = some .cell) ∨ ((names.map fun (n, k) => if (k == NameKind.free && env.scope.kind == .function && env.kindOf n == some .cell) then (n, NameKind.cell) else (n, k)).lookup x = some .free)
  | [], _, h => by simp at h
  | (n, k) :: r, x, h => by
    have ih := @relabel_free env r x
    rw [List.map_cons]
    cases hx : x == n with
    | true =>
      simp only [List.lookup_cons, hx] at h
      cases h
      by_cases hc : (NameKind.free == NameKind.free && env.scope.kind == .function && env.kindOf n == some .cell) = true
      · left; simp only [if_pos hc, List.lookup_cons, hx]
      · right; simp only [if_neg hc, List.lookup_cons, hx]
    | false =>
      simp only [List.lookup_cons, hx] at h
      by_cases hc : (k == NameKind.free && env.scope.kind == .function && env.kindOf n == some .cell) = true
      · simp only [if_pos hc, List.lookup_cons, hx]; exact ih h
      · simp only [if_neg hc, List.lookup_cons, hx]; exact ih h
noncomputable abbrev cE (scope : Scope) (C : Addr) (env : Env) : Env := compEnvC scope (clGo env scope.names []) C env
def restC (ex : List Addr) (g : GH) (h : Heap) : GH := fun a => if a ∈ ex then none else restG g h a
def CAgree (scope : Scope) (env : Env) (m mc : LM) : Prop := ∀ x c, (clGo env scope.names []).lookup x = some c → mc x = m x
section
variable {α β : Type} {w : World} {H : Heap} {O : OsState} {k : Nat} {hd : Option Value} {X : ExcP} {env : Env} {g : GH} {m : LM} {K : Frag} {fs : List Addr} {base ps : GH} {s : Shared} {A : Around} {scope : Scope} {C : Addr} {ex : List Addr}
theorem restC_some {h : Heap} {a : Addr} {o : Obj} (e : h.get? a = some o) (n : g a = none) (hC : a ∉ ex) : restC ex g h a = some o := by unfold restC; rw [if_neg hC]; exact restG_some e n
theorem of_restC {h : Heap} {a : Addr} {o : Obj} (e : restC ex g h a = some o) : g a = none ∧ h.get? a = some o ∧ a ∉ ex := by
  unfold restC at e
  split at e
  · cases e
  · rename_i q; exact ⟨(of_restG e).1, (of_restG e).2, q⟩
theorem compOk.parts (hok : compOk scope env = true) : scope.kind = .function ∧ (∀ p ∈ scope.names, p.2 ≠ .cell) ∧ (∀ p ∈ scope.names, p.2 = .local → scope.names.lookup p.1 = some .local) ∧ scope.names.all (fun p => p.2 != .free || ((env.cells.lookup p.1).isSome && scope.names.lookup p.1 == some .free)) = true := by
  unfold compOk at hok
  simp only [Bool.and_eq_true] at hok
  obtain ⟨⟨⟨a, b⟩, c⟩, d⟩ := hok
  refine ⟨by simpa using a, fun p hp => ?_, fun p hp hl => ?_, by simpa using d⟩
  · have := List.all_eq_true.mp b p hp; simpa using this
  · have := List.all_eq_true.mp c p hp; rw [hl] at this; simpa using this
theorem comp_in {mL : LM} (hok : compOk scope env = true) (a : AOk H k none fs env base A) (R : Rep H O fs base g s) (F : Frm env m base g s.heap) (hC : s.heap.Ns C mL) (hP : PrivA (C :: ex) env base g s.heap) (hCx : C ∉ ex) (hCs : H.objs.size ≤ C) :
    AOk H k none fs (cE scope C env) (restC (C :: ex) g s.heap) A ∧ Rep H O fs (restC (C :: ex) g s.heap) g s ∧ PrivA ex (cE scope C env) (restC (C :: ex) g s.heap) g s.heap ∧ ∃ mc, CAgree scope env m mc ∧ Frm (cE scope C env) mc (restC (C :: ex) g s.heap) g s.heap := by
  refine el_aaa (compOk.parts hok) fun k1 k2 k3 k4 => ?_
  have hin : ∀ b o, s.heap.get? b = some o → g b = none → b ∉ C :: ex → restC (C :: ex) g s.heap b = some o := fun b o e n c => restC_some e n c
  have hL : ∃ o es n, s.heap.get? env.locals = some o ∧ o.data = .dict es n := by obtain ⟨o, es, n, q, d, _⟩ := F.ns; exact ⟨o, es, n, q, d⟩
  have nL : env.locals ∉ C :: ex := fun z => (hP _ z).2.2.2.1 rfl
  have nB : ∀ {b o}, base b = some o → b ∉ C :: ex := fun {b o} e z => by rw [(hP b z).2.1] at e; cases e
  have hCf : env.frame ≠ some C := fun q => by
    refine el_ea a.ff fun Lf e1 e2 => ?_
    rw [e1] at q; cases q
    rcases e2 with e2 | ⟨o, e2⟩
    · exact nL (e2 ▸ .head _)
    · exact nB e2 (.head _)
  have free : ∀ {x c}, (clGo env scope.names []).lookup x = some c → scope.names.lookup x = some .free := fun {x c} e => by
    have hm := (clGo_names scope.names [] x c e).resolve_right (by simp)
    have := List.all_eq_true.mp k4 _ hm
    simp at this; exact this.2
  have nloc : ∀ {x c}, (clGo env scope.names []).lookup x = some c → (cE scope C env).kindOf x ≠ some .local := fun {x c} e q => by
    rcases relabel_free (env := env) (free e) with z | z
    · have q' : ((scope.names.map _).lookup x) = some NameKind.local := q; rw [z] at q'; cases q'
    · have q' : ((scope.names.map _).lookup x) = some NameKind.local := q; rw [z] at q'; cases q'
  refine ⟨?_, ?_, fun b hb => ⟨(hP b (.tail _ hb)).1, if_pos (.tail _ hb), (hP b (.tail _ hb)).2.2.1, fun z => hCx ((show b = C from z) ▸ hb), fun x z => (hP b (.tail _ hb)).2.2.2.2 x (clGo_lookup scope.names [] (by simp) x b z)⟩, fun x => if (cE scope C env).kindOf x = some .local then mL x else m x, fun x c e => if_neg (nloc e), ?_⟩
  · refine el_eaaaa a.fr fun fr h1 h2 h3 _ _ => ?_
    refine ⟨a.depth, a.units, a.hdl, hCs, ?_, fr, h1, h2, fun e he => ?_, fun q => absurd q hCf, k1⟩
    · refine el_ea a.ff fun Lf e1 e2 => ?_
      refine ⟨Lf, e1, .inr ?_⟩
      rcases e2 with rfl | ⟨o, q⟩
      · obtain ⟨o, _, _, q, _⟩ := hL; exact ⟨o, hin _ _ q F.lg nL⟩
      · obtain ⟨sl, q', _⟩ := R.kb _ _ q; exact ⟨_, hin _ _ q' (R.dj _ _ q) (nB q)⟩
    · refine el_aea (h3 e he) fun hk L hL' hb => ?_
      refine ⟨hk, L, hL', .inr ?_⟩
      rcases hb with rfl | ⟨o, es, n, hb, hdd⟩
      · obtain ⟨o, es, n, q, d⟩ := hL; exact ⟨o, es, n, hin _ _ q F.lg nL, d⟩
      · refine el_ea (R.kb L o hb) fun sl q _ => ?_
        exact ⟨_, es, n, hin _ _ q (R.dj L o hb) (nB hb), hdd⟩
  · exact ⟨fun b o e => ⟨hin _ _ (R.topIn b o e) (R.dj b o (R.top b o e).1) (nB (R.top b o e).1), (R.top b o e).2⟩, fun b o e => ⟨o.slots, (of_restC e).2.1, fun _ => rfl⟩, R.kg, fun b o e => (of_restC e).1, R.gens, R.os⟩
  · refine el_eeeaaa hC fun o es n h1 h2 h3 h4 => ?_; clear hC
    refine ⟨⟨o, es, n, h1, h2, h3, fun x hx => by rw [if_pos hx]; exact h4 x⟩, if_pos (.head _), (hP C (.head _)).2.2.1, fun x c e => ?_, fun x y c e1 e2 => ?_, fun x c e => relabel_free (env := env) (free e), fun q => absurd q hCf⟩
    · have e' := clGo_lookup scope.names [] (by simp) x c e
      refine el_aa (F.cell x c e') fun x1 x2 x3 => ?_
      rw [if_neg (nloc e)]
      exact ⟨x1, x2, fun z => (hP C (.head _)).2.2.2.2 x (by rw [e', z]; rfl)⟩
    · exact F.inj x y c (clGo_lookup scope.names [] (by simp) x c e1) (clGo_lookup scope.names [] (by simp) y c e2)
theorem comp_out {g' : GH} {s' : Shared} {mc : LM} (R : Rep H O fs base g s) (F : Frm env m base g s.heap) (hP : PrivA (C :: ex) env base g s.heap)
    (R' : Rep H O fs (restC (C :: ex) g s.heap) g' s') (F' : Frm (cE scope C env) mc (restC (C :: ex) g s.heap) g' s'.heap) :
    Rep H O fs base g' s' ∧ Frm env m base g' s'.heap ∧ (∃ mL, s'.heap.Ns C mL) ∧ PrivA [C] env base g' s'.heap := by
  have hin : ∀ b o, s.heap.get? b = some o → g b = none → b ∉ C :: ex → restC (C :: ex) g s.heap b = some o := fun b o e n c => restC_some e n c
  have nL : env.locals ∉ C :: ex := fun z => (hP _ z).2.2.2.1 rfl
  have nB : ∀ {b o}, base b = some o → b ∉ C :: ex := fun {b o} e z => by rw [(hP b z).2.1] at e; cases e
  have nC : ∃ mL, s'.heap.Ns C mL := by
    refine el_eeeaaa F'.ns fun o es n q1 q2 q3 q4 => ?_
    exact ⟨_, o, es, n, q1, q2, q3, fun _ => rfl⟩
  refine ⟨⟨R.top, fun b o e => ?_, R'.kg, fun b o e => ?_, R'.gens, R'.os⟩, ?_, nC, fun b hb => ?_⟩
  · refine el_ea (R.kb b o e) fun sl q z => ?_
    refine el_ea (R'.kb b _ (hin _ _ q (R.dj b o e) (nB e))) fun sl' q' z' => ?_
    exact ⟨sl', q', fun n => (z' n).trans (z n)⟩
  · refine el_ea (R.kb b o e) fun sl q z => ?_
    exact R'.dj b _ (hin _ _ q (R.dj b o e) (nB e))
  · refine el_eeeaaa F.ns fun o es n q1 q2 q3 q4 => ?_
    refine el_ea (R'.kb _ _ (hin _ _ q1 F.lg nL)) fun sl q _ => ?_
    refine ⟨⟨_, es, n, q, q2, q3, q4⟩, F.lb, R'.dj _ _ (hin _ _ q1 F.lg nL), fun x c e => ?_, F.inj, F.ck, F.own⟩
    refine el_aa (F.cell x c e) fun yy1 z3 z4 => ?_
    obtain ⟨oc, z1, z2⟩ := yy1
    have hc : c ∉ C :: ex := fun z => (hP c z).2.2.2.2 x e
    refine el_ea (R'.kb _ _ (hin _ _ z1 z3 hc)) fun sl' q' _ => ?_
    exact ⟨⟨_, q', z2⟩, R'.dj _ _ (hin _ _ z1 z3 hc), z4⟩
  · rw [List.mem_singleton.mp hb]
    obtain ⟨mL, o, es, n, q, _⟩ := nC
    refine el_aaa (hP C (.head _)) fun _ x1 x2 x3 => ?_
    exact ⟨⟨o, q⟩, x1, F'.lg, x3⟩
end
end
noncomputable section
def testsOf (ifs : List Expr) (env : Env) : Sem Bool := forIn ifs true fun c r => if r = true then do let ok ← isTrue c env (eval c env); pure (ForInStep.yield ok) else pure (ForInStep.yield r)
section
variable {α β : Type} {w : World} {H : Heap} {O : OsState} {k : Nat} {hd : Option Value} {X : ExcP} {env : Env} {g : GH} {m : LM} {K : Frag} {fs : List Addr} {base ps : GH} {s : Shared} {A : Around} {scope : Scope} {C : Addr}
theorem t_tests0 {Q : Bool → GH → LM → Prop} (h : Q true g m) : tri w H O k hd X env (testsOf [] env) g m Q := tri_pure h
theorem t_tests1 {c : Expr} {Q : Bool → GH → LM → Prop} (h : tri w H O k hd X env (isTrue c env (eval c env)) g m Q) : tri w H O k hd X env (testsOf [c] env) g m Q := by
  unfold testsOf
  rw [List.forIn_cons]
  simp only [if_true, bind_assoc]
  refine tri_bind (tri_mono h fun b g₁ m₁ q => ?_)
  exact tri_bind (tri_pure (tri_pure q))
noncomputable def turnOf (target : Expr) (ifs : List Expr) (p : Pos) (EM : Sem Unit) (e : Expr) (d : Nat) (it acc : Value) (env : Env) : Sem Fin := do
  standAt p
  match ← pyNext it with
  | none => pure (.done .next)
  | some v => do
    letOwnedTupleGo target it v
    assign target env v
    let ok ← testsOf ifs env
    if ok = true then (EM >>= fun _ => again (.compLoop e d it acc env)) else again (.compLoop e d it acc env)
theorem comp_loop {target : Expr} {ifs : List Expr} {p : Pos} {EM : Sem Unit} {elt : Expr} {gs : List Comprehension} {pos : Pos} {d : Nat} {acc : Value} {I : Addr} {wr : List Addr} {n : Nat} {Nx : Nat → Value → Option (Addr × Obj) → Prop} {It : Nat → Heap → Prop} {Src : GH → Prop} {Rr : Result → Shared → Prop}
    (he : compTurn (.ListComp elt gs scope pos) d (.ref I) acc env = turnOf target ifs p EM (.ListComp elt gs scope pos) d (.ref I) acc env) (J : Nat → GH → LM → Prop) (W : Turns w H O target I wr n Nx It Src) (hsrc : ∀ i g m, J i g m → Src g)
    (turn : ∀ i v new g m, i < n → Nx i v new → J i g m → (∀ p, new = some p → g p.1 = none) → tri w H O k none noX env (assign target env v) (gnew g new) m fun _ g₁ m₁ => tri w H O k none noX env (testsOf ifs env) g₁ m₁ fun ok g₂ m₂ =>
      if ok = true then tri w H O k none noX env EM g₂ m₂ fun _ g₃ m₃ => J (i + 1) g₃ m₃ else J (i + 1) g₂ m₂)
    (a : AOk H k none fs env base A) (R : Rep H O fs base g s) (F : Frm env m base g s.heap) (h0 : J 0 g m) (hi : It 0 s.heap) (hp : PrivA wr env base g s.heap)
    (fin : ∀ g' m' s', J n g' m' → Rep H O fs base g' s' → Frm env m' base g' s'.heap → Rr (.ok .next) s') : codeAny (model P0 w) A (.compLoop (.ListComp elt gs scope pos) d (.ref I) acc env) Rr s := by
  refine codeAny_loop rfl (fun c s' => ∃ i g' m', i ≤ n ∧ c = n - i ∧ Rep H O fs base g' s' ∧ Frm env m' base g' s'.heap ∧ J i g' m' ∧ It i s'.heap ∧ PrivA wr env base g' s'.heap) (fun c s' hc => ?_) n ⟨0, g, m, Nat.zero_le _, rfl, R, F, h0, hi, hp⟩
  obtain ⟨i, g', m', hin, rfl, R', F', hJ, hI, hP⟩ := hc
  show wpAny _ A ((compTurn (.ListComp elt gs scope pos) d (.ref I) acc env).onRaise (fun x => do noteFrame x env; theTreesLotGoes x)) _ _ s'
  refine wpAny_noted ?_
  rw [he]
  unfold turnOf
  have bad : ∀ {x : Value} {s'' : Shared}, (∃ g' m', Rep H O fs base g' s'' ∧ Frm env m' base g' s''.heap ∧ noX fs base g' m' x s''.heap) → ∀ {Z : Prop}, Z := fun ⟨_, _, _, _, q⟩ => q.elim
  rcases Nat.lt_or_eq_of_le hin with hlt | rfl
  · refine wpAny_bind (wpAny_standAt (wpAny_bind (W.item A fs base g' s' i _ _ a.hdl hlt R' (hsrc i g' m' hJ) hI fun v s₁ hgo => ?_)))
    dsimp only
    refine wpAny_bind (hgo _ _ fun new h' tk hv hst hk hn => ?_)
    refine el_aaa (turn_ok R' F' hP (W.hal _ _ hst) hk hn tk) fun R1 F1 P1 hf => ?_
    refine wpAny_bind (wpAny_mono ((turn i v new g' m' hlt hv hJ hf).hold (fun _ _ _ _ _ _ => noX_add) a R1 F1 P1.priv) (fun _ s2 ⟨g2, m2, R2, F2, P2, q⟩ => ?_) fun _ _ q => bad q)
    obtain ⟨P2', keep2⟩ := P1.back P2
    refine wpAny_bind (wpAny_mono (q.hold (fun _ _ _ _ _ _ => noX_add) a R2 F2 P2'.priv) (fun ok s3 ⟨g3, m3, R3, F3, P3, q⟩ => ?_) fun _ _ q => bad q)
    obtain ⟨P3', keep3⟩ := P2'.back P3
    have hI3 : It (i + 1) s3.heap := W.itk _ _ _ (W.itk _ _ _ hst keep2) keep3
    cases ok with
    | false => exact wpAny_pure ⟨rfl, n - (i + 1), by omega, i + 1, g3, m3, hlt, rfl, R3, F3, q, hI3, P3'⟩
    | true =>
      refine wpAny_bind (wpAny_mono (tri.hold q (fun _ _ _ _ _ _ => noX_add) a R3 F3 P3'.priv) (fun _ s4 ⟨g4, m4, R4, F4, P4, q⟩ => ?_) fun _ _ q => bad q)
      obtain ⟨P4', keep4⟩ := P3'.back P4
      exact wpAny_pure ⟨rfl, n - (i + 1), by omega, i + 1, g4, m4, hlt, rfl, R4, F4, q, W.itk _ _ _ hI3 keep4, P4'⟩
  · refine wpAny_bind (wpAny_standAt (wpAny_bind (W.done A fs base g' s' _ _ a.hdl R' (hsrc _ _ _ hJ) hI fun h' tk hk => ?_)))
    exact wpAny_pure (fin g' m' _ hJ (R'.iter hP hk tk) (F'.iter hP hk))
theorem comp_start {target iter elt : Expr} {ifs : List Expr} {gs : List Comprehension} {pos : Pos} {d : Nat} {it acc : Value} {Rr : Result → Shared → Prop} (hg : gs[d]? = some ⟨target, iter, ifs, 0⟩) (h0 : codeAny (model P0 w) A (.compLoop (.ListComp elt gs scope pos) d it acc env) Rr s)
    (h : wpAny (model P0 w) A (pyIter it) (fun it' s' => codeAny (model P0 w) A (.compLoop (.ListComp elt gs scope pos) d it' acc env) Rr s') (notedBy (model P0 w) A env fun x s' => Rr (.error x) s') s) : codeAny (model P0 w) A (.compStart (.ListComp elt gs scope pos) d it acc env) Rr s := by
  refine codeAny_of_tree ?_
  show wpAny _ _ ((compStart (.ListComp elt gs scope pos) d it acc env).onRaise (fun x => do noteFrame x env; standAt theWindowsPlace)) _ _ s
  refine wpAny_notedAt ?_
  unfold compStart
  have hc : (clausesOf (.ListComp elt gs scope pos))[d]? = some ⟨target, iter, ifs, 0⟩ := hg
  rw [hc]
  show wpAny _ _ (ask >>= _) _ _ s
  refine wpAny_bind (wpAny_askSetting (wpAny_ite ?_))
  split
  · first
      | exact wpAny_bind (wpAny_pure (wpAny_pure (And.intro rfl h0)))
      | exact wpAny_pure (And.intro rfl h0)
  · refine wpAny_bind (wpAny_rule ?_)
    show wpAny _ _ (standAt iter.pos >>= _) _ _ s
    exact wpAny_bind (wpAny_standAt (wpAny_bind (wpAny_mono h (fun it' s' h' => wpAny_pure (And.intro rfl h')) fun _ _ x => x)))
noncomputable abbrev emit (elt : Expr) (acc : Value) (env : Env) : Sem Unit := do let _ ← call (.builtin "list.append") [acc, ← eval elt env]
theorem turn1 (elt target iter : Expr) (ifs : List Expr) (scope : Scope) (pos : Pos) (it acc : Value) (env : Env) : compTurn (.ListComp elt [⟨target, iter, ifs, 0⟩] scope pos) 0 it acc env = turnOf target ifs iter.pos (emit elt acc env) (.ListComp elt [⟨target, iter, ifs, 0⟩] scope pos) 0 it acc env := rfl
noncomputable abbrev nest (elt iter : Expr) (gs : List Comprehension) (scope : Scope) (pos : Pos) (acc : Value) (env : Env) : Sem Unit := do
  let x ← eval iter env
  standAt iter.pos
  let x ← foldedSetIterable iter env x
  let _ ← runOwn (.compStart (.ListComp elt gs scope pos) 1 (← holding [x] (pyIter x)) acc env) env
theorem turn2a (elt target iter target' iter' : Expr) (ifs ifs' : List Expr) (scope : Scope) (pos : Pos) (it acc : Value) (env : Env) : compTurn (.ListComp elt [⟨target, iter, ifs, 0⟩, ⟨target', iter', ifs', 0⟩] scope pos) 0 it acc env = turnOf target ifs iter.pos (nest elt iter' [⟨target, iter, ifs, 0⟩, ⟨target', iter', ifs', 0⟩] scope pos acc env) (.ListComp elt [⟨target, iter, ifs, 0⟩, ⟨target', iter', ifs', 0⟩] scope pos) 0 it acc env := by
  unfold turnOf nest
  simp only [bind_assoc]
  rfl
theorem turn2b (elt target iter target' iter' : Expr) (ifs ifs' : List Expr) (scope : Scope) (pos : Pos) (it acc : Value) (env : Env) : compTurn (.ListComp elt [⟨target, iter, ifs, 0⟩, ⟨target', iter', ifs', 0⟩] scope pos) 1 it acc env = turnOf target' ifs' iter'.pos (emit elt acc env) (.ListComp elt [⟨target, iter, ifs, 0⟩, ⟨target', iter', ifs', 0⟩] scope pos) 1 it acc env := rfl
theorem t_app {D : Addr} {ys : List Value} {y : Value} {Q : Value → GH → LM → Prop} (hD : IsL g D ys) (hn : ys.length < 1000000) (h : ∀ e, Q .none (gset g D { cls := .type "list", data := .seq (ys ++ [y]).toArray e }) m) : tri w H O k hd X env (call (.builtin "list.append") [.ref D, y]) g m Q := by
  obtain ⟨n, hD⟩ := hD
  refine tri_upd (f := fun e => { cls := .type "list", data := .seq (ys ++ [y]).toArray e }) hD (fun A fs base s P E a R F ho q => wpAny_list_append_plain ⟨n, ho⟩ (fun h' hl hs => ?_) (by simp [sizeLine]; omega)) h
  obtain ⟨e, he⟩ := hl
  exact q e h' _ hs (by simpa using he)
theorem t_emit {elt : Expr} {D : Addr} {Q : Unit → GH → LM → Prop} (h : tri w H O k hd X env (eval elt env) g m fun y g₁ m₁ => tri w H O k hd X env (call (.builtin "list.append") [.ref D, y]) g₁ m₁ fun _ g₂ m₂ => Q () g₂ m₂) : tri w H O k hd X env (emit elt (.ref D) env) g m Q :=
  tri_bind (tri_mono h fun y g₁ m₁ q => tri_bind (tri_mono q fun _ g₂ m₂ q => tri_pure q))
theorem t_nest {elt target iter : Expr} {ifs : List Expr} {p : Pos} {EM : Sem Unit} {gs : List Comprehension} {pos : Pos} {acc : Value} {Q : Unit → GH → LM → Prop} (hg : gs[1]? = some ⟨target, iter, ifs, 0⟩) (hs : ∀ x, foldedSetIterable iter env x = pure x) (he : ∀ it, compTurn (.ListComp elt gs scope pos) 1 it acc env = turnOf target ifs p EM (.ListComp elt gs scope pos) 1 it acc env)
    (h : tri w H O k none noX env (eval iter env) g m fun x g₁ m₁ => ∃ g' n Nx Src, ∃ J : Nat → GH → LM → Prop, Starts w H O target x g₁ g' n Nx Src ∧ (∀ i g m, J i g m → Src g) ∧ J 0 g' m₁ ∧ (∀ g m, J n g m → Q () g m) ∧
      (∀ i v new g m, i < n → Nx i v new → J i g m → (∀ p, new = some p → g p.1 = none) → tri w H O k none noX env (assign target env v) (gnew g new) m fun _ g₁ m₁ => tri w H O k none noX env (testsOf ifs env) g₁ m₁ fun ok g₂ m₂ =>
        if ok = true then tri w H O k none noX env EM g₂ m₂ fun _ g₃ m₃ => J (i + 1) g₃ m₃ else J (i + 1) g₂ m₂)) : tri w H O k none X env (nest elt iter gs scope pos acc env) g m Q := by
  refine tri_bind (tri_mono h.weak fun x g₁ m₁ q => tri_bind (tri_standAt (tri_bind ?_)))
  obtain ⟨g', n, Nx, Src, J, S, hsrc, h0, hQ, turn⟩ := q
  rw [hs]
  refine tri_pure ?_
  refine .mk fun A fs base s a R F => ?_
  refine wpAny_bind (wpAny_holding (S.2 A fs base s _ _ R fun I wr It h' W h1 hgr hw => ?_))
  have R1 := (R.less S.1).grow hgr s.toks
  have F1 := (F.less S.1).grow hgr
  have P1 := wr_priv S.1 R F (W.hal _ _ h1) hw
  refine wpAny_bind (wpAny_runOwn (h := none) ?_)
  have loop := comp_loop (Rr := fun r s' => match r with | .ok f => (fun (_ : Flow) s' => wpAny (model P0 w) A (pure PUnit.unit) (fun v s' => ∃ g' m', Rep H O fs base g' s' ∧ Frm env m' base g' s'.heap ∧ Q v g' m') (fun e s' => ∃ g' m', Rep H O fs base g' s' ∧ Frm env m' base g' s'.heap ∧ X fs base g' m' e s'.heap) s') f s' | .error e => cameBackBy (model P0 w) A env (fun e s' => ∃ g' m', Rep H O fs base g' s' ∧ Frm env m' base g' s'.heap ∧ X fs base g' m' e s'.heap) e s') (he _) J W hsrc turn a R1 F1 h0 h1 P1 fun g' m' s' hJ R' F' => wpAny_pure ⟨g', m', R', F', hQ _ _ hJ⟩
  exact comp_start hg loop (W.self A 0 _ _ _ h1 loop)
end
end
noncomputable section
abbrev lst (ys : List Value) (e : Nat) : Obj := { cls := .type "list", data := .seq ys.toArray e }
abbrev tup (ys : List Value) (e : Nat) : Obj := { cls := .type "tuple", data := .seq ys.toArray e }
def CompAt (w : World) (H : Heap) (O : OsState) (k : Nat) (X : ExcP) (env : Env) (e : Expr) (scope : Scope) (use : Option (Value → Sem Unit)) (x : Value) (g : GH) (m : LM) (Q : Value → GH → LM → Prop) : Prop :=
  ∀ A fs base s (E : Value → Shared → Prop), AOk H k none fs env base A → Rep H O fs base g s → Frm env m base g s.heap →
    E = (fun e s' => ∃ g' m', Rep H O fs base g' s' ∧ Frm env m' base g' s'.heap ∧ X fs base g' m' e s'.heap) →
    wpAny (model P0 w) A (pyIter x) (fun it s₂ => wpAny (model P0 w) A (newList []) (fun acc s₃ =>
      wpAny (model P0 w) A (newFunctionEnv scope env.globals (clGo env scope.names []) [] env.qual none .none (some env)) (fun cenv s₄ =>
        codeAny (model P0 w) A (.compStart e 0 it acc { cenv with scope := relabel scope env }) (compPost (model P0 w) A E use (fun v s' => ∃ g' m', Rep H O fs base g' s' ∧ Frm env m' base g' s'.heap ∧ Q v g' m') acc cenv.locals) s₄) E s₃) E s₂) E s
def useQ (w : World) (H : Heap) (O : OsState) (k : Nat) (X : ExcP) (env : Env) (use : Option (Value → Sem Unit)) (D : Addr) (g : GH) (m : LM) (Q : Value → GH → LM → Prop) : Prop := match use with
  | none => Q (.ref D) g m
  | some u => tri w H O k none noX env (u (.ref D)) g m fun _ g' m' => Q .none g' m'
section
variable {α β : Type} {w : World} {H : Heap} {O : OsState} {k : Nat} {hd : Option Value} {X : ExcP} {env : Env} {g : GH} {m : LM} {K : Frag} {fs : List Addr} {base ps : GH} {s : Shared} {A : Around} {scope : Scope} {C : Addr} {elt target iter : Expr} {ifs : List Expr} {pos : Pos}
theorem tri_comp {gs : List Comprehension} {p : Pos} {use : Option (Value → Sem Unit)} {Q : Value → GH → LM → Prop} (hok : compOk scope env = true) (hs : ∀ x, foldedSetIterable iter env x = pure x) (h : tri w H O k none X env (eval iter env) g m fun x g₁ m₁ => CompAt w H O k X env (.ListComp elt (⟨target, iter, ifs, 0⟩ :: gs) scope pos) scope use x g₁ m₁ Q) :
    tri w H O k none X env (comprehension (.ListComp elt (⟨target, iter, ifs, 0⟩ :: gs) scope pos) scope env p (newList []) false (eval iter env) use) g m Q := by
  refine .mk fun A fs base s a R F => ?_
  refine el_aaa (compOk.parts hok) fun k1 k2 k3 k4 => ?_
  exact wpAny_comprehension_free (cl := clGo env scope.names []) rfl hs (closureFor_eq k4) k1 k3 (wpAny_mono (h.run A fs base s a R F) (fun x s₁ ⟨g₁, m₁, R1, F1, q⟩ => q A fs base s₁ _ a R1 F1 rfl) fun _ _ e => e)
theorem t_lc {gs : List Comprehension} {Q : Value → GH → LM → Prop} (hok : compOk scope env = true) (hs : ∀ x, foldedSetIterable iter env x = pure x) (h : tri w H O k none X env (eval iter env) g m fun x g₁ m₁ => CompAt w H O k X env (.ListComp elt (⟨target, iter, ifs, 0⟩ :: gs) scope pos) scope none x g₁ m₁ Q) :
    tri w H O k none X env (eval (.ListComp elt (⟨target, iter, ifs, 0⟩ :: gs) scope pos) env) g m Q :=
  tri_eq (arm_eval_ListComp _ _ scope pos env) (tri_comp hok hs h)
theorem t_lcuse {gs : List Comprehension} {targets : List Expr} {p : Pos} {Q : Flow → GH → LM → Prop} (hsw : swapsWithSole targets (.ListComp elt (⟨target, iter, ifs, 0⟩ :: gs) scope pos) p.line env = pure true) (hok : compOk scope env = true) (hs : ∀ x, foldedSetIterable iter env x = pure x)
    (h : tri w H O k none X env (eval iter env) g m fun x g₁ m₁ => CompAt w H O k X env (.ListComp elt (⟨target, iter, ifs, 0⟩ :: gs) scope pos) scope (some fun v => assignAll v ((assignEach targets env).map (·.2))) x g₁ m₁ fun _ g' m' => Q .next g' m') :
    tri w H O k none X env (exec (.Assign targets (.ListComp elt (⟨target, iter, ifs, 0⟩ :: gs) scope pos) p) env) g m Q := by
  refine tri_eq (arm_exec_Assign _ _ p env) (tri_bind (tri_standAt (tri_bind ?_)))
  rw [hsw]
  refine tri_pure ?_
  simp only [if_true]
  refine tri_bind ?_
  rw [arm_evalThenUse_ListComp]
  exact tri_bind (tri_mono (tri_comp hok hs h) fun _ g' m' q => tri_pure (tri_pure q))
theorem comp_fin {use : Option (Value → Sem Unit)} {D : Addr} {mL : LM} {Q : Value → GH → LM → Prop} {r : Flow} (a : AOk H k none fs env base A) (R : Rep H O fs base g s) (F : Frm env m base g s.heap) (hC : s.heap.Ns C mL) (P : PrivA [C] env base g s.heap)
    (q : useQ w H O k X env use D g m Q) : compPost (model P0 w) A (fun e s' => ∃ g' m', Rep H O fs base g' s' ∧ Frm env m' base g' s'.heap ∧ X fs base g' m' e s'.heap) use (fun v s' => ∃ g' m', Rep H O fs base g' s' ∧ Frm env m' base g' s'.heap ∧ Q v g' m') (.ref D) C (.ok r) s := by
  refine el_aaaa (P C (.head _)) fun _ c1 c2 c3 c4 => ?_
  cases use with
  | none =>
    refine ⟨mL, hC, fun h' hsb => ⟨_, m, R.priv (fun b o hb z => (hsb.2 b hb).trans z) c1 c2 s.toks, F.priv (fun b o hb z => (hsb.2 b hb).trans z) (Ne.symm c3) (fun x c z y => c4 x (y ▸ z)), q⟩⟩
  | some u =>
    refine wpAny_mono (tri.hold q (fun _ _ _ _ _ _ => noX_add) a R F P.priv) (fun _ s' ⟨g', m', R', F', P', q⟩ => ?_) fun _ _ ⟨_, _, _, _, q⟩ => q.elim
    obtain ⟨P2, keep⟩ := P.back P'
    refine el_aaa (P2 C (.head _)) fun _ _ e2 _ => ?_
    refine el_eeea hC fun o es n z r => ?_; clear hC
    refine ⟨mL, ⟨o, es, n, keep C (.head _) _ z, r⟩, fun h' hsb => ⟨g', m', R'.priv (fun b o hb z => (hsb.2 b hb).trans z) c1 e2 s'.toks, F'.priv (fun b o hb z => (hsb.2 b hb).trans z) (Ne.symm c3) (fun x c z y => c4 x (y ▸ z)), q⟩⟩
theorem compAt_S (T : Tp K H) {gs : List Comprehension} {p : Pos} {EM : Addr → Addr → Sem Unit} {use : Option (Value → Sem Unit)} {x : Value} {g' : GH} {n : Nat} {Nx : Nat → Value → Option (Addr × Obj) → Prop} {Src : GH → Prop} {Q : Value → GH → LM → Prop} (hg : gs[0]? = some ⟨target, iter, ifs, 0⟩)
    (he : ∀ C D it, compTurn (.ListComp elt gs scope pos) 0 it (.ref D) (cE scope C env) = turnOf target ifs p (EM C D) (.ListComp elt gs scope pos) 0 it (.ref D) (cE scope C env)) (hok : compOk scope env = true) (S : Starts w H O target x g g' n Nx Src) (J : Addr → Addr → Nat → GH → LM → Prop) (hsrc : ∀ C D i g m, J C D i g m → Src g)
    (h0 : ∀ C D mc, g' D = none → CAgree scope env m mc → J C D 0 (gset g' D (lst [] 0)) mc)
    (turn : ∀ C D i v new g m, i < n → Nx i v new → J C D i g m → (∀ p, new = some p → g p.1 = none) → tri w H O k none noX (cE scope C env) (assign target (cE scope C env) v) (gnew g new) m fun _ g₁ m₁ => tri w H O k none noX (cE scope C env) (testsOf ifs (cE scope C env)) g₁ m₁ fun ok g₂ m₂ =>
      if ok = true then tri w H O k none noX (cE scope C env) (EM C D) g₂ m₂ fun _ g₃ m₃ => J C D (i + 1) g₃ m₃ else J C D (i + 1) g₂ m₂)
    (fin : ∀ C D g' m', J C D n g' m' → useQ w H O k X env use D g' m Q) : CompAt w H O k X env (.ListComp elt gs scope pos) scope use x g m Q := by
  intro A fs base s E a R F hE
  subst hE
  refine el_aaa (compOk.parts hok) fun k1 k2 k3 k4 => ?_
  refine S.2 A fs base s _ _ R fun I wr It h₁ W h1 hgr hw => ?_
  refine wpAny_newList (wpAny_newFunctionEnv (fun x hx => k2 x hx) (fun _ hx => nomatch hx) (fun h₃ hns hsb => ?_) k1) (Nat.zero_le _)
  have R1 := (R.less S.1).grow hgr s.toks
  have F1 := (F.less S.1).grow hgr
  have P1 := wr_priv S.1 R F (W.hal _ _ h1) hw
  have nD := get_size_none h₁
  have gD : Grows h₁ (h₁.push (lst [] 0)) := fun b o e => Heap.get?_push_of_some _ e
  have oD := Heap.get?_push_size h₁ (o := lst [] 0) rfl
  have zC : (h₁.push (lst [] 0)).objs.size = h₁.objs.size + 1 := Heap.size_push _ _
  generalize hh2 : h₁.push (lst [] 0) = h₂ at gD oD zC
  have nC := get_size_none h₂
  have e2 : h₁.push { cls := Value.type "list", data := Data.seq (List.toArray []) 0 } = h₂ := hh2
  dsimp only at hns hsb
  rw [e2] at hns hsb
  have gC : Grows h₂ h₃ := fun b o e => by
    have hb : b ≠ h₂.objs.size := fun q => by rw [q, nC] at e; cases e
    exact (hsb.2 b hb).trans (Heap.get?_push_of_some _ e)
  have gr : Grows h₁ h₃ := fun b o e => gC _ _ (gD _ _ e)
  have nC1 : h₁.get? h₂.objs.size = none := get_ge_none (by omega)
  have nDC : h₂.objs.size ≠ h₁.objs.size := by omega
  refine el_aaa (fresh_priv R1 F1 nD) fun d1 d2 d3 d4 => ?_
  refine el_aaa (fresh_priv R1 F1 nC1) fun c1 c2 c3 c4 => ?_
  have R3 := (R1.grow gr s.toks).publish (o := lst [] 0) d1 (gC _ _ oD)
  have F3 := (F1.grow gr).publish (o := lst [] 0) d3 d4
  have hCx : h₂.objs.size ∉ wr := fun z => by
    obtain ⟨⟨o, e⟩, _⟩ := P1 _ z; rw [nC1] at e; cases e
  have P3 : PrivA (h₂.objs.size :: wr) env base (gset g' h₁.objs.size (lst [] 0)) h₃ := fun b hb => by
    rcases List.mem_cons.mp hb with rfl | hb
    · refine el_eeea hns fun o es n z _ => ?_; clear hns
      exact ⟨⟨o, z⟩, c1, (gset_ne nDC).trans c2, c3, c4⟩
    · refine el_aaa (P1 b hb) fun yy1 x1 x2 x3 => ?_
      obtain ⟨o, e⟩ := yy1
      refine ⟨⟨o, gr _ _ e⟩, x1, (gset_ne (fun q => ?_)).trans x2, x3⟩
      rw [q, nD] at e; cases e
  obtain ⟨a', R4, P4, mc, hag, F4⟩ := comp_in hok a R3 F3 hns P3 hCx (by have := T.sz R1; simp only at this; omega)
  have loop := comp_loop (Rr := compPost (model P0 w) A (fun e s' => ∃ g' m', Rep H O fs base g' s' ∧ Frm env m' base g' s'.heap ∧ X fs base g' m' e s'.heap) use (fun v s' => ∃ g' m', Rep H O fs base g' s' ∧ Frm env m' base g' s'.heap ∧ Q v g' m') (.ref h₁.objs.size) h₂.objs.size) (he _ _ _) (J h₂.objs.size h₁.objs.size) W (hsrc _ _) (turn _ _) a' R4 F4 (h0 _ _ mc d2 hag) (W.itk _ _ _ h1 fun b _ o e => gr b o e) P4 fun g5 m5 s5 hJ R5 F5 => by
    refine el_aaa (comp_out R3 F3 P3 R5 F5) fun x1 x2 yy2 x4 => ?_
    obtain ⟨mL, x3⟩ := yy2
    exact comp_fin a x1 x2 x3 x4 (fin _ _ _ _ hJ)
  exact comp_start hg loop (W.self A 0 _ _ _ (W.itk _ _ _ h1 fun b _ o e => gr b o e) loop)
theorem compAt_1 (T : Tp K H) {use : Option (Value → Sem Unit)} {x : Value} {g' : GH} {n : Nat} {Nx : Nat → Value → Option (Addr × Obj) → Prop} {Src : GH → Prop} {Q : Value → GH → LM → Prop} (J : Nat → List Value → GH → LM → Prop) (hok : compOk scope env = true) (S : Starts w H O target x g g' n Nx Src) (hn : n ≤ 100000)
    (hsrc : ∀ i ys g m, J i ys g m → Src g) (hS : ∀ g D o, Src g → g D = none → Src (gset g D o)) (h0 : ∀ mc, CAgree scope env m mc → J 0 [] g' mc)
    (turn : ∀ C i v new ys g m, i < n → Nx i v new → J i ys g m → (∀ p, new = some p → g p.1 = none) → tri w H O k none noX (cE scope C env) (assign target (cE scope C env) v) (gnew g new) m fun _ g₁ m₁ => tri w H O k none noX (cE scope C env) (testsOf ifs (cE scope C env)) g₁ m₁ fun ok g₂ m₂ =>
      if ok = true then tri w H O k none noX (cE scope C env) (eval elt (cE scope C env)) g₂ m₂ fun y g₃ m₃ => J (i + 1) (ys ++ [y]) g₃ m₃ else J (i + 1) ys g₂ m₂)
    (fin : ∀ D ys g' m' e, J n ys g' m' → g' D = none → useQ w H O k X env use D (gset g' D (lst ys e)) m Q) : CompAt w H O k X env (.ListComp elt [⟨target, iter, ifs, 0⟩] scope pos) scope use x g m Q := by
  refine compAt_S T (gs := [⟨target, iter, ifs, 0⟩]) rfl (fun C D it => turn1 elt target iter ifs scope pos it (.ref D) (cE scope C env)) hok S (fun C D i g m => ∃ ys e g₀, g = gset g₀ D (lst ys e) ∧ g₀ D = none ∧ ys.length ≤ i ∧ J i ys g₀ m) (fun C D i g m ⟨ys, e, g₀, q, hD, _, hJ⟩ => q ▸ hS _ _ _ (hsrc _ _ _ _ hJ) hD) (fun C D mc hD hag => ⟨[], 0, g', rfl, hD, Nat.le_refl _, h0 mc hag⟩) (fun C D i v new g m hi hx ⟨ys, e, g₀, q, hD, hl, hJ⟩ hf => ?_) (fun C D g' m' ⟨ys, e, g₀, q, hD, _, hJ⟩ => q ▸ fin D ys g₀ m' e hJ hD)
  subst q
  have hf' : ∀ p, new = some p → g₀ p.1 = none ∧ p.1 ≠ D := fun p hp => by
    have := hf p hp
    have hne : p.1 ≠ D := fun z => by rw [z, gset_self] at this; cases this
    exact ⟨by rw [gset_ne hne] at this; exact this, hne⟩
  have t1 := turn C i v new ys g₀ m hi hx hJ fun p hp => (hf' p hp).1
  have eg : gnew (gset g₀ D (lst ys e)) new = gset (gnew g₀ new) D (lst ys e) ∧ gnew g₀ new D = none := by
    cases new with
    | none => exact ⟨rfl, hD⟩
    | some p =>
      have := (hf' p rfl).2
      refine ⟨?_, (gset_ne (Ne.symm this)).trans hD⟩
      funext b
      show gset (gset g₀ D (lst ys e)) p.1 p.2 b = gset (gset g₀ p.1 p.2) D (lst ys e) b
      unfold gset
      split <;> rename_i h1 <;> split <;> rename_i h2 <;> first | rfl | exact absurd (h1.symm.trans h2) this
  rw [eg.1]
  refine tri_mono (t1.frame eg.2) fun _ g₁ m₁ ⟨g₂, e2, hD2, q⟩ => ?_
  subst e2
  refine tri_mono (q.frame hD2) fun ok g₁ m₁ ⟨g₃, e3, hD3, q⟩ => ?_
  subst e3
  cases ok with
  | false => exact ⟨ys, e, g₃, rfl, hD3, by omega, q⟩
  | true =>
    refine t_emit (tri_mono (tri.frame q hD3) fun y g₁ m₁ ⟨g₄, e4, hD4, q⟩ => ?_)
    subst e4
    refine t_app (ys := ys) ⟨e, gset_self⟩ (by omega) fun e' => ⟨ys ++ [y], e', g₄, ?_, hD4, by simp; omega, q⟩
    funext b
    unfold gset
    split <;> rfl
end
end
noncomputable section
theorem ite_T {b : Bool} {P Q : Prop} (h : b = true) (p : P) : if b = true then P else Q := by rw [if_pos h]; exact p
theorem ite_F {b : Bool} {P Q : Prop} (h : b = false) (q : Q) : if b = true then P else Q := by rw [if_neg (by rw [h]; decide)]; exact q
theorem ite_t {P Q : Prop} (p : P) : if true = true then P else Q := ite_T rfl p
theorem ite_f {P Q : Prop} (q : Q) : if false = true then P else Q := ite_F rfl q
def nmOk (env : Env) (x : Str) : Bool := !(x == ("__debug__" : Str)) && match env.kindOf x with
  | some .local => true
  | some .cell => (env.cells.lookup x).isSome
  | some .free => (env.cells.lookup x).isSome && !(x == ("__classdict__" : Str))
  | _ => false
section
variable {α β : Type} {w : World} {H : Heap} {O : OsState} {k : Nat} {hd : Option Value} {X : ExcP} {env : Env} {g : GH} {m : LM} {K : Frag}
theorem t_nm {x : Str} {pos : Pos} {v : Value} {Q : Value → GH → LM → Prop} (hv : m x = some v) (hk : nmOk env x = true) (h : Q v g m) : tri w H O k hd X env (eval (.Name x pos) env) g m Q := by
  unfold nmOk at hk
  obtain ⟨h1, h2⟩ := Bool.and_eq_true_iff.mp hk
  have h1 : (x == ("__debug__" : Str)) = false := by simpa using h1
  cases q : env.kindOf x with
  | none => rw [q] at h2; cases h2
  | some kd =>
    rw [q] at h2
    cases kd with
    | «local» => exact t_loc q hv h h1
    | cell => obtain ⟨c, e⟩ := Option.isSome_iff_exists.mp h2; exact t_cel q e hv h h1
    | free =>
      obtain ⟨h3, h4⟩ := Bool.and_eq_true_iff.mp h2
      obtain ⟨c, e⟩ := Option.isSome_iff_exists.mp h3; exact t_free q e hv h h1 (by simpa using h4)
    | _ => cases h2
def stOk (env : Env) (x : Str) : Bool := match env.kindOf x with
  | some .local => true
  | some .cell => (env.cells.lookup x).isSome
  | _ => false
theorem t_sto {x : Str} {v : Value} {Q : Unit → GH → LM → Prop} (hf : env.frame = some env.locals) (hk : stOk env x = true) (h : Q () g (mset m x v)) : tri w H O k hd X env (storeName env x v) g m Q := by
  unfold stOk at hk
  cases q : env.kindOf x with
  | none => rw [q] at hk; cases hk
  | some kd =>
    rw [q] at hk
    cases kd with
    | «local» => exact t_store q h
    | cell => obtain ⟨c, e⟩ := Option.isSome_iff_exists.mp hk; exact t_cellstore q e hf h
    | _ => cases hk
theorem t_gl {x : Str} {pos : Pos} {v : Value} {Q : Value → GH → LM → Prop} (T : Tp K H) (e : GlobIs K x v) (hk : (env.kindOf x == some .globalImplicit && env.globals == mainGlobals && env.builtins == builtinsNs && !(x == ("__debug__" : Str))) = true) (h : Q v g m) : tri w H O k hd X env (eval (.Name x pos) env) g m Q := by
  simp only [Bool.and_eq_true, beq_iff_eq, Bool.not_eq_true'] at hk
  obtain ⟨⟨⟨h1, h2⟩, h3⟩, h4⟩ := hk
  exact t_glob T e h1 h2 h3 h h4
theorem keep_t {s : String} : KeepOk K (.type s) := trivial
theorem keep_b {s : String} : KeepOk K (.builtin s) := trivial
theorem keep_r {a : Addr} (h : keepIn K (.ref a) = true) : KeepOk K (.ref a) := h
theorem bindL_eq {kd : Str → Option NameKind} {x : Str} (hx : kd x = some .local) : ∀ (bs : List (Str × Value)) (m₀ : LM), bindL kd bs m₀ x = (bs.reverse.lookup x).or (m₀ x)
  | [], m₀ => by simp [bindL]
  | (n, v) :: r, m₀ => by
    unfold bindL
    rw [bindL_eq hx r, List.reverse_cons, List.lookup_append]
    cases r.reverse.lookup x with
    | some y => simp
    | none =>
      simp only [Option.none_or, List.lookup_cons, List.lookup_nil]
      by_cases q : x = n
      · subst q; simp [hx]
      · have : (x == n) = false := by simpa using q
        simp only [this]
        split
        · simp [q]
        · simp
theorem bindC_eq {kd : Str → Option NameKind} {x : Str} (hx : kd x ≠ some .local) : ∀ (bs : List (Str × Value)) (m₀ : LM), bindC kd bs m₀ x = (bs.reverse.lookup x).or (m₀ x)
  | [], m₀ => by simp [bindC]
  | (n, v) :: r, m₀ => by
    unfold bindC
    rw [bindC_eq hx r, List.reverse_cons, List.lookup_append]
    cases r.reverse.lookup x with
    | some y => simp
    | none =>
      simp only [Option.none_or, List.lookup_cons, List.lookup_nil]
      by_cases q : x = n
      · subst q; simp [hx]
      · have : (x == n) = false := by simpa using q
        simp only [this]
        split
        · simp
        · simp [q]
theorem cellsFrom_kind {x : Str} : ∀ (names : List (Str × NameKind)) (n : Nat) (acc : List (Str × Addr)) (c : Addr), (cellsFrom n names acc).lookup x = some c → (x, NameKind.cell) ∈ names ∨ acc.lookup x = some c
  | [], _, _, _, h => .inr h
  | (y, kd) :: r, n, acc, c, h => by
    unfold cellsFrom at h
    split at h
    · rename_i hk
      rcases cellsFrom_kind r _ _ c h with q | q
      · exact .inl (.tail _ q)
      · rw [List.lookup_cons] at q
        cases z : x == y with
        | true => left; rw [beq_iff_eq.mp z, ← beq_iff_eq.mp hk]; exact .head _
        | false => rw [z] at q; exact .inr q
    · exact (cellsFrom_kind r _ _ c h).imp (.tail _) id
theorem mem_of_lookup {x : Str} {c : Addr} : ∀ {l : List (Str × Addr)}, l.lookup x = some c → (x, c) ∈ l
  | [], h => by simp at h
  | (y, d) :: r, h => by
    rw [List.lookup_cons] at h
    cases z : x == y with
    | true => rw [z] at h; cases h; rw [beq_iff_eq.mp z]; exact .head _
    | false => rw [z] at h; exact .tail _ (mem_of_lookup h)
theorem inj_of_apart {x y : Str} {c : Addr} : ∀ {l : List (Str × Addr)}, (l.Pairwise fun a b => a.2 ≠ b.2) → l.lookup x = some c → l.lookup y = some c → x = y
  | [], _, h, _ => by simp at h
  | (z, d) :: r, hp, h1, h2 => by
    obtain ⟨p1, p2⟩ := List.pairwise_cons.mp hp
    rw [List.lookup_cons] at h1 h2
    cases a : x == z with
    | true =>
      rw [a] at h1; cases h1
      cases b : y == z with
      | true => rw [beq_iff_eq.mp a, beq_iff_eq.mp b]
      | false => rw [b] at h2; exact absurd rfl (p1 (y, c) (mem_of_lookup (x := y) h2))
    | false =>
      rw [a] at h1
      cases b : y == z with
      | true => rw [b] at h2; cases h2; exact absurd rfl (p1 (x, c) (mem_of_lookup (x := x) h1))
      | false => rw [b] at h2; exact inj_of_apart p2 h1 h2
theorem fn_introC {f : Addr} {o : Obj} {fd : FuncData} {body : List Stmt} {vals : List Value} {binds : List (Str × Value)} {R : Value → GH → Prop} (T : Tp K H) (ho : K.lookup f = some o) (hdata : o.data = .func fd) (hcd : codeIn K fd.code fd.qualname = true) (hbody : fd.body = .stmts body)
    (hbind : bindArgs fd ⟨vals, []⟩ = pure binds) (hclo : fd.closure = []) (hkind : ∀ x ∈ binds, fd.scope.names.lookup x.1 = some .local ∨ fd.scope.names.lookup x.1 = some .cell) (hck : fd.scope.names.all (fun p => p.2 != .cell || fd.scope.names.lookup p.1 == some .cell) = true)
    (h : ∀ L, tri w H O k none noX (callEnvC fd L f) (execs body (callEnvC fd L f)) g (bindM binds) fun fl g' _ => R (match fl with | .ret v => v | _ => .none) g')
    (hco : fd.scope.isCoroutine = false) (hgen : fd.scope.isGenerator = false) (hk : fd.scope.kind = .function) : fnS w H O (k + 1) (.ref f) ⟨vals, []⟩ g R no2 := by
  intro A fs base s a Rp
  have X := T.X.keeps Rp.topIn
  refine codeAny_call_cells (fd := fd) (body := body) (binds := binds) (by have := a.depth; unfold recursionLimit; omega) (X _ _ ho) hdata (T.nolimit.keeps Rp.topIn) (codeRec_of X hcd) hbody hbind hclo (fun x hx => (hkind x hx).imp id fun q => ⟨q, cellsFrom_some _ _ _ (.inl q)⟩) (fun s₁ hc => ?_) hco hgen hk
  obtain ⟨⟨⟨h₁, tk, rfl⟩, hns, hg⟩, hcell, hap, hab⟩ := hc
  refine el_aaaa (enter_ok (k := k) (tk := tk) (env := callEnvC fd s.heap.objs.size f) (cells := cellsFrom (s.heap.objs.size + 1) fd.scope.names []) rfl hk a Rp hg (T.sz Rp)) fun a' R' hb hg' back => ?_
  refine wpAny_mono ((h s.heap.objs.size).run _ _ base _ a' R' ?_) (fun fl s' hq => ?_) fun e s' hq => ?_
  · refine el_eeeaaa hns fun o' es n q1 q2 q3 q4 => ?_; clear hns
    have kc : ∀ x c, (callEnvC fd s.heap.objs.size f).cells.lookup x = some c → (callEnvC fd s.heap.objs.size f).kindOf x = some .cell := fun x c e => by
      have hm := (cellsFrom_kind _ _ _ c e).resolve_right (by simp)
      have := List.all_eq_true.mp hck _ hm
      have : fd.scope.names.lookup x = some .cell := by simpa using this
      exact this
    have cn : ∀ x c, (callEnvC fd s.heap.objs.size f).cells.lookup x = some c → s.heap.get? c = none ∧ c ≠ s.heap.objs.size := fun x c e => by
      have := hab x c (mem_of_lookup e)
      have : s.heap.objs.size < c := this
      exact ⟨get_ge_none (Nat.le_of_lt this), fun q => by rw [q] at this; exact absurd this (Nat.lt_irrefl _)⟩
    refine ⟨⟨o', es, n, q1, q2, q3, fun x hx => (q4 x).trans ?_⟩, hb, hg', fun x c e => ⟨?_, Rp.none_g (cn x c e).1, (cn x c e).2⟩, fun x y c e1 e2 => inj_of_apart hap e1 e2, fun x c e => .inl (kc x c e), fun _ x c e _ => Rp.none_base (cn x c e).1⟩
    · rw [bindL_eq hx]; simp [bindM]
    · have := hcell x c e
      rw [bindC_eq (by rw [kc x c e]; exact fun z => nomatch z)] at this
      simpa [bindM] using this
  · refine el_eeaa hq fun g' m' R1 _ q => ?_; clear hq
    exact ⟨g', back g' s' R1, q⟩
  · obtain ⟨_, _, _, _, q⟩ := hq; exact q.elim
end
theorem gl_NodeInfo (P : Params) : GlobIs (KK P) (Str.ofString "_NodeInfo") (.ref 40) := .inl (by kernel_rfl)
theorem gl_CycleError (P : Params) : GlobIs (KK P) (Str.ofString "CycleError") (.ref 55) := .inl (by kernel_rfl)
theorem gl_TopologicalSorter (P : Params) : GlobIs (KK P) (Str.ofString "TopologicalSorter") (.ref 137) := .inl (by kernel_rfl)
theorem gl_S_IMODE (P : Params) : GlobIs (KK P) (Str.ofString "S_IMODE") (.ref 148) := .inl (by kernel_rfl)
theorem gl_S_IFMT (P : Params) : GlobIs (KK P) (Str.ofString "S_IFMT") (.ref 155) := .inl (by kernel_rfl)
theorem gl_S_ISLNK (P : Params) : GlobIs (KK P) (Str.ofString "S_ISLNK") (.ref 162) := .inl (by kernel_rfl)
theorem gl_filemode (P : Params) : GlobIs (KK P) (Str.ofString "filemode") (.ref 202) := .inl (by kernel_rfl)
theorem gl_law_words (P : Params) : GlobIs (KK P) (Str.ofString "_law_words") (.ref 207) := .inl (by kernel_rfl)
theorem gl_law_read (P : Params) : GlobIs (KK P) (Str.ofString "_law_read") (.ref 214) := .inl (by kernel_rfl)
theorem gl_law_refused (P : Params) : GlobIs (KK P) (Str.ofString "_law_refused") (.ref 221) := .inl (by kernel_rfl)
theorem gl_law_chase (P : Params) : GlobIs (KK P) (Str.ofString "_law_chase") (.ref 226) := .inl (by kernel_rfl)
theorem gl_law_follow (P : Params) : GlobIs (KK P) (Str.ofString "_law_follow") (.ref 233) := .inl (by kernel_rfl)
theorem gl_law_told (P : Params) : GlobIs (KK P) (Str.ofString "_law_told") (.ref 238) := .inl (by kernel_rfl)
theorem gl_NODE_OUT (P : Params) : GlobIs (KK P) (Str.ofString "_NODE_OUT") (.int (-1) 197) := .inl (by kernel_rfl)
theorem gl_NODE_DONE (P : Params) : GlobIs (KK P) (Str.ofString "_NODE_DONE") (.int (-2) 200) := .inl (by kernel_rfl)
theorem gl_S_IFLNK (P : Params) : GlobIs (KK P) (Str.ofString "S_IFLNK") (.int 40960 402) := .inl (by kernel_rfl)
theorem gl_filemode_table (P : Params) : GlobIs (KK P) (Str.ofString "_filemode_table") (.ref 195) := .inl (by kernel_rfl)
theorem gl_len (P : Params) : GlobIs (KK P) (Str.ofString "len") (.builtin "len") := .inr ⟨by kernel_rfl, by kernel_rfl, by decide +kernel⟩
theorem gl_range (P : Params) : GlobIs (KK P) (Str.ofString "range") (.type "range") := .inr ⟨by kernel_rfl, by kernel_rfl, by decide +kernel⟩
theorem gl_enumerate (P : Params) : GlobIs (KK P) (Str.ofString "enumerate") (.type "enumerate") := .inr ⟨by kernel_rfl, by kernel_rfl, by decide +kernel⟩
theorem gl_sum (P : Params) : GlobIs (KK P) (Str.ofString "sum") (.builtin "sum") := .inr ⟨by kernel_rfl, by kernel_rfl, by decide +kernel⟩
theorem gl_min (P : Params) : GlobIs (KK P) (Str.ofString "min") (.builtin "min") := .inr ⟨by kernel_rfl, by kernel_rfl, by decide +kernel⟩
theorem gl_str (P : Params) : GlobIs (KK P) (Str.ofString "str") (.type "str") := .inr ⟨by kernel_rfl, by kernel_rfl, by decide +kernel⟩
theorem gl_tuple (P : Params) : GlobIs (KK P) (Str.ofString "tuple") (.type "tuple") := .inr ⟨by kernel_rfl, by kernel_rfl, by decide +kernel⟩
theorem gl_sorted (P : Params) : GlobIs (KK P) (Str.ofString "sorted") (.builtin "sorted") := .inr ⟨by kernel_rfl, by kernel_rfl, by decide +kernel⟩
theorem gl_iter (P : Params) : GlobIs (KK P) (Str.ofString "iter") (.builtin "iter") := .inr ⟨by kernel_rfl, by kernel_rfl, by decide +kernel⟩
theorem gl_set (P : Params) : GlobIs (KK P) (Str.ofString "set") (.type "set") := .inr ⟨by kernel_rfl, by kernel_rfl, by decide +kernel⟩
theorem gl_bool (P : Params) : GlobIs (KK P) (Str.ofString "bool") (.type "bool") := .inr ⟨by kernel_rfl, by kernel_rfl, by decide +kernel⟩
theorem gl_ValueError (P : Params) : GlobIs (KK P) (Str.ofString "ValueError") (.type "ValueError") := .inr ⟨by kernel_rfl, by kernel_rfl, by decide +kernel⟩
theorem gl_StopIteration (P : Params) : GlobIs (KK P) (Str.ofString "StopIteration") (.type "StopIteration") := .inr ⟨by kernel_rfl, by kernel_rfl, by decide +kernel⟩
end
noncomputable section
section
variable {α β : Type} {w : World} {H : Heap} {O : OsState} {k : Nat} {hd : Option Value} {X : ExcP} {env : Env} {g : GH} {m : LM} {K : Frag}
theorem t_list {elts : List Expr} {pos : Pos} {Q : Value → GH → LM → Prop} (h : tri w H O k hd X env (spliced (backTo pos (starEach elts env))) g m fun vs g₁ m₁ => vs.length ≤ 1000 ∧ ∀ D, g₁ D = none → Q (.ref D) (gset g₁ D (lst vs 0)) m₁) : tri w H O k hd X env (eval (.List elts pos) env) g m Q := .mk fun A fs base s a R F =>
  wpAny_List_spliced (wpAny_mono (h.run A fs base s a R F) (fun vs s₁ ⟨g₁, m₁, R1, F1, hl, q⟩ => ⟨Nat.le_trans hl (by decide), _, m₁, R1.new (get_size_none _) (fun _ _ e => Heap.get?_push_of_some _ e) (Heap.get?_push_size _ rfl) s₁.toks, F1.new (get_size_none _) (fun _ _ e => Heap.get?_push_of_some _ e), q _ (R1.none_g (get_size_none _))⟩) fun _ _ e => e)
theorem t_tuple {elts : List Expr} {x1 : Nat} {pos : Pos} {Q : Value → GH → LM → Prop} (h : tri w H O k hd X env (spliced (backTo pos (starEach elts env))) g m fun vs g₁ m₁ => vs.length ≤ 1000 ∧ ∀ D, g₁ D = none → Q (.ref D) (gset g₁ D (tup vs 0)) m₁) : tri w H O k hd X env (eval (.Tuple elts x1 pos) env) g m Q := .mk fun A fs base s a R F =>
  wpAny_Tuple_spliced (wpAny_mono (h.run A fs base s a R F) (fun vs s₁ ⟨g₁, m₁, R1, F1, hl, q⟩ => ⟨Nat.le_trans hl (by decide), _, m₁, R1.new (get_size_none _) (fun _ _ e => Heap.get?_push_of_some _ e) (Heap.get?_push_size _ rfl) s₁.toks, F1.new (get_size_none _) (fun _ _ e => Heap.get?_push_of_some _ e), q _ (R1.none_g (get_size_none _))⟩) fun _ _ e => e)
theorem t_ord0 {Q : Unit → GH → LM → Prop} (h : Q () g m) : tri w H O k hd X env (assignInOrder [] []) g m Q := .mk fun A fs base s a R F => assignInOrder_nil ⟨g, m, R, F, h⟩
theorem t_ord {t : Value → Sem Unit} {ts : List (Value → Sem Unit)} {x : Value} {xs : List Value} {Q : Unit → GH → LM → Prop} (h : tri w H O k hd X env (t x) g m fun _ g₁ m₁ => tri w H O k hd X env (assignInOrder ts xs) g₁ m₁ Q) : tri w H O k hd X env (assignInOrder (t :: ts) (x :: xs)) g m Q := .mk fun A fs base s a R F =>
  assignInOrder_cons (wpAny_mono (h.run A fs base s a R F) (fun _ s₁ ⟨g₁, m₁, R1, F1, q⟩ => q.run A fs base s₁ a R1 F1) fun _ _ e => e)
theorem t_unpack {elts : List Expr} {x1 : Nat} {pos : Pos} {t : Addr} {items : List Value} {Q : Unit → GH → LM → Prop} (ht : IsT' H g t items) (hn : (assignEach elts env).length = items.length) (hs : (assignEach elts env).findIdx? (·.1) = none) (h : tri w H O k none X env (assignInOrder ((assignEach elts env).map (·.2)) items) g m Q) : tri w H O k none X env (assign (.Tuple elts x1 pos) env (.ref t)) g m Q := .mk fun A fs base s a R F => by
  refine wpAny_assign_Tuple a.hdl (ht.at R) (by simpa using hn) hs fun h' he => ?_
  have gr : Grows s.heap h' := fun b o e => he b o (fun q => by rw [q, get_size_none] at e; cases e) e
  exact h.run A fs base _ a (R.grow gr s.toks) (F.grow gr)
theorem t_two {a b : Str} {pa pb pos : Pos} {x1 : Nat} {t : Addr} {x y : Value} {Q : Unit → GH → LM → Prop} (ht : IsT' H g t [x, y]) (h : tri w H O k none X env (storeName env a x) g m fun _ g₁ m₁ => tri w H O k none X env (storeName env b y) g₁ m₁ Q) : tri w H O k none X env (assign (.Tuple [.Name a pa, .Name b pb] x1 pos) env (.ref t)) g m Q :=
  t_unpack ht rfl rfl (t_ord (t_asgN (tri_mono h fun _ _ _ q => t_ord (t_asgN (tri_mono q fun _ _ _ q => t_ord0 q)))))
theorem t_lmeth {l : Addr} {items : List Value} {name : Str} {id : String} {pl : Sem Bool} {Q : Value × List Value → GH → LM → Prop} (hl : IsL g l items) (slot : Slot "list" name id) (hty : typeOf (.builtin id) = pure (.type "method_descriptor")) (h : Q (.builtin id, [.ref l]) g m) : tri w H O k hd X env (getMethod (.ref l) name pl) g m Q := by
  obtain ⟨n, e⟩ := hl
  exact tri_val (fun A fs base s P E a R F q => getMethod_builtin ⟨_, R.kg _ _ e, rfl⟩ PySem.F.plainAttrs_list slot hty (fun a' ea => by cases ea; exact ⟨_, R.kg _ _ e, rfl⟩) (q s.toks)) h
theorem t_append {l : Addr} {items : List Value} {pl : Sem Bool} {Q : Value × List Value → GH → LM → Prop} (hl : IsL g l items) (h : Q (.builtin "list.append", [.ref l]) g m) : tri w H O k hd X env (getMethod (.ref l) (Str.ofString "append") pl) g m Q := t_lmeth hl PySem.F.slot_list_append PySem.F.type_list_append h
end
section
variable {prog : Program} {w : World} {A : Around} {E : Value → Shared → Prop} {s : Shared}
theorem next_tuple_item {it t : Addr} {i : Nat} {items} {x : Value} {Q : Value → Shared → Prop} (hit : s.heap.IsTupleIter it t i) (ht : s.heap.IsTuple t items) (hx : items[i]? = some x) (hQ : ∀ h', h'.IsTupleIter it t (i + 1) → Heap.SameBut it s.heap h' → Q x { s with heap := h' }) : wpAny (model prog w) A (Builtin.SmallTypes.nextOf (.ref it)) Q E s := by
  refine el_eaa (id hit) fun o ho hc hd => ?_
  obtain ⟨ol, hol, _, nl, hdl⟩ := ht
  unfold Builtin.SmallTypes.nextOf
  refine wpAny_bind (wpAny_callSpecial?_slot (name := Str.ofString "__next__") hit.typeIs F.slot_tuple_iterator_next (wpAny_call_entry F.slot_tuple_iterator_next hit.typeIs F.entry_tuple_iterator_next ?_ (F.args_tuple_iterator_next_1 _)))
  show wpAny _ _ (field (.ref it) 0 >>= _) _ _ s
  refine wpAny_bind (wpAny_field ho hd (x := .ref t) rfl ?_)
  show wpAny _ _ (if (Value.ref t == Value.none) = true then _ else _) _ _ s
  rw [if_neg (show ¬ ((Value.ref t == Value.none) = true) from Bool.false_ne_true)]
  show wpAny _ _ (field (.ref it) 1 >>= _) _ _ s
  refine wpAny_bind (wpAny_field ho hd (x := .int i 0) rfl ?_)
  show wpAny _ _ (seqItems? (.ref t) >>= _) _ _ s
  refine wpAny_bind (wpAny_seqItems hol hdl ?_)
  simp only [Int.toNat_natCast, hx]
  refine wpAny_bind (wpAny_setField ho hd (by simp) (wpAny_pure ⟨x, rfl, wpAny_pure (hQ _ ?_ (Heap.SameBut.update ..))⟩))
  exact ⟨_, Heap.get?_update_self _ ho (Obj.isFreed_of_fields (Obj.data_mapFields hd _)), (Obj.cls_mapFields ..).trans hc, by rw [Obj.data_mapFields hd]; simp [rawInt]⟩
theorem next_tuple_end {it t : Addr} {i : Nat} {items} {Q : Value → Shared → Prop} (hh : A.handled = none) (hit : s.heap.IsTupleIter it t i) (ht : s.heap.IsTuple t items) (hx : items[i]? = none)
    (hE : ∀ h' e, Heap.ExtBut it s.heap h' → (∃ o, h'.get? e = some o ∧ o.cls = .type "StopIteration") → E (.ref e) { s with heap := h' }) : wpAny (model prog w) A (Builtin.SmallTypes.nextOf (.ref it)) Q E s := by
  refine el_eaa (id hit) fun o ho hc hd => ?_
  obtain ⟨ol, hol, _, nl, hdl⟩ := ht
  unfold Builtin.SmallTypes.nextOf
  refine wpAny_bind (wpAny_callSpecial?_slot (name := Str.ofString "__next__") hit.typeIs F.slot_tuple_iterator_next (wpAny_call_entry F.slot_tuple_iterator_next hit.typeIs F.entry_tuple_iterator_next ?_ (F.args_tuple_iterator_next_1 _)))
  show wpAny _ _ (field (.ref it) 0 >>= _) _ _ s
  refine wpAny_bind (wpAny_field ho hd (x := .ref t) rfl ?_)
  show wpAny _ _ (if (Value.ref t == Value.none) = true then _ else _) _ _ s
  rw [if_neg (show ¬ ((Value.ref t == Value.none) = true) from Bool.false_ne_true)]
  show wpAny _ _ (field (.ref it) 1 >>= _) _ _ s
  refine wpAny_bind (wpAny_field ho hd (x := .int i 0) rfl ?_)
  show wpAny _ _ (seqItems? (.ref t) >>= _) _ _ s
  refine wpAny_bind (wpAny_seqItems hol hdl ?_)
  simp only [Int.toNat_natCast, hx]
  refine wpAny_bind (wpAny_rule (wpAny_bind (wpAny_setField ho hd (by simp) ?_)))
  show wpAny _ _ (newExc (.type "StopIteration") [] >>= _) _ _ _
  refine wpAny_bind ?_
  simp only [newExc, newTuple]
  refine wpAny_bind (wpAny_newObj_type ?_ (by size_fits))
  refine wpAny_bind (m := firstArgMember _ _) (wpAny_of_eq (a := Value.none) (by first | rfl | (simp only [firstArgMember]; rfl)) ?_)
  refine wpAny_newObj_type ?_ (by size_fits)
  simp only [raiseNew]
  refine wpAny_bind (wpAny_handled ?_)
  first | rw [show A.in1.handled = none from hh] | rw [hh]
  refine wpAny_bind (wpAny_pure (wpAny_throw ?_))
  exact hE _ _ (((Heap.SameBut.update ..).extBut.push _).push _) ⟨_, Heap.get?_push_size _ rfl, rfl⟩
theorem drawsTuple {A : Around} (hh : A.handled = none) (it l : Addr) (hne : l ≠ it) (items : Array Value) : Draws prog w A it [it, l] items.size (fun i v => items[i]? = some v) (fun i h => h.IsTupleIter it l i ∧ h.IsTuple l items) where
  live := fun _ _ st => by obtain ⟨o, ho, _⟩ := st.1; exact ⟨o, ho⟩
  frame := fun _ _ _ st hk => ⟨st.1.at fun o e => hk it (by simp) o e, st.2.at fun o e => hk l (by simp) o e⟩
  item := fun i s Q E hi st hQ => by
    refine next_tuple_item st.1 st.2 (x := items[i]) (by simp [hi]) fun h' hit' hs' => ?_
    exact hQ _ h' s.toks (by simp [hi]) ⟨hit', st.2.extBut hs'.extBut hne⟩ hs'
  done := fun s Q E st hE => next_tuple_end hh st.1 st.2 (by simp) hE
end
theorem meets_enumT (l : Addr) (items : Array Value) (n : Nat) (dct : Option Addr) (sl : Array (Option Value)) :
    Meets (Builtin.«enumerate.__new__» ⟨[.type "enumerate", .ref l], []⟩) (fun _ R s => s.heap.get? l = some { cls := .type "tuple", dict := dct, data := .seq items n, slots := sl } ∧
      R (.ok (.ret (.ref (s.heap.push { cls := .type "tuple_iterator", data := .fields #[.ref l, .int 0 0] }).objs.size)))
        { s with heap := (s.heap.push { cls := .type "tuple_iterator", data := .fields #[.ref l, .int 0 0] }).push { cls := .type "enumerate", data := .fields #[.none, .bool false, .ref s.heap.objs.size, rawInt 0, .none, .none] } }) :=
  .of_wp fun prog w A R s h => by
    obtain ⟨hp, g, d, tk, os⟩ := s; obtain ⟨hl, h⟩ := h
    have hsub := sub_enumerate
    have hL : Heap.IsTuple (Shared.heap ⟨hp, g, d, tk, os⟩) l items := ⟨_, hl, rfl, n, rfl⟩
    wp_walk using PySem.AutoSeq1.wpAny_loadPart' hl
    refine wpAny_stack_any fun st => wpAny_pure ?_
    split
    · rename_i c _ _ _ _ _
      cases (c == Value.type "enumerate")
      · wp_walk using PySem.AutoSeq1.wpAny_loadPart' hl, wpAny_pyIter_tuple hL
        exact ⟨_, rfl, h⟩
      · wp_walk using PySem.AutoSeq1.wpAny_loadPart' hl, wpAny_pyIter_tuple hL
        exact ⟨_, rfl, h⟩
    · wp_walk using PySem.AutoSeq1.wpAny_loadPart' hl, wpAny_pyIter_tuple hL
      exact ⟨_, rfl, h⟩
end
noncomputable section
def gdel (g : GH) (ds : List Addr) : GH := fun a => if a ∈ ds then none else g a
theorem gdel_sub {g : GH} {ds : List Addr} : Sub (gdel g ds) g := fun a o e => by
  unfold gdel at e; split at e
  · cases e
  · exact e
theorem gdel_in {g : GH} {ds : List Addr} {a : Addr} (h : a ∈ ds) : gdel g ds a = none := if_pos h
abbrev enumO (it : Addr) : Obj := { cls := .type "enumerate", data := .fields #[.none, .bool false, .ref it, rawInt 0, .none, .none] }
abbrev iterO (T : String) (l : Addr) : Obj := { cls := .type T, data := .fields #[.ref l, .int 0 0] }
section
variable {α β : Type} {w : World} {H : Heap} {O : OsState} {k : Nat} {hd : Option Value} {X : ExcP} {env : Env} {g : GH} {m : LM} {K : Frag}
theorem call_enumT {A : Around} {E : Value → Shared → Prop} {s : Shared} {l : Addr} {items : Array Value} {Q : Value → Shared → Prop} (hL : s.heap.IsTuple l items)
    (h : Q (.ref (s.heap.objs.size + 1)) { s with heap := (s.heap.push (iterO "tuple_iterator" l)).push (enumO s.heap.objs.size) }) : wpAny (model P0 w) A (call (.type "enumerate") [.ref l]) Q E s := by
  obtain ⟨⟨c, dct, dt, sl⟩, hl, hc, n, hd⟩ := hL
  replace hc : c = .type "tuple" := hc
  replace hd : dt = .seq items n := hd
  subst hc hd
  refine callType_new PySem.F.called_enumerate (by decide) (PySem.F.typeCall_enumerate_1 _) (PySem.F.newCall_enumerate_1 _) (fun obj => PySem.F.args_object_init_2 obj _) PySem.F.entry_enumerate_new (meets_enumT l items n dct sl) ⟨hl, ?_⟩
  have hz : (s.heap.push (iterO "tuple_iterator" l)).objs.size = s.heap.objs.size + 1 := Heap.size_push ..
  have he := Heap.get?_push_size (s.heap.push (iterO "tuple_iterator" l)) (o := enumO s.heap.objs.size) rfl
  show _ ∧ _
  rw [hz] at he ⊢
  exact ⟨⟨_, he, rfl⟩, h⟩
theorem tri_new2 {t : Sem Value} {Q : Value → GH → LM → Prop} {o : Obj} {f : Addr → Obj} (h1 : o.isFreed = false) (h2 : ∀ a, (f a).isFreed = false) (hs : ∀ A fs base s (P : Value → Shared → Prop) (E : Value → Shared → Prop), AOk H k hd fs env base A → Rep H O fs base g s → Frm env m base g s.heap → P (.ref (s.heap.objs.size + 1)) { s with heap := (s.heap.push o).push (f s.heap.objs.size) } → wpAny (model P0 w) A t P E s)
    (h : ∀ a b, g a = none → g b = none → b ≠ a → Q (.ref b) (gset (gset g a o) b (f a)) m) : tri w H O k hd X env t g m Q := .mk fun A fs base s a R F => by
  refine hs A fs base s _ _ a R F ?_
  have z : (s.heap.push o).objs.size = s.heap.objs.size + 1 := Heap.size_push _ _
  have n1 := get_size_none s.heap
  have n2 := get_size_none (s.heap.push o)
  have n2' : s.heap.get? (s.heap.objs.size + 1) = none := get_ge_none (by omega)
  have g1 : Grows s.heap (s.heap.push o) := fun _ _ e => Heap.get?_push_of_some _ e
  have g2 : Grows (s.heap.push o) ((s.heap.push o).push (f s.heap.objs.size)) := fun _ _ e => Heap.get?_push_of_some _ e
  have e2 := Heap.get?_push_size (s.heap.push o) (h2 s.heap.objs.size)
  rw [z] at n2 e2
  have R1 := R.new n1 g1 (Heap.get?_push_size _ h1) s.toks
  have F1 := F.new (o' := o) n1 g1
  exact ⟨_, m, R1.new n2 g2 e2 s.toks, F1.new n2 g2, h _ _ (R.none_g n1) (R.none_g n2') (by simp)⟩
theorem t_enumT {l : Addr} {items : List Value} {Q : Value → GH → LM → Prop} (hl : IsT' H g l items) (h : ∀ it e, g it = none → g e = none → e ≠ it → Q (.ref e) (gset (gset g it (iterO "tuple_iterator" l)) e (enumO it)) m) : tri w H O k hd X env (call (.type "enumerate") [.ref l]) g m Q :=
  tri_new2 (f := enumO) rfl (fun _ => rfl) (fun A fs base s P E a R F q => call_enumT (hl.at R) q) h
theorem t_enumL {l : Addr} {items : List Value} {Q : Value → GH → LM → Prop} (hl : IsL g l items) (h : ∀ it e, g it = none → g e = none → e ≠ it → Q (.ref e) (gset (gset g it (iterO "list_iterator" l)) e (enumO it)) m) : tri w H O k hd X env (call (.type "enumerate") [.ref l]) g m Q := by
  refine tri_new2 (f := enumO) rfl (fun _ => rfl) (fun A fs base s P E a R F q => ?_) h
  obtain ⟨n, e⟩ := hl
  refine callType_new PySem.F.called_enumerate (by decide) (PySem.F.typeCall_enumerate_1 _) (PySem.F.newCall_enumerate_1 _) (fun obj => PySem.F.args_object_init_2 obj _) PySem.F.entry_enumerate_new (meets_enumerate_newL l items.toArray n none #[]) ⟨R.kg _ _ e, ?_⟩
  have hz : (s.heap.push (iterO "list_iterator" l)).objs.size = s.heap.objs.size + 1 := Heap.size_push ..
  have he := Heap.get?_push_size (s.heap.push (iterO "list_iterator" l)) (o := enumO s.heap.objs.size) rfl
  show _ ∧ _
  rw [hz] at he ⊢
  exact ⟨⟨_, he, rfl⟩, q⟩
def NxT (Pt : Nat → Array Value → Prop) (i : Nat) (v : Value) (new : Option (Addr × Obj)) : Prop := ∃ T o vals e, v = .ref T ∧ new = some (T, o) ∧ o.cls = .type "tuple" ∧ o.data = .seq vals e ∧ Pt i vals
theorem Starts.mkT {elts : List Expr} {kk : Nat} {pos : Pos} {g' : GH} {I : Addr} {fp wr : List Addr} {n : Nat} {Pt Pt' : Nat → Array Value → Prop} {It St : Nat → Heap → Prop} {SrcH : Heap → Prop} {Src : GH → Prop} {Mid : Nat → Addr → Heap → Prop} (hsub : Sub g' g) (hwr : ∀ b ∈ wr, g' b = none ∧ ∃ o, g b = some o)
    (W : ∀ A : Around, A.handled = none → WalksT P0 w A I fp wr n Pt St Mid) (hp : ∀ i v, Pt i v → Pt' i v) (ab : ∀ i h, It i h → SrcH h → St i h) (ba : ∀ i h, St i h → It i h) (itk : ∀ i h h', It i h → (∀ b ∈ wr, ∀ o, h.get? b = some o → h'.get? b = some o) → It i h') (hal : ∀ i h, It i h → ∀ b ∈ wr, ∃ o, h.get? b = some o)
    (h0 : ∀ fs base s, Rep H O fs base g s → It 0 s.heap) (hsrc : ∀ g, Src g → ∀ fs base s, Rep H O fs base g s → SrcH s.heap) (hself : ∀ A i s (Q : Value → Shared → Prop) (E : Value → Shared → Prop), It i s.heap → Q (.ref I) s → wpAny (model P0 w) A (pyIter (.ref I)) Q E s) :
    Starts w H O (.Tuple elts kk pos) (.ref I) g g' n (NxT Pt') Src := by
  refine ⟨hsub, fun A fs base s Q E R hQ => hself A 0 s _ _ (h0 fs base s R) (hQ I wr It s.heap ⟨itk, hal, ?_, ?_, hself⟩ (h0 fs base s R) (fun _ _ e => e) fun b hb => .inr (hwr b hb))⟩
  · intro A fs base g s' i Q E hA hi R hS hI hQ
    refine (W A hA).item i s' _ _ hi (ab _ _ hI (hsrc g hS fs base s' R)) fun T vals h' tk hv hT ht hm hk => hQ (.ref T) _ fun Z E' hz => (W A hA).go elts kk pos i T _ _ _ hm fun h'' st hk' => ?_
    have hnw := (W A hA).apart i T _ hm
    obtain ⟨o, ho, hc, e, hd'⟩ := ht
    refine hz (some (T, o)) h'' tk ⟨T, o, vals, e, rfl, rfl, hc, hd', hp _ _ hv⟩ (ba _ _ st) (fun b ob hb z => hk' b ob hb (hk b ob hb z)) fun p hp => ?_
    cases hp
    exact ⟨get_ge_none hT, hnw, hk' T o hnw ho⟩
  · intro A fs base g s' Q E hA R hS hI hQ
    exact (W A hA).done s' _ _ (ab _ _ hI (hsrc g hS fs base s' R)) hQ
abbrev enumPt (items : List Value) (i : Nat) (vals : Array Value) : Prop := ∃ t x, items[i]? = some x ∧ vals = #[.int i t, x]
theorem Starts.enumL {elts : List Expr} {kk : Nat} {pos : Pos} {e it l : Addr} {items : List Value} (he : g e = some (enumO it)) (hi : g it = some (iterO "list_iterator" l)) (hl : IsL g l items) : Starts w H O (.Tuple elts kk pos) (.ref e) g (gdel g [e, it]) items.length (NxT (enumPt items)) (fun g => IsL g l items) := by
  have hei : e ≠ it := fun q => by rw [q, hi] at he; simp [enumO, iterO] at he
  have hle : l ≠ e := fun q => by obtain ⟨n, z⟩ := hl; rw [q, he] at z; simp [enumO] at z
  have hli : l ≠ it := fun q => by obtain ⟨n, z⟩ := hl; rw [q, hi] at z; simp [iterO] at z
  refine Starts.mkT (It := fun i h => (∃ old, IsEnum h e it i old) ∧ h.IsListIter it l i) (SrcH := fun h => h.IsList l items.toArray) (wr := [e, it]) gdel_sub (fun b hb => ⟨gdel_in hb, ?_⟩) (fun A hA => WalksT.enumerate (prog := P0) (w := w) hA e it l hei hle hli items.toArray) (fun i v q => by simpa using q) (fun _ _ a b => ⟨a.1, a.2, b⟩) (fun _ _ a => ⟨a.1, a.2.1⟩) (fun i h h' q kk => ?_) (fun i h q b hb => ?_) (fun fs base s R => ⟨⟨_, R.kg _ _ he⟩, ⟨_, R.kg _ _ hi, rfl, rfl⟩⟩) (fun g q fs base s R => q.at R) (fun A i s Q E ⟨⟨_, q⟩, _⟩ z => wpAny_pyIter_enum q z)
  · rcases List.mem_cons.mp hb with rfl | hb
    · exact ⟨_, he⟩
    · rw [List.mem_singleton.mp hb]; exact ⟨_, hi⟩
  · obtain ⟨⟨old, q1⟩, q2⟩ := q
    exact ⟨⟨old, kk e (.head _) _ q1⟩, q2.at fun o z => kk it (.tail _ (.head _)) o z⟩
  · obtain ⟨⟨old, q1⟩, ⟨o, q2, _⟩⟩ := q
    rcases List.mem_cons.mp hb with rfl | hb
    · exact ⟨_, q1⟩
    · rw [List.mem_singleton.mp hb]; exact ⟨_, q2⟩
theorem Starts.enumT {elts : List Expr} {kk : Nat} {pos : Pos} {e it l : Addr} {items : List Value} (he : g e = some (enumO it)) (hi : g it = some (iterO "tuple_iterator" l)) (hl : IsT' H g l items) (hgH : ∀ a o, H.get? a = some o → g a = none) : Starts w H O (.Tuple elts kk pos) (.ref e) g (gdel g [e, it]) items.length (NxT (enumPt items)) (fun g => IsT' H g l items) := by
  have hei : e ≠ it := fun q => by rw [q, hi] at he; simp [enumO, iterO] at he
  have hlx : ∀ {x : Addr} {o : Obj}, g x = some o → o.cls ≠ .type "tuple" → l ≠ x := fun {x o} z hc q => by
    rcases hl with ⟨o', n, y, c, _⟩ | ⟨o', y, _⟩
    · rw [q, z] at y; cases y; exact hc c
    · rw [q] at y; rw [hgH x o' y] at z; cases z
  have hle : l ≠ e := hlx he (by simp [enumO])
  have hli : l ≠ it := hlx hi (by simp [iterO])
  have W := fun (A : Around) (hA : A.handled = none) => WalksT.enumerateD (prog := P0) (w := w) (A := A) (drawsTuple (prog := P0) (w := w) (A := A.in1) hA it l hli items.toArray) e hei (by simp [hei, Ne.symm hle]) (by simp)
  refine Starts.mkT (It := fun i h => (∃ old, IsEnum h e it i old) ∧ h.IsTupleIter it l i) (SrcH := fun h => h.IsTuple l items.toArray) (wr := [e, it]) gdel_sub (fun b hb => ⟨gdel_in hb, ?_⟩) W (fun i v q => by simpa using q) (fun _ _ a b => ⟨a.1, a.2, b⟩) (fun _ _ a => ⟨a.1, a.2.1⟩) (fun i h h' q kk => ?_) (fun i h q b hb => ?_) (fun fs base s R => ⟨⟨_, R.kg _ _ he⟩, ⟨_, R.kg _ _ hi, rfl, rfl⟩⟩) (fun g q fs base s R => q.at R) (fun A i s Q E ⟨⟨_, q⟩, _⟩ z => wpAny_pyIter_enum q z)
  · rcases List.mem_cons.mp hb with rfl | hb
    · exact ⟨_, he⟩
    · rw [List.mem_singleton.mp hb]; exact ⟨_, hi⟩
  · obtain ⟨⟨old, q1⟩, q2⟩ := q
    exact ⟨⟨old, kk e (.head _) _ q1⟩, q2.at fun o z => kk it (.tail _ (.head _)) o z⟩
  · obtain ⟨⟨old, q1⟩, ⟨o, q2, _⟩⟩ := q
    rcases List.mem_cons.mp hb with rfl | hb
    · exact ⟨_, q1⟩
    · rw [List.mem_singleton.mp hb]; exact ⟨_, q2⟩
theorem Starts.items {elts : List Expr} {kk : Nat} {pos : Pos} {d v : Addr} {o : Obj} {kvs : List (Str × Value)} (e : g d = some o) (hd : o.IsDictOf (strKind P0 w) kvs) (hv : g v = some { cls := .type "dict_items", data := .fields #[.ref d] }) :
    Starts w H O (.Tuple elts kk pos) (.ref v) g g kvs.length (NxT fun i vals => ∃ key x t, kvs[i]? = some (key, x) ∧ vals = #[.str key t, x]) (fun g => g d = some o) := by
  obtain ⟨es, ep, hd⟩ := hd
  refine ⟨fun _ _ e => e, fun A fs base s Q E R hQ => wpAny_pyIter_items (knd := strKind P0 w) ⟨_, R.kg _ _ hv, rfl, rfl⟩ (dict_at R e hd) ?_⟩
  have hn := get_size_none s.heap
  refine hQ s.heap.objs.size [s.heap.objs.size] (fun i h => ∃ ok ov, IsItemIter h s.heap.objs.size d i kvs.length ep ok ov) _ ⟨fun i h h' ⟨a, b, q⟩ kk => ⟨a, b, kk _ (.head _) _ q⟩, fun i h ⟨a, b, q⟩ c hc => by rw [List.mem_singleton.mp hc]; exact ⟨_, q⟩, ?_, ?_, fun A i s Q E ⟨a, b, q⟩ z => kcp_self q z⟩ ⟨_, _, Heap.get?_push_size _ rfl⟩ (fun _ _ e => Heap.get?_push_of_some _ e) fun b hb => .inl (by rw [List.mem_singleton.mp hb]; exact hn)
  · intro A fs base g' s' i Q E hA hi R' hS ⟨ok, ov, hI⟩ hQ
    obtain ⟨⟨key, x⟩, hx⟩ : ∃ p, kvs[i]? = some p := ⟨_, List.getElem?_eq_getElem hi⟩
    refine wpAny_pyNext_items_item (knd := strKind P0 w) hI (dict_at R' hS hd) hx fun kv h' hkv hout hT hsz hk => hQ _ _ fun Z E' hz => wpAny_letOwnedTupleGo_items hout fun h'' hit hsb => ?_
    obtain ⟨t, rfl⟩ := Value.isStrOf_shape hkv
    have hne : s'.heap.objs.size ≠ s.heap.objs.size := fun q => by
      have := get_size_none s'.heap
      rw [q, hI] at this; cases this
    refine hz (some (s'.heap.objs.size, { cls := .type "tuple", data := .seq #[.str key t, x] })) h'' s'.toks ⟨_, _, _, _, rfl, rfl, rfl, rfl, key, x, t, hx, rfl⟩ ⟨_, _, hit⟩ (fun b ob hb z => (hsb.2 b (fun q => hb (q ▸ .head _))).trans (hk b ob (fun q => hb (q ▸ .head _)) z)) fun p hp => ?_
    cases hp
    exact ⟨get_size_none _, fun q => hne (List.mem_singleton.mp q), (hsb.2 _ hne).trans hT⟩
  · intro A fs base g' s' Q E hA R' hS ⟨ok, ov, hI⟩ hQ
    exact wpAny_pyNext_items_end (knd := strKind P0 w) hA hI (dict_at R' hS hd) (by simp) fun h' hx => hQ h' s'.toks fun b ob hb z => hx b ob (fun q => hb (q ▸ .head _)) z
end
end
noncomputable section
section
variable {α β : Type} {w : World} {H : Heap} {O : OsState} {k : Nat} {hdl : Option Value} {X : ExcP} {env : Env} {g : GH} {m : LM} {K : Frag}
theorem tri_ledT {ι : Type} {t : Sem α} {Q : α → GH → LM → Prop} {v : ι → α}
    (hs : ∀ A fs base s mL (P : α → Shared → Prop) (E : Value → Shared → Prop), AOk H k hdl fs env base A → Rep H O fs base g s → Frm env m base g s.heap → Fr H env.locals s.heap mL → News H env.locals s.heap (allN H s.heap env.locals []) →
      (∀ e h' tk, Fr H env.locals h' mL → News H env.locals h' (allN H s.heap env.locals []) → P (v e) { s with heap := h', toks := tk }) → wpAny (model P0 w) A t P E s)
    (h : ∀ e, Q (v e) g m) : tri w H O k hdl X env t g m Q := by
  refine .mk fun A fs base s aa R F => ?_
  obtain ⟨mL, Fr0, hm⟩ := F.fr aa R
  refine hs A fs base s mL _ _ aa R F Fr0 allN_news fun e h' tk F' N' => ?_
  have kept := allN_kept (chg := []) R.topIn F' N'
  refine ⟨g, m, R.chg F kept (fun b hb => nomatch hb) (fun b ob q => ?_) R.dj tk, F.chg kept (fun x c q z => nomatch z) F'.ns hm (fun b ob _ q => q), h e⟩
  exact kept b ob (fun z => by rw [z, F.lg] at q; cases q) (fun z => nomatch z) (R.kg b ob q)
theorem tri_ledN {ι : Type} {t : Sem α} {Q : α → GH → LM → Prop} {v : ι → Addr → α} {f : ι → Obj}
    (hs : ∀ A fs base s mL (P : α → Shared → Prop) (E : Value → Shared → Prop), AOk H k hdl fs env base A → Rep H O fs base g s → Frm env m base g s.heap → Fr H env.locals s.heap mL → News H env.locals s.heap (allN H s.heap env.locals []) →
      (∀ e a h' tk, ((∀ p ∈ allN H s.heap env.locals [], p.1 < a) ∨ s.heap.get? a = none) → Fr H env.locals h' mL → News H env.locals h' ((a, f e) :: allN H s.heap env.locals []) → P (v e a) { s with heap := h', toks := tk }) → wpAny (model P0 w) A t P E s)
    (h : ∀ e a, g a = none → Q (v e a) (gset g a (f e)) m) : tri w H O k hdl X env t g m Q := by
  refine .mk fun A fs base s aa R F => ?_
  obtain ⟨mL, Fr0, hm⟩ := F.fr aa R
  refine hs A fs base s mL _ _ aa R F Fr0 allN_news fun e a h' tk ha F' N' => ?_
  have kept := allN_kept (chg := [(a, f e)]) R.topIn F' N'
  obtain ⟨n1, n2, n3⟩ := N' _ (.head _)
  have hn : s.heap.get? a = none := by
    rcases ha with ha | ha
    · cases q : s.heap.get? a with
      | none => rfl
      | some o' => exact absurd (ha _ (allN_mem q n2 (fun z => nomatch z) n3)) (Nat.lt_irrefl _)
    · exact ha
  have hga := R.none_g hn
  have hba := R.none_base hn
  refine ⟨_, m, R.chg F kept (fun b hb => nomatch hb) (fun b ob q => ?_) (fun b ob q => ?_) tk, F.chg kept (fun x c q z => nomatch z) F'.ns hm (fun b ob z q => ?_), h e a hga⟩
  · by_cases z : b = a
    · subst z; rw [gset_self] at q; cases q; exact n1
    · rw [gset_ne z] at q
      exact kept b ob (fun z => by rw [z, F.lg] at q; cases q) (fun z => nomatch z) (R.kg b ob q)
  · rw [gset_ne (fun z => by rw [z, hba] at q; cases q)]; exact R.dj b ob q
  · rw [gset_ne (fun y => by rw [y, hn] at z; cases z)]; exact q
theorem Rep.notMods {fs : List Addr} {base : GH} {s : Shared} {d : Addr} {o : Obj} (R : Rep H O fs base g s) (T : Tp K H) (e : g d = some o) : (d == sysModules) = false := by
  obtain ⟨om, hm⟩ := T.mods
  cases q : d == sysModules with
  | false => rfl
  | true => rw [beq_iff_eq.mp q, R.dj _ _ (R.top _ _ hm).1] at e; cases e
theorem allN_pub {fs : List Addr} {base : GH} {s : Shared} {d : Addr} {o : Obj} (R : Rep H O fs base g s) (F : Frm env m base g s.heap) (e : g d = some o) : (d, o) ∈ allN H s.heap env.locals [] := by
  refine allN_mem (R.kg d o e) (fun q => by rw [q, F.lg] at e; cases e) (fun q => nomatch q) ?_
  cases q : H.get? d with
  | none => rfl
  | some o' => have := R.dj d o' (R.top d o' q).1; rw [e] at this; cases this
def IsD (w : World) (g : GH) (d : Addr) (kvs : List (Str × Value)) : Prop := ∃ o, g d = some o ∧ o.IsDictOf (strKind P0 w) kvs
theorem is_str {x : Str} {t : Tok} : (strKind P0 w).is x (.str x t) = true := by
  show Value.isStrOf x (.str x t) = true
  simp [Value.isStrOf]
theorem t_dget {value slice : Expr} {d : Addr} {kvs : List (Str × Value)} {x : Str} {t : Tok} {v : Value} {Q : Value → GH → LM → Prop} (hd : IsD w g d kvs) (hl : valueAt kvs x = some v) (h : Q v g m)
    (hs : subscripted slice false (.ref d) (.str x t) = operate [.ref d, .str x t] (getItem (.ref d) (.str x t))) : tri w H O k none X env (subscriptTail value slice (.ref d) (.str x t)) g m Q := by
  obtain ⟨o, e, hd⟩ := hd
  refine .mk fun A fs base s aa R F => ?_
  exact kdt_tail (h₀ := H) (L := env.locals) allN_news (allN_pub R F e) hd (kdt_getItem (h₀ := H) (L := env.locals) allN_news (allN_pub R F e) hd is_str hl ⟨g, m, R.toks _, F, h⟩) hs
theorem t_din {d : Addr} {kvs : List (Str × Value)} {x : Str} {t : Tok} {Q : Value → GH → LM → Prop} (T : Tp K H) (hd : IsD w g d kvs) (h : Q (.bool (valueAt kvs x).isSome) g m) : tri w H O k hdl X env (compareOp .In (.str x t) (.ref d)) g m Q := by
  obtain ⟨o, e, hd⟩ := hd
  refine .mk fun A fs base s aa R F => ?_
  exact kda_in (h₀ := H) (L := env.locals) allN_news (allN_pub R F e) hd (R.notMods T e) is_str _ rfl ⟨g, m, R.toks _, F, h⟩
theorem t_dnotin {d : Addr} {kvs : List (Str × Value)} {x : Str} {t : Tok} {Q : Value → GH → LM → Prop} (T : Tp K H) (hd : IsD w g d kvs) (h : Q (.bool (!(valueAt kvs x).isSome)) g m) : tri w H O k hdl X env (compareOp .NotIn (.str x t) (.ref d)) g m Q := by
  obtain ⟨o, e, hd⟩ := hd
  refine .mk fun A fs base s aa R F => ?_
  exact kdg_notin (h₀ := H) (L := env.locals) allN_news (allN_pub R F e) hd (R.notMods T e) is_str _ rfl ⟨g, m, R.toks _, F, h⟩
theorem t_dmeth {d : Addr} {kvs : List (Str × Value)} {name : Str} {id : String} {pl : Sem Bool} {Q : Value × List Value → GH → LM → Prop} (hd : IsD w g d kvs) (slot : Slot "dict" name id) (ty : typeOf (.builtin id) = pure (.type "method_descriptor")) (h : Q (.builtin id, [.ref d]) g m) : tri w H O k hdl X env (getMethod (.ref d) name pl) g m Q := by
  obtain ⟨o, e, hd⟩ := hd
  refine .mk fun A fs base s aa R F => ?_
  exact kdl_method (h₀ := H) (L := env.locals) slot ty allN_news (allN_pub R F e) hd ⟨g, m, R, F, h⟩
theorem t_dget1 {d : Addr} {kvs : List (Str × Value)} {x : Str} {t : Tok} {Q : Value → GH → LM → Prop} (T : Tp K H) (hd : IsD w g d kvs) (h : Q ((valueAt kvs x).getD .none) g m) : tri w H O k hdl X env (call (.builtin "dict.get") [.ref d, .str x t]) g m Q := by
  obtain ⟨o, e, hd⟩ := hd
  refine .mk fun A fs base s aa R F => ?_
  exact kdg_get1 (h₀ := H) (L := env.locals) allN_news (allN_pub R F e) hd (R.notMods T e) is_str _ rfl ⟨g, m, R.toks _, F, h⟩
theorem t_dset {d : Addr} {kvs : List (Str × Value)} {x : Str} {t : Tok} {v : Value} {Q : Unit → GH → LM → Prop} (hd : IsD w g d kvs) (hn : kvs.length ≤ 100000) (h : ∀ o, o.IsDictOf (strKind P0 w) (stored kvs x v) → Q () (gset g d o) m) : tri w H O k hdl X env (setItem (.ref d) (.str x t) v) g m Q := by
  obtain ⟨o, e, hd⟩ := hd
  refine tri_ledU (ι := { o' : Obj // o'.IsDictOf (strKind P0 w) (stored kvs x v) }) (f := fun e => e.1) e (fun A fs base s mL P E a R F0 N hne q => ?_) fun ⟨o', ho⟩ => h o' ho
  exact kda_set F0 N (UpdF.head hne) hd is_str (by unfold sizeLine; omega) fun h' o' F' N' ho => q h' _ ⟨o', ho⟩ F' N'
theorem t_ddel {d : Addr} {kvs : List (Str × Value)} {x : Str} {t : Tok} {Q : Unit → GH → LM → Prop} (hd : IsD w g d kvs) (hl : (valueAt kvs x).isSome = true) (hn : kvs.length ≤ 100000) (h : ∀ o, o.IsDictOf (strKind P0 w) (without kvs x) → Q () (gset g d o) m) : tri w H O k hdl X env (delItem (.ref d) (.str x t)) g m Q := by
  obtain ⟨o, e, hd⟩ := hd
  refine tri_ledU (ι := { o' : Obj // o'.IsDictOf (strKind P0 w) (without kvs x) }) (f := fun e => e.1) e (fun A fs base s mL P E a R F0 N hne q => ?_) fun ⟨o', ho⟩ => h o' ho
  exact kob_del F0 N (UpdF.head hne) hd is_str hl (by unfold sizeLine; omega) fun h' o' F' N' ho => q h' _ ⟨o', ho⟩ F' N'
theorem t_dnew {pos : Pos} {Q : Value → GH → LM → Prop} (h : ∀ d o, g d = none → o.IsDictOf (strKind P0 w) [] → Q (.ref d) (gset g d o) m) : tri w H O k hdl X env (eval (.Dict [] [] pos) env) g m Q :=
  tri_new (o := { cls := .type "dict", data := .dict #[] }) (v := fun a => .ref a) (fun A fs base s P E a R F q => wpAny_Dict_empty (q _ _ s.toks (get_size_none _) (fun _ _ e => Heap.get?_push_of_some _ e) (Heap.get?_push_size _ rfl))) fun d hn => h d _ hn ⟨#[], 0, ⟨rfl, rfl, rfl⟩, rfl, fun e he => by simp at he, .nil, .nil⟩
theorem t_ditems {d : Addr} {kvs : List (Str × Value)} {Q : Value → GH → LM → Prop} (T : Tp K H) (hd : IsD w g d kvs) (h : ∀ v, g v = none → Q (.ref v) (gset g v { cls := .type "dict_items", data := .fields #[.ref d] }) m) : tri w H O k hdl X env (call (.builtin "dict.items") [.ref d]) g m Q := by
  obtain ⟨o, e, hd⟩ := hd
  exact tri_ledN (ι := Unit) (v := fun _ a => .ref a) (f := fun _ => { cls := .type "dict_items", data := .fields #[.ref d] }) (fun A fs base s mL P E a R F F0 N q => kdx_view F0 N (allN_pub R F e) hd (R.notMods T e) fun D h' F' N' hlt => q () D h' _ (.inl hlt) F' N') (fun _ => h)
theorem t_dvalues {d : Addr} {kvs : List (Str × Value)} {Q : Value → GH → LM → Prop} (T : Tp K H) (hd : IsD w g d kvs) (h : ∀ v, g v = none → Q (.ref v) (gset g v { cls := .type "dict_values", data := .fields #[.ref d] }) m) : tri w H O k hdl X env (call (.builtin "dict.values") [.ref d]) g m Q := by
  obtain ⟨o, e, hd⟩ := hd
  exact tri_ledN (ι := Unit) (v := fun _ a => .ref a) (f := fun _ => { cls := .type "dict_values", data := .fields #[.ref d] }) (fun A fs base s mL P E a R F F0 N q => kdl_view_values F0 N (allN_pub R F e) hd (R.notMods T e) fun D h' F' N' hlt => q () D h' _ (.inl hlt) F' N') (fun _ => h)
end
end
noncomputable section
def IsLA (H : Heap) (g : GH) (a : Addr) (items : List Value) : Prop := IsL g a items ∨ H.IsList a items.toArray
section
variable {α β : Type} {w : World} {H : Heap} {O : OsState} {k : Nat} {hdl : Option Value} {X : ExcP} {env : Env} {g : GH} {m : LM} {K : Frag}
theorem IsLA.at {a : Addr} {items : List Value} {fs : List Addr} {base : GH} {s : Shared} (h : IsLA H g a items) (R : Rep H O fs base g s) : s.heap.IsList a items.toArray := h.elim (fun h => h.at R) fun ⟨o, e, q⟩ => ⟨o, R.topIn _ _ e, q⟩
theorem t_lenL {l : Addr} {items : List Value} {Q : Value → GH → LM → Prop} (hl : IsLA H g l items) (hn : items.length ≤ 100000) (h : ∀ t, Q (.int items.length t) g m) : tri w H O k hdl X env (call (.builtin "len") [.ref l]) g m Q :=
  tri_tok (v := fun t => .int items.length t) (fun A fs base s P E a R F q => PyProof.Rows.len_list (hl.at R) (by simp; omega) (by simpa using q _ _)) h
theorem t_lenT {l : Addr} {items : List Value} {Q : Value → GH → LM → Prop} (hl : IsT' H g l items) (hn : items.length ≤ 100000) (h : ∀ t, Q (.int items.length t) g m) : tri w H O k hdl X env (call (.builtin "len") [.ref l]) g m Q :=
  tri_tok (v := fun t => .int items.length t) (fun A fs base s P E a R F q => PyProof.Rows.len_tuple (hl.at R) (by simp; omega) (by simpa using q _ _)) h
theorem t_truL {l : Addr} {items : List Value} {Q : Bool → GH → LM → Prop} (hl : IsLA H g l items) (hn : items.length ≤ 100000) (h : Q (!items.isEmpty) g m) : tri w H O k hdl X env (truthy (.ref l)) g m Q :=
  tri_val (fun A fs base s P E a R F q => wpAny_truthy_list (hl.at R) (by simp; omega) (by simpa using q _)) h
theorem t_tup {l : Addr} {items : List Value} {Q : Value → GH → LM → Prop} (hl : IsLA H g l items) (hn : items.length ≤ 10000) (h : ∀ a, g a = none → Q (.ref a) (gset g a (tup items 0)) m) : tri w H O k hdl X env (call (.type "tuple") [.ref l]) g m Q :=
  tri_ledN (ι := Unit) (v := fun _ a => .ref a) (f := fun _ => tup items 0) (fun A fs base s mL P E a R F F0 N q => kde_tupleOf F0 N (hl.at R) (by simp; omega) rfl fun D h' F' N' hlt => q () D h' _ (.inl hlt) F' N') (fun _ => h)
theorem t_addL {l b : Addr} {xs ys : List Value} {Q : Value → GH → LM → Prop} (hl : IsLA H g l xs) (hb : IsLA H g b ys) (hn : xs.length + ys.length ≤ 10000) (h : ∀ a, g a = none → Q (.ref a) (gset g a (lst (xs ++ ys) 0)) m) : tri w H O k hdl X env (binaryOp .Add (.ref l) (.ref b)) g m Q :=
  tri_ledN (ι := Unit) (v := fun _ a => .ref a) (f := fun _ => lst (xs ++ ys) 0) (fun A fs base s mL P E a R F F0 N q => add_arrays F0 N (hl.at R) (hb.at R) (fun h' F' N' => q () _ h' s.toks (.inr (get_size_none _)) F' (by simpa using N')) (by simp [sizeLine]; omega)) (fun _ => h)
theorem t_sum {l : Addr} {vs : List Value} {ns : List Int} {Q : Value → GH → LM → Prop} (hl : IsLA H g l vs) (hi : IntsAre vs ns) (h : ∀ t, Q (.int ns.sum t) g m) : tri w H O k none X env (call (.builtin "sum") [.ref l]) g m Q :=
  tri_ledT (ι := Tok) (v := fun t => .int ns.sum t) (fun A fs base s mL P E a R F F0 N q => LSm.sum_ints F0 N a.hdl (hl.at R) hi fun h' tk t F' N' => q t h' tk F' N') h
theorem t_min2 {a b : Int} {t u : Tok} {Q : Value → GH → LM → Prop} (h : ∀ t, Q (.int (if b < a then b else a) t) g m) : tri w H O k none X env (call (.builtin "min") [.int a t, .int b u]) g m Q :=
  tri_ledT (ι := Unit) (v := fun _ => .int (if b < a then b else a) (if b < a then u else t)) (fun A fs base s mL P E a R F F0 N q => min_two_N a.hdl F0 N fun h' tk F' N' => q () h' tk F' N') fun _ => h _
theorem t_range {n : Nat} {i : Int} {t : Tok} {Q : Value → GH → LM → Prop} (hi : i = n) (h : ∀ r o, g r = none → (∀ g' : GH, g' r = some o → IsR g' r n) → Q (.ref r) (gset g r o) m) : tri w H O k hdl X env (call (.type "range") [.int i t]) g m Q := by
  subst hi
  refine .mk fun A fs base s a R F => ?_
  refine call_range_1 ?_
  have hn := get_size_none s.heap
  have gr : Grows s.heap (s.heap.push { cls := .type "range", data := .fields #[.int 0 s.toks, .int n t, .int 1 (s.toks + 1)] }) := fun _ _ e => Heap.get?_push_of_some _ e
  exact ⟨_, m, R.new hn gr (Heap.get?_push_size _ rfl) _, F.new hn gr, h _ _ (R.none_g hn) fun g' e => ⟨_, _, _, e⟩⟩
theorem t_inL {l : Addr} {vs : List Value} {n : Nat} {x : Int} {t : Tok} {b : Bool} {Q : Value → GH → LM → Prop} (hl : g l = some (lst vs n)) (hi : kf_ints vs = true) (e : (!vs.any (isInt x)) = b) (h : Q (.bool b) g m) : tri w H O k hdl X env (compareOp .NotIn (.int x t) (.ref l)) g m Q := by
  refine .mk fun A fs base s a R F => ?_
  exact kf_notin (h₀ := H) (L := env.locals) (its := vs.toArray) (n := n) allN_news (allN_pub R F hl) hi e ⟨g, m, R, F, h⟩
theorem t_pop {D : Addr} {ys : List Value} {y : Value} {Q : Value → GH → LM → Prop} (hD : IsL g D (ys ++ [y])) (hn : ys.length < 1000000) (h : ∀ e, Q y (gset g D (lst ys e)) m) : tri w H O k hdl X env (call (.builtin "list.pop") [.ref D]) g m Q := by
  obtain ⟨n, hD⟩ := hD
  have hk : ∀ r : List Value, kl_last (r ++ [y]) = some (r, y) := fun r => by
    induction r with
    | nil => rfl
    | cons x r ih => simp only [List.cons_append, kl_last]; rw [ih]
  exact tri_ledU (ι := Unit) (f := fun _ => lst ys (n + 1)) hD (fun A fs base s mL P E a R F0 N hne q => kl_pop (its := (ys ++ [y]).toArray) (n := n) (p := ys) (y := y) F0 N (hk ys) (Upd.head hne) (by simp [sizeLine]; omega) fun h' F' N' => q h' _ () F' N') fun _ => h _
theorem t_clear {D : Addr} {ys : List Value} {Q : Value → GH → LM → Prop} (hD : IsL g D ys) (hn : ys.length < 1000000) (h : ∀ e, Q .none (gset g D (lst [] e)) m) : tri w H O k hdl X env (call (.builtin "list.clear") [.ref D]) g m Q := by
  obtain ⟨n, hD⟩ := hD
  refine tri_upd (f := fun e => lst [] e) hD (fun A fs base s P E a R F ho q => ?_) h
  refine call_meets PySem.F.slot_list_clear ⟨_, ho, rfl⟩ PySem.F.entry_list_clear (PySem.F.args_list_clear_1 _) (PySem.AutoSeq1.list_clear_list_0 D ys.toArray n (by simp [sizeLine]; omega)) ⟨ho, ?_⟩
  have := Heap.get?_update_self (Obj.mapSeq fun _ => #[]) ho (by simp [Obj.mapSeq, Obj.isFreed])
  refine q (if ys.length = 0 then n else n + 1) _ _ (Heap.SameBut.update ..) (this.trans ?_)
  simp [Obj.mapSeq, lst]
  cases ys <;> simp
end
end
noncomputable section
section
variable {α β : Type} {w : World} {H : Heap} {O : OsState} {k : Nat} {hdl : Option Value} {X : ExcP} {env : Env} {g : GH} {m : LM} {K : Frag}
def SliceAt (w : World) (H : Heap) (O : OsState) (k : Nat) (hdl : Option Value) (X : ExcP) (env : Env) (value slice : Expr) (o l u st : Value) (g : GH) (m : LM) (Q : Value → GH → LM → Prop) : Prop :=
  ∀ A fs base s, AOk H k hdl fs env base A → Rep H O fs base g s → Frm env m base g s.heap →
    wpAny (model P0 w) A (subscriptTail value slice o (.ref s.heap.objs.size)) (fun v s' => ∃ g' m', Rep H O fs base g' s' ∧ Frm env m' base g' s'.heap ∧ Q v g' m')
      (fun e s' => ∃ g' m', Rep H O fs base g' s' ∧ Frm env m' base g' s'.heap ∧ X fs base g' m' e s'.heap) { s with heap := s.heap.push { cls := .type "slice", data := .fields #[l, u, st] } }
theorem t_slice {value : Expr} {lo hi st : Option Expr} {p pos : Pos} {Q : Value → GH → LM → Prop}
    (h : tri w H O k hdl X env (eval value env) g m fun o g₁ m₁ => tri w H O k hdl X env (evalPart lo env) g₁ m₁ fun l g₂ m₂ => tri w H O k hdl X env (evalPart hi env) g₂ m₂ fun u g₃ m₃ => tri w H O k hdl X env (evalPart st env) g₃ m₃ fun c g₄ m₄ => SliceAt w H O k hdl X env value (.Slice lo hi st p) o l u c g₄ m₄ Q) :
    tri w H O k hdl X env (eval (.Subscript value (.Slice lo hi st p) pos) env) g m Q := by
  refine tri_eq (arm_eval_Subscript value _ pos env) (tri_bind (tri_mono h fun o g₁ m₁ q => ?_))
  refine .mk fun A fs base s a R F => ?_
  refine wpAny_bind (wpAny_holding (wpAny_Slice ?_))
  refine wpAny_mono (q.run A fs base s a R F) (fun l s₁ ⟨g₂, m₂, R2, F2, q⟩ => ?_) fun _ _ x => x
  refine wpAny_mono (q.run A fs base s₁ a R2 F2) (fun u s₂ ⟨g₃, m₃, R3, F3, q⟩ => ?_) fun _ _ x => x
  refine wpAny_mono (q.run A fs base s₂ a R3 F3) (fun c s₃ ⟨g₄, m₄, R4, F4, q⟩ => ?_) fun _ _ x => x
  exact wpAny_bind (wpAny_standAt (q A fs base s₃ a R4 F4))
theorem t_part0 {Q : Value → GH → LM → Prop} (h : Q .none g m) : tri w H O k hdl X env (evalPart none env) g m Q := tri_pure h
theorem t_part {e : Expr} {Q : Value → GH → LM → Prop} (h : tri w H O k hdl X env (eval e env) g m Q) : tri w H O k hdl X env (evalPart (some e) env) g m Q := h
theorem tri_ledS {v l u c : Value} {o : Obj} {value slice : Expr} {Q : Value → GH → LM → Prop} (hs : ∀ A fs base s mL (P : Value → Shared → Prop) (E : Value → Shared → Prop), AOk H k hdl fs env base A → Rep H O fs base g s → Frm env m base g s.heap → Fr H env.locals s.heap mL → News H env.locals s.heap (allN H s.heap env.locals []) →
      (∀ a h' tk, ((∀ p ∈ allN H s.heap env.locals [], p.1 < a) ∨ s.heap.get? a = none) → Fr H env.locals h' mL → News H env.locals h' ((a, o) :: allN H s.heap env.locals []) → P (.ref a) { s with heap := h', toks := tk }) → wpAny (model P0 w) A (subscriptTail value slice v (.ref s.heap.objs.size)) P E { s with heap := s.heap.push { cls := .type "slice", data := .fields #[l, u, c] } })
    (h : ∀ a, g a = none → Q (.ref a) (gset g a o) m) : SliceAt w H O k hdl X env value slice v l u c g m Q := by
  intro A fs base s aa R F
  refine el_ea (F.fr aa R) fun mL Fr0 hm => ?_
  refine hs A fs base s mL _ _ aa R F Fr0 allN_news fun a h' tk ha F' N' => ?_
  have kept := allN_kept (chg := [(a, o)]) R.topIn F' N'
  refine el_aa (N' _ (.head _)) fun n1 n2 n3 => ?_
  have hn : s.heap.get? a = none := by
    rcases ha with ha | ha
    · cases q : s.heap.get? a with
      | none => rfl
      | some o' => exact absurd (ha _ (allN_mem q n2 (fun z => nomatch z) n3)) (Nat.lt_irrefl _)
    · exact ha
  have hga := R.none_g hn
  have hba := R.none_base hn
  refine ⟨_, m, R.chg F kept (fun b hb => nomatch hb) (fun b ob q => ?_) (fun b ob q => ?_) tk, F.chg kept (fun x c q z => nomatch z) F'.ns hm (fun b ob z q => ?_), h a hga⟩
  · by_cases z : b = a
    · subst z; rw [gset_self] at q; cases q; exact n1
    · rw [gset_ne z] at q
      exact kept b ob (fun z => by rw [z, F.lg] at q; cases q) (fun z => nomatch z) (R.kg b ob q)
  · rw [gset_ne (fun z => by rw [z, hba] at q; cases q)]; exact R.dj b ob q
  · rw [gset_ne (fun y => by rw [y, hn] at z; cases z)]; exact q
theorem tri_ledS' {ι : Type} {v : Value} {l u c : Value} {value slice : Expr} {r : ι → Value} {Q : Value → GH → LM → Prop} (hs : ∀ A fs base s mL (P : Value → Shared → Prop) (E : Value → Shared → Prop), AOk H k hdl fs env base A → Rep H O fs base g s → Frm env m base g s.heap → Fr H env.locals s.heap mL → News H env.locals s.heap (allN H s.heap env.locals []) →
      (∀ e h' tk, Fr H env.locals h' mL → News H env.locals h' (allN H s.heap env.locals []) → P (r e) { s with heap := h', toks := tk }) → wpAny (model P0 w) A (subscriptTail value slice v (.ref s.heap.objs.size)) P E { s with heap := s.heap.push { cls := .type "slice", data := .fields #[l, u, c] } })
    (h : ∀ e, Q (r e) g m) : SliceAt w H O k hdl X env value slice v l u c g m Q := by
  intro A fs base s aa R F
  refine el_ea (F.fr aa R) fun mL Fr0 hm => ?_
  refine hs A fs base s mL _ _ aa R F Fr0 allN_news fun e h' tk F' N' => ?_
  have kept := allN_kept (chg := []) R.topIn F' N'
  refine ⟨g, m, R.chg F kept (fun b hb => nomatch hb) (fun b ob q => ?_) R.dj tk, F.chg kept (fun x c q z => nomatch z) F'.ns hm (fun b ob _ q => q), h e⟩
  exact kept b ob (fun z => by rw [z, F.lg] at q; cases q) (fun z => nomatch z) (R.kg b ob q)
theorem t_slL {value slice : Expr} {l : Addr} {items : List Value} {vl vu vk : Value} {lo hi st : Option Int} {ops : Value → List Value} {Q : Value → GH → LM → Prop} (hl : IsLA H g l items) (pl : IsPart vl lo) (pu : IsPart vu hi) (pk : IsPart vk st) (h0 : st ≠ some 0) (hn : items.length ≤ 100000)
    (hs : ∀ i, subscripted slice false (.ref l) (.ref i) = operate (ops (.ref i)) (getItem (.ref l) (.ref i))) (ht : ∀ r, letTemporaryGo value (.ref l) r = pure ())
    (h : ∀ a, g a = none → Q (.ref a) (gset g a (lst (slicePick items.toArray lo hi st).toList 0)) m) : SliceAt w H O k hdl X env value slice (.ref l) vl vu vk g m Q :=
  tri_ledS (o := lst (slicePick items.toArray lo hi st).toList 0) (fun A fs base s mL P E a R F F0 N q => slice_list3 F0 N (hl.at R) pl pu pk h0 (fun h' F' N' => q _ h' s.toks (.inr (get_ge_none (by omega))) F' (by simpa using N')) (hs _) ht (by simp [sizeLine]; omega)) h
theorem t_slSn {value slice : Expr} {x : Str} {t ui : Tok} {i : Int} {Q : Value → GH → LM → Prop} (hn : x.length ≤ 100000) (hs : ∀ i, subscripted slice false (.str x t) (.ref i) = operate [.ref i, .str x t] (getItem (.str x t) (.ref i))) (ht : ∀ r, letTemporaryGo value (.str x t) r = pure ())
    (h : ∀ t', Q (.str (Txt.slice x (some i) none) t') g m) : SliceAt w H O k hdl X env value slice (.str x t) (.int i ui) .none .none g m Q :=
  tri_ledS' (ι := Tok) (r := fun t' => .str (Txt.slice x (some i) none) t') (fun A fs base s mL P E a R F F0 N q => slice_strN_sn F0 N (fun h' t' k F' N' => q t' h' k F' N') (hs _) ht (by simp [sizeLine]; omega)) h
theorem t_slnS {value slice : Expr} {x : Str} {t ui : Tok} {i : Int} {Q : Value → GH → LM → Prop} (hn : x.length ≤ 100000) (hs : ∀ i, subscripted slice false (.str x t) (.ref i) = operate [.ref i, .str x t] (getItem (.str x t) (.ref i))) (ht : ∀ r, letTemporaryGo value (.str x t) r = pure ())
    (h : ∀ t', Q (.str (Txt.slice x none (some i)) t') g m) : SliceAt w H O k hdl X env value slice (.str x t) .none (.int i ui) .none g m Q :=
  tri_ledS' (ι := Tok) (r := fun t' => .str (Txt.slice x none (some i)) t') (fun A fs base s mL P E a R F F0 N q => slice_strN_ns F0 N (fun h' t' k F' N' => q t' h' k F' N') (hs _) ht (by simp [sizeLine]; omega)) h
theorem t_adds {x y : Str} {t u : Tok} {Q : Value → GH → LM → Prop} (hn : x.length + y.length ≤ 100000) (h : ∀ n, Q (.str (x ++ y) n) g m) : tri w H O k hdl X env (binaryOp .Add (.str x t) (.str y u)) g m Q :=
  tri_tok (fun _ _ _ _ _ _ _ _ _ q => PyProof.Rows.add_str (fun t' tk => q _ _) (by simp [sizeLine]; omega)) h
theorem t_str {a : Int} {t : Tok} {Q : Value → GH → LM → Prop} (ha : a.natAbs.log2 < 1920) (h : ∀ n, Q (.str (toString a) n) g m) : tri w H O k hdl X env (call (.type "str") [.int a t]) g m Q :=
  tri_tok (fun _ _ _ _ _ _ _ _ _ q => PySem.P.str_of_int ha (q _ _)) h
theorem t_idxS {value slice : Expr} {x : Str} {t u : Tok} {i : Int} {Q : Value → GH → LM → Prop} (hr : fitsSsize i = true) (h1 : -(x.length : Int) ≤ i) (h2 : i < x.length) (h : ∀ n, Q (.str (Txt.item x i) n) g m)
    (hs : subscripted slice false (.str x t) (.int i u) = operate [.str x t, .int i u] (getItem (.str x t) (.int i u))) (ht : ∀ r, letTemporaryGo value (.str x t) r = pure ()) : tri w H O k hdl X env (subscriptTail value slice (.str x t) (.int i u)) g m Q :=
  tri_tok (v := fun n => .str (Txt.item x i) n) (fun _ _ _ _ _ _ _ _ _ q => item_str hr h1 h2 (fun _ => q _ _) hs ht) h
theorem t_join {D : Addr} {items : List Value} {ys : List Str} {x : Str} {t : Tok} {Q : Value → GH → LM → Prop} (hl : IsLA H g D items) (hi : StrsAre items ys) (hok : (ys.map (·.length)).sum + ys.length * x.length ≤ 16777216) (h : ∀ n, Q (.str (Txt.join x ys) n) g m) : tri w H O k hdl X env (call (.builtin "str.join") [.str x t, .ref D]) g m Q :=
  tri_tok (v := fun n => .str (Txt.join x ys) n) (fun _ _ _ _ _ _ _ R _ q => join_list (hl.at R) hi hok (fun _ _ => q _ _)) h
theorem t_sindex {x y : Str} {t u : Tok} {i : Nat} {rest : List Nat} {Q : Value → GH → LM → Prop} (ho : Builtin.Str.occurrences x y 0 x.length 1 = i :: rest) (h : ∀ n, Q (.int i n) g m) : tri w H O k hdl X env (call (.builtin "str.index") [.str x t, .str y u]) g m Q :=
  tri_tok (v := fun n => .int i n) (fun _ _ _ _ _ _ _ R _ q => SC.index ho (q _ _)) h
theorem t_split {x y : Str} {t u : Tok} {Q : Value → GH → LM → Prop} (hy : (y.length == 0) = false) (hn : x.length ≤ 100000) (h : ∀ l a, l.map (·.1) = Txt.split x y → g a = none → Q (.ref a) (gset g a (lst (strValues l) 0)) m) : tri w H O k hdl X env (call (.builtin "str.split") [.str x t, .str y u]) g m Q :=
  tri_ledN (ι := { l : List (Str × Tok) // l.map (·.1) = Txt.split x y }) (v := fun _ a => .ref a) (f := fun l => lst (strValues l.1) 0) (fun A fs base s mL P E a R F F0 N q => splitN1 F0 N hy (fun l h' k hl F' N' => q ⟨l, hl⟩ _ h' k (.inr (get_size_none _)) F' N') (by simp [sizeLine]; omega)) (fun l a ha => h l.1 a l.2 ha)
end
end
noncomputable section
def Fly (base g : GH) (c ev : Value) (h : Heap) : Prop :=
  ∃ e oe vs, ev = .ref e ∧ base e = none ∧ g e = none ∧ h.get? e = some oe ∧ oe.cls = c ∧ oe.data = .fields vs ∧
    (vs[1]? = some .none ∨ ∃ T oT ts, vs[1]? = some (.ref T) ∧ base T = none ∧ g T = none ∧ T ≠ e ∧ h.get? T = some oT ∧ oT.data = .fields ts ∧ 3 < ts.size)
section
variable {α β : Type} {w : World} {H : Heap} {O : OsState} {k : Nat} {hdl : Option Value} {X : ExcP} {env : Env} {g : GH} {m : LM} {K : Frag} {fs : List Addr} {base : GH} {s : Shared} {A : Around} {E : Value → Shared → Prop}
theorem Flight.fly {c ev : Value} {h : Heap} (f : Flight base g c ev h) : Fly base g c ev h := by
  obtain ⟨e, oe, vs, T, oT, ts, a1, a2, a3, a4, a5, a6, a7, a8, a9, a10, a11, a12, a13⟩ := f
  exact ⟨e, oe, vs, a1, a2, a3, a4, a5, a6, .inr ⟨T, oT, ts, a7, a8, a9, a10, a11, a12, a13⟩⟩
theorem Rep.slots {h' : Heap} {ex : List Addr} (R : Rep H O fs base g s) (h1 : ∀ b o, b ∉ fs → b ∉ ex → s.heap.get? b = some o → h'.get? b = some o) (h2 : ∀ b o, b ∉ ex → s.heap.get? b = some o → ∃ sl, h'.get? b = some { o with slots := sl })
    (hx : ∀ b ∈ ex, base b = none ∧ g b = none) (hg : ∀ b o, g b = some o → b ∉ fs) : Rep H O fs base g { s with heap := h' } := by
  refine ⟨R.top, fun b o e => ?_, fun b o e => ?_, R.dj, R.gens, R.os⟩
  · refine el_ea (R.kb b o e) fun sl q z => ?_
    have nx : b ∉ ex := fun y => by rw [(hx b y).1] at e; cases e
    by_cases hb : b ∈ fs
    · obtain ⟨sl', q'⟩ := h2 b _ nx q
      exact ⟨sl', q', fun n => absurd hb n⟩
    · exact ⟨sl, h1 b _ hb nx q, z⟩
  · exact h1 b o (hg b o e) (fun y => by rw [(hx b y).2] at e; cases e) (R.kg b o e)
theorem Frm.slots {h h' : Heap} {ex : List Addr} (F : Frm env m base g h) (h2 : ∀ b o, b ∉ ex → h.get? b = some o → ∃ sl, h'.get? b = some { o with slots := sl }) (hx : ∀ b ∈ ex, ∃ o vs, h.get? b = some o ∧ o.data = .fields vs) : Frm env m base g h' := by
  refine F.mono g ⟨fun o => match h'.get? env.locals with | some o' => o'.slots | none => #[], fun o e => ?_⟩ (fun c v ⟨o, e, d⟩ n => ?_) fun _ _ _ e => e
  · refine el_eeeaa F.ns fun o' es n q1 q2 _ => ?_
    rw [e] at q1; cases q1
    obtain ⟨sl, q⟩ := h2 env.locals o (fun y => by obtain ⟨o1, vs, z1, z2⟩ := hx _ y; rw [e] at z1; cases z1; rw [q2] at z2; cases z2) e
    rw [q]
  · obtain ⟨sl, q⟩ := h2 c o (fun y => by obtain ⟨o1, vs, z1, z2⟩ := hx _ y; rw [e] at z1; cases z1; rw [d] at z2; cases z2) e
    exact ⟨_, q, d⟩
theorem AOk.funFrames (a : AOk H k hdl fs env base A) (R : Rep H O fs base g s) (F : Frm env m base g s.heap) (hf : env.frame = some env.locals) : ∃ outer, A.frames = some (env :: outer) ∧ fs = (env :: outer).filterMap (·.frame) ∧ s.heap.FunFrames {} (env :: outer) := by
  refine el_eaaaa a.fr fun fr h1 h2 h3 h4 _ => ?_
  obtain ⟨outer, rfl⟩ := h4 hf
  refine ⟨outer, h1, h2, ?_⟩
  have key : ∀ l : List Env, (∀ e ∈ l, e.scope.kind = .function ∧ ∃ L, e.frame = some L ∧ (L = env.locals ∨ ∃ o es n, base L = some o ∧ o.data = .dict es n)) → s.heap.FunFrames {} l := by
    intro l
    induction l with
    | nil => intro _; trivial
    | cons e r ih =>
      intro hl
      refine el_aea (hl e (.head _)) fun q1 L q2 q3 => ?_
      refine ⟨by rw [q1]; exact fun z => (by cases z), ?_, ih fun e he => hl e (.tail _ he)⟩
      rcases q3 with rfl | ⟨o, es, n, b, d⟩
      · refine el_eeeaa F.ns fun o es n z1 z2 _ => ?_
        exact ⟨_, o, q2, rfl, z1, fun vs q => by rw [z2] at q; cases q⟩
      · refine el_ea (R.kb L o b) fun sl q _ => ?_
        exact ⟨L, _, q2, rfl, q, fun vs q => by rw [show ({ o with slots := sl } : Obj).data = o.data from rfl, d] at q; cases q⟩
  exact key _ h3
theorem AOk.g_fs (a : AOk H k hdl fs env base A) (R : Rep H O fs base g s) (F : Frm env m base g s.heap) : ∀ b o, g b = some o → b ∉ fs := fun b o e hb => by
  rcases a.fs_in hb with q | ⟨o', q⟩
  · rw [q, F.lg] at e; cases e
  · rw [R.dj b o' q] at e; cases e
theorem newEntry_ok {outer : List Env} {L e : Addr} {oe : Obj} {vs : Array Value} {head : Value} {hadNext : Bool} {Q : Unit → Shared → Prop} {M : Model}
    (hfr : A.frames = some (env :: outer)) (hl : s.heap.FunFrames {} (env :: outer)) (hf : env.frame = some L) (he : s.heap.get? e = some oe) (hd : oe.data = .fields vs) (hsz : 1 < vs.size)
    (h : ∀ h' T oT ts, (∀ b o, b ∉ (env :: outer).filterMap (·.frame) → b ∉ [e] → s.heap.get? b = some o → h'.get? b = some o) → (∀ b o, b ∉ [e] → s.heap.get? b = some o → ∃ sl, h'.get? b = some { o with slots := sl }) → s.heap.get? T = none → T ≠ e →
      h'.get? T = some oT → oT.data = .fields ts → 3 < ts.size → h'.get? e = some (oe.mapFields (·.setIfInBounds 1 (.ref T))) → Q () { s with heap := h' }) :
    wpAny M A (do let a ← frameOf env; let pl ← entryPlaceOf L hadNext; let b ← EntryCells.newEntry head a .none (rawInt L) .none pl; setField (.ref e) 1 b) Q E s := by
  have hene : e ∉ (env :: outer).filterMap (·.frame) := fun hm => by
    refine el_aea (hl.mem hm) fun _ o ho hnf => ?_
    rw [he] at ho; injection ho with ho; subst ho; exact hnf vs hd
  refine wpAny_bind (wpAny_frameOf_fun hfr hl hf fun h₁ hs₁ => ?_)
  refine wpAny_bind (wpAny_entryPlaceOf fun pl hpl => ?_)
  unfold EntryCells.newEntry newFields
  refine wpAny_bind (wpAny_newObj_type ?_ (hpl.sizeOk5 _ _ _ _ _))
  have he₁ : h₁.get? e = some oe := (hs₁.2.1 e hene).trans he
  have he₂ := Heap.get?_push_of_some (h := h₁) { cls := .type "traceback", dict := none, data := .fields ([head, .ref L, .none, rawInt L, .none] ++ (if pl.isEmpty then List.replicate 6 Value.none else pl)).toArray } he₁
  refine wpAny_setField he₂ hd hsz ?_
  have hTe : h₁.objs.size ≠ e := Nat.ne_of_gt (Heap.lt_size he₁)
  have hd₃ := Obj.data_mapFields hd (·.setIfInBounds 1 (Value.ref h₁.objs.size))
  have he₃ := Heap.get?_update_self (Obj.mapFields (·.setIfInBounds 1 (Value.ref h₁.objs.size))) he₂ (Obj.isFreed_of_fields hd₃)
  have hT₃ := (Heap.get?_update_other (h₁.push { cls := .type "traceback", dict := none, data := .fields ([head, .ref L, .none, rawInt L, .none] ++ (if pl.isEmpty then List.replicate 6 Value.none else pl)).toArray })
    (Obj.mapFields (·.setIfInBounds 1 (Value.ref h₁.objs.size))) (Ne.symm hTe)).trans (Heap.get?_push_size h₁ rfl)
  have keep : ∀ b o, b ≠ e → h₁.get? b = some o → ((h₁.push { cls := .type "traceback", dict := none, data := .fields ([head, .ref L, .none, rawInt L, .none] ++ (if pl.isEmpty then List.replicate 6 Value.none else pl)).toArray }).update e (Obj.mapFields (·.setIfInBounds 1 (Value.ref h₁.objs.size)))).get? b = some o := fun b o hbe hb => by
    rw [Heap.get?_update_other _ _ (Ne.symm hbe)]
    exact Heap.get?_push_of_some _ hb
  have nT : s.heap.get? h₁.objs.size = none := by rw [hs₁.1]; exact get_size_none _
  refine h _ h₁.objs.size _ _ (fun b o hb hbe q => keep b o (fun z => hbe (z ▸ .head _)) ((hs₁.2.1 b hb).trans q)) (fun b o hbe q => ?_) nT hTe hT₃ rfl (by simp only [List.size_toArray, List.length_append, List.length_cons, List.length_nil] <;> omega) he₃
  obtain ⟨sl, z⟩ := hs₁.2.2 b o q
  exact ⟨sl, keep b _ (fun z => hbe (z ▸ .head _)) z⟩
theorem note_ok {c ev : Value} {Q : Unit → Shared → Prop} {M : Model} (hf : env.frame = some env.locals) (a : AOk H k hdl fs env base A) (R : Rep H O fs base g s) (F : Frm env m base g s.heap) (fl : Fly base g c ev s.heap)
    (h : ∀ s', Rep H O fs base g s' → Frm env m base g s'.heap → Flight base g c ev s'.heap → Q () s') : wpAny M A (noteFrame ev env) Q E s := by
  refine el_eaa (a.funFrames R F hf) fun outer q1 yy1 q3 => ?_
  obtain rfl := yy1
  obtain ⟨e, oe, vs, rfl, e1, e2, e3, e4, e5, e6⟩ := fl
  have hgf := a.g_fs R F
  unfold noteFrame
  simp only [hf]
  have hfe : ∀ {b : Addr} {o : Obj} {vs : Array Value}, s.heap.get? b = some o → o.data = .fields vs → b ∉ (env :: outer).filterMap (·.frame) := fun {b o vs} z1 z2 hm => by
    refine el_aea (q3.mem hm) fun _ o' ho hnf => ?_
    rw [z1] at ho; cases ho; exact hnf vs z2
  have fin : ∀ (s₁ : Shared), Rep H O ((env :: outer).filterMap (·.frame)) base g s₁ → Frm env m base g s₁.heap → s₁.heap.get? e = some oe → s₁.heap.FunFrames {} (env :: outer) → ∀ (hz : 1 < vs.size) head hadNext,
      wpAny M A (do let a ← frameOf env; let pl ← entryPlaceOf env.locals hadNext; let b ← EntryCells.newEntry head a .none (rawInt env.locals) .none pl; setField (.ref e) 1 b) Q E s₁ := fun s₁ R1 F1 he hl hz head hadNext => by
    refine newEntry_ok q1 hl hf he e5 hz fun h' T oT ts k1 k2 k3 k4 k5 k6 k7 k8 => ?_
    have R2 := R1.slots (ex := [e]) k1 k2 (fun b hb => by rw [List.mem_singleton.mp hb]; exact ⟨e1, e2⟩) (a.g_fs R1 F1)
    have F2 := F1.slots k2 (fun b hb => by rw [List.mem_singleton.mp hb]; exact ⟨oe, vs, he, e5⟩)
    exact h _ R2 F2 ⟨e, _, _, T, oT, ts, rfl, e1, e2, k8, (Obj.cls_mapFields _ _).trans e4, Obj.data_mapFields e5 _, by simp [hz], R1.none_base k3, R1.none_g k3, k4, k5, k6, k7⟩
  rcases e6 with e6 | ⟨T, oT, ts, t1, t2, t3, t4, t5, t6, t7⟩
  · refine wpAny_bind (wpAny_field e3 e5 e6 ?_)
    rw [if_neg (by decide)]
    exact fin s R F e3 q3 (Array.getElem?_eq_some_iff.mp e6).1 _ _
  · refine wpAny_bind (wpAny_field e3 e5 t1 ?_)
    rw [if_pos (show (Value.ref T != Value.none) = true from by simp)]
    have h3 : ts[3]? = some ts[3] := by simp [t7]
    refine wpAny_bind (wpAny_field t5 t6 h3 ?_)
    split
    · exact wpAny_pure (h s R F ⟨e, oe, vs, T, oT, ts, rfl, e1, e2, e3, e4, e5, t1, t2, t3, t4, t5, t6, t7⟩)
    · refine wpAny_bind (wpAny_setField t5 t6 t7 ?_)
      have other : ∀ b, b ≠ T → (s.heap.update T (Obj.mapFields (·.setIfInBounds 3 Value.none))).get? b = s.heap.get? b := fun b hb => Heap.get?_update_other _ _ (Ne.symm hb)
      have hx1 : ∀ b o, b ∉ [T] → s.heap.get? b = some o → (s.heap.update T (Obj.mapFields (·.setIfInBounds 3 Value.none))).get? b = some o := fun b o hb z => (other b fun y => hb (y ▸ .head _)).trans z
      have R1 := R.slots (h' := s.heap.update T (Obj.mapFields (·.setIfInBounds 3 Value.none))) (ex := [T]) (fun b o _ hb z => hx1 b o hb z) (fun b o hb z => ⟨o.slots, hx1 b o hb z⟩) (fun b hb => by rw [List.mem_singleton.mp hb]; exact ⟨t2, t3⟩) hgf
      have F1 := F.slots (h' := s.heap.update T (Obj.mapFields (·.setIfInBounds 3 Value.none))) (ex := [T]) (fun b o hb z => ⟨o.slots, hx1 b o hb z⟩) (fun b hb => by rw [List.mem_singleton.mp hb]; exact ⟨oT, ts, t5, t6⟩)
      refine fin _ R1 F1 ((other e (Ne.symm t4)).trans e3) (q3.of_keeps fun b o hb hnf => ⟨o, (other b fun q => ?_).trans hb, rfl⟩) (Array.getElem?_eq_some_iff.mp t1).1 _ _
      rw [q, t5] at hb; cases hb; exact hnf ts t6
theorem flight_ok {c ev : Value} {fr : Option Addr} {Q : Unit → Shared → Prop} {M : Model} (hgf : ∀ b o, g b = some o → b ∉ fs) (R : Rep H O fs base g s) (fl : Flight base g c ev s.heap)
    (h : ∀ s', Rep H O fs base g s' → (∀ env m, Frm env m base g s.heap → Frm env m base g s'.heap) → Flight base g c ev s'.heap → Q () s') : wpAny M A (setFlight ev fr) Q E s := by
  obtain ⟨e, oe, vs, T, oT, ts, rfl, e1, e2, e3, e4, e5, t1, t2, t3, t4, t5, t6, t7⟩ := fl
  unfold setFlight
  refine wpAny_bind (wpAny_field e3 e5 t1 ?_)
  rw [if_pos (show (Value.ref T != Value.none) = true from by simp)]
  refine wpAny_setField t5 t6 t7 ?_
  generalize hv : (fr.elim Value.none fun f => rawInt f) = v
  have other : ∀ b, b ≠ T → (s.heap.update T (Obj.mapFields (·.setIfInBounds 3 v))).get? b = s.heap.get? b := fun b hb => Heap.get?_update_other _ _ (Ne.symm hb)
  have hx1 : ∀ b o, b ∉ [T] → s.heap.get? b = some o → (s.heap.update T (Obj.mapFields (·.setIfInBounds 3 v))).get? b = some o := fun b o hb z => (other b fun y => hb (y ▸ .head _)).trans z
  have R1 := R.slots (h' := s.heap.update T (Obj.mapFields (·.setIfInBounds 3 v))) (ex := [T]) (fun b o _ hb z => hx1 b o hb z) (fun b o hb z => ⟨o.slots, hx1 b o hb z⟩) (fun b hb => by rw [List.mem_singleton.mp hb]; exact ⟨t2, t3⟩) hgf
  refine h _ R1 (fun env m F => F.slots (ex := [T]) (fun b o hb z => ⟨o.slots, hx1 b o hb z⟩) (fun b hb => by rw [List.mem_singleton.mp hb]; exact ⟨oT, ts, t5, t6⟩)) ⟨e, oe, vs, T, _, _, rfl, e1, e2, (other e (Ne.symm t4)).trans e3, e4, e5, t1, t2, t3, t4, Heap.get?_update_self _ t5 (Obj.isFreed_of_fields (Obj.data_mapFields t6 _)), Obj.data_mapFields t6 _, by simpa using t7⟩
theorem came_ok {c ev : Value} {M : Model} {E' : Value → Shared → Prop} (hgf : ∀ b o, g b = some o → b ∉ fs) (R : Rep H O fs base g s) (fl : Flight base g c ev s.heap)
    (h : ∀ s', Rep H O fs base g s' → (∀ env m, Frm env m base g s.heap → Frm env m base g s'.heap) → Flight base g c ev s'.heap → E' ev s') : cameBackBy M A env E' ev s := by
  obtain ⟨e, oe, vs, T, oT, ts, rfl, e1, e2, e3, e4, e5, t1, t2, t3, t4, t5, t6, t7⟩ := id fl
  unfold cameBackBy
  refine wpAny_bind (wpAny_field e3 e5 t1 ?_)
  rw [if_neg (show ¬ ((Value.ref T == Value.none) = true) from Bool.false_ne_true)]
  exact flight_ok hgf R fl h
end
end
noncomputable section
def exc (P : Value → GH → LM → Prop) : ExcP := fun fs base g m e h => ∃ c, Fly base g c e h ∧ P c g m
section
variable {α β : Type} {w : World} {H : Heap} {O : OsState} {k : Nat} {hdl : Option Value} {X : ExcP} {env : Env} {g : GH} {m : LM} {K : Frag} {fs : List Addr} {base : GH} {s : Shared} {A : Around} {E : Value → Shared → Prop} {P : Value → GH → LM → Prop}
theorem Fly.sub {base' : GH} {c e : Value} {h : Heap} (hb : ∀ a, base' a = none → base a = none) (f : Fly base' g c e h) : Fly base g c e h := by
  obtain ⟨ea, oe, vs, e0, e1, e2, e3, e4, e5, e6⟩ := f
  exact ⟨ea, oe, vs, e0, hb _ e1, e2, e3, e4, e5, e6.imp id fun ⟨T, oT, ts, t1, t2, t3⟩ => ⟨T, oT, ts, t1, hb _ t2, t3⟩⟩
theorem exc_add {ps : GH} {g' : GH} {m' : LM} {e : Value} {h' : Heap} (q : exc P fs (addB base ps) g' m' e h') : exc P fs base g' m' e h' := by
  refine el_ea q fun c f p => ?_; clear q
  refine ⟨c, f.sub fun a ha => ?_, p⟩
  unfold addB at ha
  split at ha
  · cases ha
  · exact ha
theorem made_fly {h' : Heap} {e : Addr} {cls : Value} {args : List Value} (R : Rep H O fs base g s) (F : Frm env m base g s.heap) (hm : Heap.MadeExcOf s.heap h' e cls args) : Rep H O fs base g { s with heap := h' } ∧ Frm env m base g h' ∧ Fly base g cls (.ref e) h' := by
  refine el_eaa hm.there fun t h1 h2 h3 => ?_
  exact ⟨R.grow hm.keeps s.toks, F.grow hm.keeps, e, _, _, rfl, R.none_base hm.new, R.none_g hm.new, h1, rfl, rfl, .inl rfl⟩
theorem t_raiseV {x : Str} {np cpos pos : Pos} {e₀ : Expr} {rest : List Expr} {Q : Flow → GH → LM → Prop} (he : starEach (e₀ :: rest) env = (false, eval e₀ env) :: starEach rest env) (hplain : (backTo cpos (starEach rest env)).any (·.1) = false)
    (h : tri w H O k none (exc P) env (eval (.Name x np) env) g m fun f g₁ m₁ => f = .type "ValueError" ∧ tri w H O k none (exc P) env (spliced (backTo cpos (starEach (e₀ :: rest) env))) g₁ m₁ fun vs g₂ m₂ => vs.length ≤ 1000 ∧ P (.type "ValueError") g₂ m₂) :
    tri w H O k none (exc P) env (exec (.Raise (some (.Call (.Name x np) (e₀ :: rest) [] cpos)) none pos) env) g m Q := .mk fun A fs base s a R F => by
  refine Raise_madeB PySem.F.excCall_ValueError PySem.F.excRaise_ValueError a.hdl (wpAny_mono (h.run A fs base s a R F) (fun f s₁ ⟨g₁, m₁, R1, F1, q0, q⟩ => ⟨q0, ?_⟩) fun _ _ x => x) he hplain
  refine wpAny_mono (q.run A fs base s₁ a R1 F1) (fun vs s₂ ⟨g₂, m₂, R2, F2, q1, q2⟩ => ⟨Nat.le_trans q1 (by decide), fun h' e hm => ?_⟩) fun _ _ x => x
  refine el_aa (made_fly R2 F2 (cls := .type "ValueError") (args := vs) ⟨hm.keeps, hm.new, hm.there⟩) fun r1 r2 r3 => ?_
  exact ⟨g₂, m₂, r1, r2, _, r3, q2⟩
theorem tri_callX {f : Value} {args : List Value} {kw : List (Str × Value)} {Rq RX : Value → GH → Prop} {Q : Value → GH → LM → Prop} (h : fnS w H O k f ⟨args, kw⟩ g Rq RX) (hq : ∀ v g', Rq v g' → Q v g' m) (hx : ∀ c g', RX c g' → P c g' m) : tri w H O k none (exc P) env (call f args kw) g m Q := by
  refine .mk fun A fs base s a R F => ?_
  refine wpAny_call (codeAny_mono (h A fs _ s (a.call R F) R.rest) fun r s' hr => ?_)
  cases r with
  | error e =>
    refine el_eeaa hr fun g' c R' fl q => ?_; clear hr
    refine ⟨g', m, R.back R' (fun _ _ _ n => n), F.back R R', c, fl.fly.sub fun a ha => ?_, hx c g' q⟩
    cases q : base a with
    | none => rfl
    | some o =>
      refine el_ea (R.kb a o q) fun sl z _ => ?_
      rw [restG_some z (R.dj a o q)] at ha; cases ha
  | ok f =>
    cases f with
    | ret v => obtain ⟨g', R', q⟩ := hr; exact ⟨g', m, R.back R' (fun _ _ _ n => n), F.back R R', hq v g' q⟩
    | _ => exact hr
theorem leave_ok {c ev : Value} {Q : Unit → Shared → Prop} {M : Model} (hf : env.frame = some env.locals) (a : AOk H k hdl fs env base A) (R : Rep H O fs base g s) (F : Frm env m base g s.heap) (fl : Fly base g c ev s.heap)
    (h : ∀ s', Rep H O fs base g s' → Flight base g c ev s'.heap → Q () s') : wpAny M A (leaving env ev) Q E s := by
  unfold leaving
  exact wpAny_bind (note_ok hf a R F fl fun s' R1 F1 fl1 => flight_ok (a.g_fs R1 F1) R1 fl1 fun s2 R2 _ fl2 => h s2 R2 fl2)
theorem fn_introX {f : Addr} {o : Obj} {fd : FuncData} {body : List Stmt} {args : Args} {binds : List (Str × Value)} {R RX : Value → GH → Prop} (T : Tp K H) (ho : K.lookup f = some o) (hdata : o.data = .func fd) (hcd : codeIn K fd.code fd.qualname = true) (hbody : fd.body = .stmts body)
    (hbind : ∀ s, BindsTo s fd args binds) (hclo : fd.closure = []) (hcell : ∀ x ∈ fd.scope.names, x.2 ≠ .cell) (hloc : ∀ x ∈ binds, fd.scope.names.lookup x.1 = some .local)
    (h : ∀ L, tri w H O k none (exc fun c g' _ => RX c g') (callEnv fd L f) (execs body (callEnv fd L f)) g (bindM binds) fun fl g' _ => R (match fl with | .ret v => v | _ => .none) g')
    (hco : fd.scope.isCoroutine = false) (hgen : fd.scope.isGenerator = false) (hk : fd.scope.kind = .function) : fnS w H O (k + 1) (.ref f) args g R RX := by
  intro A fs base s a Rp
  have X := T.X.keeps Rp.topIn
  refine codeAny_call_def (fd := fd) (body := body) (binds := binds) (by have := a.depth; unfold recursionLimit; omega) (X _ _ ho) hdata (T.nolimit.keeps Rp.topIn) (codeRec_of X hcd) hbody (hbind s) hcell hloc (fun h₁ hns hg => ?_) hco hgen hk
  refine el_aaaa (enter_ok (k := k) (tk := s.toks + binds.length) (env := callEnv fd s.heap.objs.size f) (cells := fd.closure) rfl hk a Rp hg (T.sz Rp)) fun a' R' hb hg' back => ?_
  refine wpAny_mono ((h s.heap.objs.size).run _ _ base _ a' R' ?_) (fun fl s' hq => ?_) fun e s' hq => ?_
  · refine el_eeeaaa hns fun o' es n q1 q2 q3 q4 => ?_; clear hns
    refine ⟨⟨o', es, n, q1, q2, q3, fun x _ => q4 x⟩, hb, hg', ?_, ?_, ?_, ?_⟩ <;> · intros; rename_i e; simp [callEnv, newEnv, hclo] at *
  · refine el_eeaa hq fun g' m' R1 _ q => ?_; clear hq
    exact ⟨g', back g' s' R1, q⟩
  · obtain ⟨g', m', R1, F1, c, fl, q⟩ := hq
    exact leave_ok rfl a' R1 F1 fl fun s2 R2 fl2 => ⟨g', c, back g' s2 R2, fl2, q⟩
theorem AOk.mark {e : Value} (a : AOk H k none fs env base A) : AOk H k (some e) fs env base (A.mark (some e)) := ⟨a.depth, a.units, rfl, a.up, a.ff, a.fr⟩
theorem t_try {body orelse suite bs : List Stmt} {b₀ : Stmt} {t : Expr} {hp pos : Pos} {Q : Flow → GH → LM → Prop} (hf : env.frame = some env.locals) (hh : suite = b₀ :: bs)
    (h : tri w H O k none (exc P) env (execs body env) g m (nextQ w H O k none X env orelse Q))
    (hx : ∀ c e g₁ m₁, P c g₁ m₁ → tri w H O k (some e) noX env (eval t env) g₁ m₁ fun cl g₂ m₂ =>
      (∀ (A : Around) (s : Shared) (ea : Addr) (oe : Obj) (Qb : Bool → Shared → Prop) (E : Value → Shared → Prop), e = .ref ea → Grows H s.heap → s.heap.get? ea = some oe → oe.cls = c → Qb true s → wpAny (model P0 w) A (excMatches e cl) Qb E s) ∧ tri w H O k (some e) noX env (execs suite env) g₂ m₂ Q) :
    tri w H O k none X env (exec (.Try body [.ExceptHandler (some t) none suite hp] orelse [] pos) env) g m Q := by
  subst hh
  refine .mk fun A fs base s a R F => ?_
  rw [arm_exec_Try]
  refine wpAny_bind (wpAny_standAt (wpAny_tryStmt_except (wpAny_mono (h.run A fs base s a R F) (fun f s₁ ⟨g₁, m₁, R1, F1, q⟩ => ?_) fun e s₁ ⟨g₁, m₁, R1, F1, c, fl, q⟩ => ?_)))
  · cases f with
    | next => exact q.run A fs base s₁ a R1 F1
    | _ => exact ⟨g₁, m₁, R1, F1, q⟩
  · refine note_ok hf a R1 F1 fl fun s2 R2 F2 fl2 => flight_ok (a.g_fs R2 F2) R2 fl2 fun s3 R3 F3 fl3 => ?_
    have F3 := F3 env m₁ F2
    obtain ⟨ea, oe, vs, Ta, oT, ts, rfl, e1, e2, e3, e4, e5, e6⟩ := id fl3
    have bad : ∀ {x : Value} {s'' : Shared}, (∃ g' m', Rep H O fs base g' s'' ∧ Frm env m' base g' s''.heap ∧ noX fs base g' m' x s''.heap) → ∀ {Z : Prop}, Z := fun ⟨_, _, _, _, q⟩ => q.elim
    have a' := a.mark (e := .ref ea)
    have Pv : Priv (fun b => if b ∈ [ea, Ta] then s3.heap.get? b else none) env base g₁ s3.heap := by
      refine PrivA.priv (wr := [ea, Ta]) fun b hb => ?_
      refine el_aaaaa e6.2 fun t2 t3 t4 t5 t6 t7 => ?_
      have key : ∀ {x : Addr} {o : Obj} {v : Array Value}, s3.heap.get? x = some o → o.data = .fields v → x ≠ env.locals ∧ ∀ y, env.cells.lookup y ≠ some x := fun {x o v} z1 z2 => by
        refine ⟨fun q => ?_, fun y q => ?_⟩
        · refine el_eeeaa F3.ns fun o' _ _ y1 y2 _ => ?_
          rw [← q, z1] at y1; cases y1; rw [z2] at y2; cases y2
        · obtain ⟨⟨o', y1, y2⟩, _⟩ := F3.cell y _ q
          rw [z1] at y1; cases y1; rw [z2] at y2; cases y2
      rcases List.mem_cons.mp hb with rfl | hb
      · exact ⟨⟨oe, e3⟩, e1, e2, key e3 e5⟩
      · rw [List.mem_singleton.mp hb]
        exact ⟨⟨oT, t5⟩, t2, t3, key t5 t6⟩
    refine wpAny_handleBy_cons ?_ (by intro q; simp [byPass] at q)
    refine codeAny_handlers_test (wpAny_mono ((hx c (.ref ea) g₁ m₁ q).hold (fun _ _ _ _ _ _ => noX_add) a' R3 F3 Pv) (fun cl s4 ⟨g4, m4, R4, F4, P4, q4, q5⟩ => ?_) fun _ _ q => bad q)
    have e3' := P4.at_ ea oe (by simp [e3])
    have t5' := P4.at_ Ta oT (by simp [e6.2.2.2.2.1])
    refine q4 _ s4 ea oe _ _ rfl R4.topIn e3' e4 ?_
    have fl4 : Flight base g4 c (.ref ea) s4.heap := ⟨ea, oe, vs, Ta, oT, ts, rfl, e1, P4.ng ea oe (by simp [e3]), e3', e4, e5, e6.1, e6.2.1, P4.ng Ta oT (by simp [e6.2.2.2.2.1]), e6.2.2.2.1, t5', e6.2.2.2.2.2⟩
    refine codeAny_handlers_suite (flight_ok (a'.g_fs R4 F4) R4 fl4 fun s5 R5 F5 fl5 => ?_)
    exact wpAny_mono (q5.run _ fs base s5 a' R5 (F5 env m4 F4)) (fun f s6 hq => hq) fun _ _ q => bad q
theorem for_turnsX {target : Expr} {body orelse : List Stmt} {I : Addr} {wr : List Addr} {n : Nat} {Nx : Nat → Value → Option (Addr × Obj) → Prop} {It : Nat → Heap → Prop} {Src : GH → Prop} {Q : Flow → GH → LM → Prop} (hf : env.frame = some env.locals)
    (J : Nat → GH → LM → Prop) (W : Turns w H O target I wr n Nx It Src) (hsrc : ∀ i g m, J i g m → Src g)
    (turn : ∀ i v new g m, i < n → Nx i v new → J i g m → (∀ p, new = some p → g p.1 = none) → tri w H O k none noX env (assign target env v) (gnew g new) m fun _ g' m' => tri w H O k none (exc P) env (execs body env) g' m' (LoopQ (J (i + 1)) Q))
    (done : ∀ g m, J n g m → tri w H O k none noX env (execs orelse env) g m Q)
    (a : AOk H k none fs env base A) (R : Rep H O fs base g s) (F : Frm env m base g s.heap) (h0 : J 0 g m) (hi : It 0 s.heap) (hp : PrivA wr env base g s.heap) :
    wpAny (model P0 w) A (runOwn (.forLoop target (.ref I) body orelse env) env) (fun f s' => ∃ g' m', Rep H O fs base g' s' ∧ Frm env m' base g' s'.heap ∧ Q f g' m')
      (fun e s' => ∃ g' m', Rep H O fs base g' s' ∧ Frm env m' base g' s'.heap ∧ exc P fs base g' m' e s'.heap) s := by
  refine wpAny_runOwn (h := none) ?_
  have hA : A.mark none = A := rfl
  rw [hA]
  refine codeAny_forLoop_any (I := fun c s' => ∃ i g' m', i ≤ n ∧ c = n - i ∧ Rep H O fs base g' s' ∧ Frm env m' base g' s'.heap ∧ J i g' m' ∧ It i s'.heap ∧ PrivA wr env base g' s'.heap) (fun c s' hc => ?_) n ⟨0, g, m, Nat.zero_le _, rfl, R, F, h0, hi, hp⟩
  obtain ⟨i, g', m', hin, rfl, R', F', hJ, hI, hP⟩ := hc
  have hcl : ∀ {e : Value} {s'' : Shared}, (∃ g' m', Rep H O fs base g' s'' ∧ Frm env m' base g' s''.heap ∧ noX fs base g' m' e s''.heap) → ∀ {Z : Prop}, Z := fun ⟨_, _, _, _, q⟩ => q.elim
  rcases Nat.lt_or_eq_of_le hin with hlt | rfl
  · refine W.item A fs base g' s' i _ _ a.hdl hlt R' (hsrc i g' m' hJ) hI fun v s₁ hgo => ?_
    dsimp only
    refine hgo _ _ fun new h' tk hv hst hk hn => ?_
    refine el_aaa (turn_ok R' F' hP (W.hal _ _ hst) hk hn tk) fun R1 F1 P1 hf' => ?_
    refine wpAny_mono ((turn i v new g' m' hlt hv hJ hf').hold (fun _ _ _ _ _ _ => noX_add) a R1 F1 P1.priv) (fun _ s2 ⟨g2, m2, R2, F2, P2, q⟩ => ?_) fun _ _ q => hcl q
    obtain ⟨P2', keep2⟩ := P1.back P2
    refine wpAny_mono (q.hold (fun _ _ _ _ _ _ => exc_add) a R2 F2 P2'.priv) (fun f s3 ⟨g3, m3, R3, F3, P3, q⟩ => ?_) fun e s3 ⟨g3, m3, R3, F3, c, fl, q⟩ => ?_
    · obtain ⟨P3', keep3⟩ := P2'.back P3
      have hI3 : It (i + 1) s3.heap := W.itk _ _ _ (W.itk _ _ _ hst keep2) keep3
      cases f with
      | next => exact ⟨n - (i + 1), by omega, i + 1, g3, m3, hlt, rfl, R3, F3, q, hI3, P3'⟩
      | cont => exact ⟨n - (i + 1), by omega, i + 1, g3, m3, hlt, rfl, R3, F3, q, hI3, P3'⟩
      | brk => exact ⟨g3, m3, R3, F3, q⟩
      | ret v => exact ⟨g3, m3, R3, F3, q⟩
    · refine note_ok hf a R3 F3 fl fun s4 R4 F4 fl4 => came_ok (a.g_fs R4 F4) R4 fl4 fun s5 R5 F5 fl5 => ?_
      exact ⟨g3, m3, R5, F5 env m3 F4, c, fl5.fly, q⟩
  · refine W.done A fs base g' s' _ _ a.hdl R' (hsrc _ _ _ hJ) hI fun h' tk hk => ?_
    refine wpAny_mono ((done g' m' hJ).run A fs base _ a (R'.iter hP hk tk) (F'.iter hP hk)) (fun f s2 q => q) fun _ _ q => hcl q
theorem t_forX {target : Expr} {body orelse : List Stmt} {Q : Flow → GH → LM → Prop} {x : Value} {g' : GH} {n : Nat} {Nx : Nat → Value → Option (Addr × Obj) → Prop} {Src : GH → Prop} (hf : env.frame = some env.locals) (J : Nat → GH → LM → Prop) (S : Starts w H O target x g g' n Nx Src) (hsrc : ∀ i g m, J i g m → Src g) (h0 : J 0 g' m)
    (turn : ∀ i v new g m, i < n → Nx i v new → J i g m → (∀ p, new = some p → g p.1 = none) → tri w H O k none noX env (assign target env v) (gnew g new) m fun _ g' m' => tri w H O k none (exc P) env (execs body env) g' m' (LoopQ (J (i + 1)) Q))
    (done : ∀ g m, J n g m → tri w H O k none noX env (execs orelse env) g m Q) : tri w H O k none (exc P) env (forOver env target body orelse x) g m Q := by
  refine .mk fun A fs base s a R F => ?_
  unfold forOver
  refine wpAny_bind (wpAny_holding (S.2 A fs base s _ _ R fun I wr It h' W h1 hg hw => ?_))
  exact for_turnsX hf J W hsrc turn done a ((R.less S.1).grow hg s.toks) ((F.less S.1).grow hg) h0 h1 (wr_priv S.1 R F (W.hal _ _ h1) hw)
theorem t_forS {target : Expr} {body orelse : List Stmt} {Q : Flow → GH → LM → Prop} {x : Value} {g' : GH} {n : Nat} {Nx : Nat → Value → Option (Addr × Obj) → Prop} {Src : GH → Prop} (J : Nat → GH → LM → Prop) (S : Starts w H O target x g g' n Nx Src) (hsrc : ∀ i g m, J i g m → Src g) (h0 : J 0 g' m)
    (turn : ∀ i v new g m, i < n → Nx i v new → J i g m → (∀ p, new = some p → g p.1 = none) → tri w H O k none noX env (assign target env v) (gnew g new) m fun _ g' m' => tri w H O k none noX env (execs body env) g' m' (LoopQ (J (i + 1)) Q))
    (done : ∀ g m, J n g m → tri w H O k none noX env (execs orelse env) g m Q) (hf : env.frame = some env.locals := by rfl) : tri w H O k none X env (forOver env target body orelse x) g m Q :=
  .mk fun A fs base s a R F => wpAny_mono ((t_forX (P := fun _ _ _ => False) hf J S hsrc h0 (fun i v new g m h1 h2 h3 h4 => tri_mono (turn i v new g m h1 h2 h3 h4) fun _ _ _ q => q.weak) done).run A fs base s a R F) (fun _ _ q => q) fun _ _ ⟨_, _, _, _, _, _, q⟩ => q.elim
theorem t_forP {target : Expr} {body orelse : List Stmt} {Q : Flow → GH → LM → Prop} {x : Value} {n : Nat} {P : Nat → Value → Prop} {Src : GH → Prop} (J : Nat → GH → LM → Prop) (S : Starts w H O target x g g n (fun i v new => P i v ∧ new = none) Src) (hsrc : ∀ i g m, J i g m → Src g) (h0 : J 0 g m)
    (turn : ∀ i v g m, i < n → P i v → J i g m → tri w H O k none noX env (assign target env v) g m fun _ g' m' => tri w H O k none noX env (execs body env) g' m' (LoopQ (J (i + 1)) Q))
    (done : ∀ g m, J n g m → tri w H O k none noX env (execs orelse env) g m Q) (hf : env.frame = some env.locals := by rfl) : tri w H O k none X env (forOver env target body orelse x) g m Q :=
  t_forS J S hsrc h0 (fun i v new g m hi ⟨hp, hn⟩ hj _ => by subst hn; exact turn i v g m hi hp hj) done hf
abbrev whileQ (J : Nat → GH → LM → Prop) (n : Nat) (Q : Flow → GH → LM → Prop) : Flow → GH → LM → Prop := fun f g₂ m₂ => match f with
  | .next | .cont => ∃ n', n' < n ∧ J n' g₂ m₂
  | .brk => Q .next g₂ m₂
  | .ret v => Q (.ret v) g₂ m₂
theorem t_while {test : Expr} {body orelse : List Stmt} {pos : Pos} {Q : Flow → GH → LM → Prop} (J : Nat → GH → LM → Prop) (n : Nat) (h0 : J n g m)
    (turn : ∀ n g m, J n g m → tri w H O k none noX env (isTrue test env (eval test env)) g m fun b g₁ m₁ => if b = true then tri w H O k none noX env (execs body env) g₁ m₁ (whileQ J n Q) else tri w H O k none noX env (execs orelse env) g₁ m₁ Q) :
    tri w H O k none X env (exec (.While test body orelse pos) env) g m Q := by
  refine .mk fun A fs base s a R F => ?_
  refine wpAny_While ?_
  have hcl : ∀ {e : Value} {s'' : Shared}, (∃ g' m', Rep H O fs base g' s'' ∧ Frm env m' base g' s''.heap ∧ noX fs base g' m' e s''.heap) → ∀ {Z : Prop}, Z := fun ⟨_, _, _, _, q⟩ => q.elim
  refine codeAny_whileLoop (I := fun c s' => ∃ g' m', Rep H O fs base g' s' ∧ Frm env m' base g' s'.heap ∧ J c g' m') (fun c s' ⟨g', m', R', F', hJ⟩ => ?_) n ⟨g, m, R, F, h0⟩
  refine wpAny_mono ((turn c g' m' hJ).run A fs base s' a R' F') (fun b s₁ ⟨g₁, m₁, R1, F1, q⟩ => ?_) fun _ _ q => hcl q
  cases b with
  | true =>
    refine wpAny_mono (q.run A fs base s₁ a R1 F1) (fun f s₂ ⟨g₂, m₂, R2, F2, q⟩ => ?_) fun _ _ q => hcl q
    cases f with
    | next => obtain ⟨n', hn, hJ'⟩ := q; exact ⟨n', hn, g₂, m₂, R2, F2, hJ'⟩
    | cont => obtain ⟨n', hn, hJ'⟩ := q; exact ⟨n', hn, g₂, m₂, R2, F2, hJ'⟩
    | brk => exact ⟨g₂, m₂, R2, F2, q⟩
    | ret v => exact ⟨g₂, m₂, R2, F2, q⟩
  | false =>
    exact wpAny_mono (q.run A fs base s₁ a R1 F1) (fun f s₂ q => q) fun _ _ q => hcl q
end
end
noncomputable section
def uni (g f : GH) : GH := fun a => (g a).or (f a)
def Disj (g f : GH) : Prop := ∀ a, g a = none ∨ f a = none
section
variable {g f : GH} {a : Addr} {o : Obj}
theorem uni_l (h : g a = some o) : uni g f a = some o := by simp [uni, h]
theorem uni_r (d : Disj g f) (h : f a = some o) : uni g f a = some o := by
  rcases d a with q | q
  · simp [uni, q, h]
  · rw [h] at q; cases q
theorem uni_none : uni g f a = none ↔ g a = none ∧ f a = none := by
  unfold uni; cases g a <;> simp
theorem uni_gset : gset (uni g f) a o = uni (gset g a o) f := by
  funext b; by_cases q : b = a <;> simp [gset, uni, q]
theorem uni_gset_r (h : g a = none) : gset (uni g f) a o = uni g (gset f a o) := by
  funext b; unfold gset uni
  by_cases q : b = a
  · subst q; simp [h]
  · simp [q]
theorem Disj.symm (d : Disj g f) : Disj f g := fun a => (d a).symm
theorem Disj.set (d : Disj g f) (h : f a = none) : Disj (gset g a o) f := fun b => by
  by_cases q : b = a
  · subst q; exact .inr h
  · rw [gset_ne q]; exact d b
theorem uni_assoc {k : GH} : uni (uni g f) k = uni g (uni f k) := by
  funext b; unfold uni; cases g b <;> simp
end
section
variable {α β : Type} {w : World} {H : Heap} {O : OsState} {k : Nat} {hdl : Option Value} {X : ExcP} {env : Env} {g : GH} {m : LM} {K : Frag} {fs : List Addr} {base : GH} {s : Shared} {A : Around}
theorem tri.frameG {t : Sem α} {f : GH} {Q : α → GH → LM → Prop} (h : tri w H O k hdl noX env t g m Q) (hD : Disj g f) : tri w H O k hdl X env t (uni g f) m fun v g' m' => ∃ g₀, g' = uni g₀ f ∧ Disj g₀ f ∧ Q v g₀ m' := by
  refine .mk fun A fs base s a R F => ?_
  have sub : Sub g (uni g f) := fun b ob e => uni_l e
  have P : Priv f env base g s.heap := by
    refine ⟨fun a o e => R.kg a o (uni_r hD e), fun a o e => R.g_base (uni_r hD e), fun a o e => (hD a).resolve_right (by rw [e]; exact fun z => nomatch z), fun a o e q => ?_, fun a o e x q => ?_⟩
    · have := F.lg; rw [← q, uni_r hD e] at this; cases this
    · have := (F.cell x a q).2.1; rw [uni_r hD e] at this; cases this
  refine wpAny_mono (h.hold (fun _ _ _ _ _ _ q => q.elim) a (R.less sub) (F.less sub) P) (fun v s' ⟨g', m', R', F', P', q⟩ => ?_) fun _ _ ⟨_, _, _, _, q⟩ => q.elim
  have dj : Disj g' f := fun b => by
    cases e : f b with
    | none => exact .inr rfl
    | some o => exact .inl (P'.ng b o e)
  have look : ∀ b o, uni g' f b = some o → g' b = some o ∨ (g' b = none ∧ f b = some o) := fun b o e => by
    unfold uni at e
    cases z : g' b with
    | some x => rw [z] at e; exact .inl (by simpa using e)
    | none => rw [z] at e; exact .inr ⟨rfl, by simpa using e⟩
  refine ⟨_, m', ⟨R'.top, R'.kb, fun b o e => (look b o e).elim (R'.kg b o) fun z => P'.at_ b o z.2, fun b o e => uni_none.mpr ⟨R'.dj b o e, ?_⟩, R'.gens, R'.os⟩, ⟨F'.ns, F'.lb, uni_none.mpr ⟨F'.lg, ?_⟩, fun x c e => let ⟨x1, x2, x3⟩ := F'.cell x c e; ⟨x1, uni_none.mpr ⟨x2, ?_⟩, x3⟩, F'.inj, F'.ck, F'.own⟩, g', rfl, dj, q⟩
  · cases z : f b with
    | none => rfl
    | some o' => rw [P'.nb b o' z] at e; cases e
  · cases z : f env.locals with
    | none => rfl
    | some o' => exact absurd rfl (P'.nL _ o' z)
  · cases z : f c with
    | none => rfl
    | some o' => exact absurd e (P'.nc c o' z x)
theorem fnS_frame {fv : Value} {args : Args} {f : GH} {Rq RX : Value → GH → Prop} (h : fnS w H O k fv args g Rq RX) (hD : Disj g f) : fnS w H O k fv args (uni g f) (fun v g' => ∃ g₀, g' = uni g₀ f ∧ Disj g₀ f ∧ Rq v g₀) (fun v g' => ∃ g₀, g' = uni g₀ f ∧ Disj g₀ f ∧ RX v g₀) := by
  intro A fs base s a R
  have nb : ∀ b o, f b = some o → base b = none := fun b o e => R.g_base (uni_r hD e)
  have fsb : ∀ b ∈ fs, ∃ o, base b = some o := fun b hb => by
    obtain ⟨fr, _, rfl, h3⟩ := a.fr
    obtain ⟨e, he, hf⟩ := List.mem_filterMap.mp hb
    obtain ⟨_, L, o, _, _, hL, q, _⟩ := h3 e he
    rw [hf] at hL; cases hL; exact ⟨o, q⟩
  have hn : ∀ L o, base L = some o → addB base f L = some o := fun L o b => by
    cases z : f L with
    | none => rw [addB_base z]; exact b
    | some o' => rw [nb L o' z] at b; cases b
  have a' : FOk k fs (addB base f) A := ⟨a.depth, a.units, a.hdl, by obtain ⟨fr, h1, h2, h3⟩ := a.fr; exact ⟨fr, h1, h2, fun e he => by obtain ⟨x, L, o, es, n, y, z, d⟩ := h3 e he; exact ⟨x, L, o, es, n, y, hn _ _ z, d⟩⟩⟩
  have R' : Rep H O fs (addB base f) g s := by
    refine ⟨fun b o e => ⟨hn _ _ (R.top b o e).1, (R.top b o e).2⟩, fun b o e => ?_, fun b o e => R.kg b o (uni_l e), fun b o e => ?_, R.gens, R.os⟩
    · rcases of_addB e with q | ⟨_, q⟩
      · exact ⟨o.slots, R.kg b o (uni_r hD q), fun _ => rfl⟩
      · exact R.kb b o q
    · rcases of_addB e with q | ⟨_, q⟩
      · exact (hD b).resolve_right (by rw [q]; exact fun z => nomatch z)
      · exact (uni_none.mp (R.dj b o q)).1
  have back : ∀ g' s', Rep H O fs (addB base f) g' s' → Rep H O fs base (uni g' f) s' ∧ Disj g' f := fun g' s' R2 => by
    have dj : Disj g' f := fun b => by
      cases e : f b with
      | none => exact .inr rfl
      | some o => exact .inl (R2.dj b o (addB_ps e))
    refine ⟨⟨R.top, fun b o e => R2.kb b o (hn _ _ e), fun b o e => ?_, fun b o e => uni_none.mpr ⟨R2.dj b o (hn _ _ e), ?_⟩, R2.gens, R2.os⟩, dj⟩
    · unfold uni at e
      cases z : g' b with
      | some x => rw [z] at e; exact R2.kg b o (by rw [z]; simpa using e)
      | none =>
        rw [z] at e
        have e' : f b = some o := by simpa using e
        obtain ⟨sl, q, y⟩ := R2.kb b o (addB_ps e')
        have : b ∉ fs := fun hb => by obtain ⟨o', q⟩ := fsb b hb; rw [nb b o e'] at q; cases q
        rw [q, y this]
    · cases z : f b with
      | none => rfl
      | some o' => rw [nb b o' z] at e; cases e
  have fl : ∀ {g' c e h'}, Flight (addB base f) g' c e h' → Disj g' f → Flight base (uni g' f) c e h' := fun {g' c e h'} y0 dj => by
    obtain ⟨ea, oe, vs, T, oT, ts, z0, z1, z2, z3, z4, z5, z6, z7, z8, z9⟩ := y0
    have nf : ∀ b, addB base f b = none → base b = none ∧ f b = none := fun b q => by
      cases z : f b with
      | none => exact ⟨by rw [addB_base z] at q; exact q, rfl⟩
      | some o => rw [addB_ps z] at q; cases q
    exact ⟨ea, oe, vs, T, oT, ts, z0, (nf _ z1).1, uni_none.mpr ⟨z2, (nf _ z1).2⟩, z3, z4, z5, z6, (nf _ z7).1, uni_none.mpr ⟨z8, (nf _ z7).2⟩, z9⟩
  refine codeAny_mono (h A fs _ s a' R') fun r s' q => ?_
  cases r with
  | error e => obtain ⟨g', c, R2, f2, q⟩ := q; obtain ⟨R3, dj⟩ := back _ _ R2; exact ⟨_, c, R3, fl f2 dj, g', rfl, dj, q⟩
  | ok r => cases r with
    | ret v => obtain ⟨g', R2, q⟩ := q; obtain ⟨R3, dj⟩ := back _ _ R2; exact ⟨_, R3, g', rfl, dj, q⟩
    | _ => exact q
theorem fnS_monoX {f : Value} {args : Args} {R R' RX RX' : Value → GH → Prop} (h : fnS w H O k f args g R RX) (hr : ∀ v g', R v g' → R' v g') (hx : ∀ v g', RX v g' → RX' v g') : fnS w H O k f args g R' RX' := fun A fs base s a Rp =>
  codeAny_mono (h A fs base s a Rp) fun r s' q => by
    cases r with
    | error e => obtain ⟨g', c, R', f, q⟩ := q; exact ⟨g', c, R', f, hx c g' q⟩
    | ok f => cases f with
      | ret v => obtain ⟨g', R', q⟩ := q; exact ⟨g', R', hr v g' q⟩
      | _ => exact q
def IsS (w : World) (g : GH) (a : Addr) (S : Str → Bool) (n : Nat) : Prop := ∃ o, g a = some o ∧ o.SetObjOf (strKind P0 w) S n
theorem t_setnew {Q : Value → GH → LM → Prop} (h : ∀ d o, g d = none → o.cls = .type "set" → o.SetObjOf (strKind P0 w) (fun _ => false) 0 → Q (.ref d) (gset g d o) m) : tri w H O k hdl X env (call (.type "set") []) g m Q :=
  tri_ledN (ι := Bool) (v := fun _ a => .ref a) (f := fun led => { cls := .type "set", dict := none, data := .set #[] 0 (.fresh 0 0 led) }) (fun A fs base s mL P E a R F F0 N q => kse_new F0 N fun D h' led F' N' l _ _ => q led D h' s.toks (.inl l) F' N') fun e a ha => h a _ ha rfl (setObjOf_fresh (knd := strKind P0 w) e)
theorem t_smeth {a : Addr} {S : Str → Bool} {n : Nat} {pl : Sem Bool} {Q : Value × List Value → GH → LM → Prop} (hs : IsS w g a S n) (hb : n < 1000) (h : Q (.builtin "set.add", [.ref a]) g m) : tri w H O k hdl X env (getMethod (.ref a) (Str.ofString "add") pl) g m Q := by
  obtain ⟨o, e, hs⟩ := hs
  refine .mk fun A fs base s aa R F => ?_
  exact getMethod_set_add (hs.setOf (R.kg a o e) (by unfold scanBound; omega)) ⟨g, m, R, F, h⟩
theorem t_sin {a : Addr} {S : Str → Bool} {n : Nat} {x : Str} {t : Tok} {Q : Value → GH → LM → Prop} (hs : IsS w g a S n) (hb : n < 1000) (h : Q (.bool (S x)) g m) : tri w H O k hdl X env (compareOp .In (.str x t) (.ref a)) g m Q := by
  obtain ⟨o, e, hs⟩ := hs
  refine .mk fun A fs base s aa R F => ?_
  exact wpAny_inSet_of is_str rfl (hs.setOf (R.kg a o e) (by unfold scanBound; omega)) ⟨g, m, R.toks _, F, h⟩
theorem t_sadd {a : Addr} {S : Str → Bool} {n : Nat} {x : Str} {t : Tok} {Q : Value → GH → LM → Prop} (hs : IsS w g a S n) (hb : n < 1000) (h : ∀ o, o.SetObjOf (strKind P0 w) (fun k' => S k' || decide (k' = x)) (if S x then n else n + 1) → Q .none (gset g a o) m) : tri w H O k hdl X env (call (.builtin "set.add") [.ref a, .str x t]) g m Q := by
  obtain ⟨o, e, hs⟩ := hs
  refine tri_ledU (ι := { o' : Obj // o'.SetObjOf (strKind P0 w) (fun k' => S k' || decide (k' = x)) (if S x then n else n + 1) }) (f := fun e => e.1) e (fun A fs base s mL P E aa R F0 N hne q => ?_) fun ⟨o', ho⟩ => h o' ho
  exact kse_add F0 N (UpdF.head hne) hs (by unfold scanBound; omega) is_str rfl fun h' o' F' N' ho => q h' _ ⟨o', ho⟩ F' N'
end
end
noncomputable section
section
variable {α β : Type} {w : World} {H : Heap} {O : OsState} {k : Nat} {hdl : Option Value} {X : ExcP} {env : Env} {g : GH} {m : LM} {K : Frag} {fs : List Addr} {base : GH} {s : Shared} {A : Around}
theorem fnS_make {C fI : Addr} {vals : List Value} {R : Value → GH → Prop} (T : Tp K H) (hm : makesIn K C = true) (hi : findIn K (.ref C) "__init__" = some (some (.ref fI))) (hf : typeIn K (.ref fI) = some (.type "function"))
    (h : ∀ x dx, g x = none → g dx = none → dx ≠ x → fnS w H O k (.ref fI) ⟨.ref x :: vals, []⟩ (gset (gset g dx emptyDict) x (instObj C dx)) (fun v g' => v = .none ∧ R (.ref x) g') no2) : fnS w H O (k + 1) (.ref C) ⟨vals, []⟩ g R no2 := by
  intro A fs base s a Rp
  have Xh := T.X.keeps Rp.topIn
  obtain ⟨hp, gn, d, tk, os⟩ := s
  have n1 := get_size_none hp
  have z1 : (hp.push emptyDict).objs.size = hp.objs.size + 1 := Heap.size_push _ _
  have n2 : hp.get? (hp.objs.size + 1) = none := get_ge_none (by omega)
  have n2' := get_size_none (hp.push emptyDict)
  rw [z1] at n2'
  have e2 := Heap.get?_push_size (hp.push emptyDict) (o := instObj C hp.objs.size) rfl
  rw [z1] at e2
  have R1 := Rp.new n1 (h' := hp.push emptyDict) (fun _ _ e => Heap.get?_push_of_some _ e) (Heap.get?_push_size _ (o := emptyDict) rfl) tk
  have R2 := R1.new n2' (h' := (hp.push emptyDict).push (instObj C hp.objs.size)) (fun _ _ e => Heap.get?_push_of_some _ e) e2 tk
  refine make_core (rest := vals) (kw := []) (makes_of Xh hm) (looks_findIn Xh hi) (fun self => bind_fn Xh self hf) (.inl rfl) ?_
  have a' : FOk k fs base (A.under (.builtin "type.__call__" ⟨.ref C :: vals, []⟩)) := by
    obtain ⟨a1, a2, a3, fr, q1, q2, q3⟩ := a
    have hw : (Code.builtin "type.__call__" ⟨.ref C :: vals, []⟩).weight ≤ 3 := by unfold Code.weight; have : (Code.builtin "type.__call__" ⟨.ref C :: vals, []⟩).frames = 0 := by kernel_rfl
                                                                                   have : (Code.builtin "type.__call__" ⟨.ref C :: vals, []⟩).isCaller = false := by kernel_rfl
                                                                                   rw [this]; simp only [Bool.false_eq_true, if_false]; (repeat' split) <;> omega
    have hv : (Code.builtin "type.__call__" ⟨.ref C :: vals, []⟩).envs = [] := by kernel_rfl
    have hu : (Code.builtin "type.__call__" ⟨.ref C :: vals, []⟩).cUnits = 1 := by kernel_rfl
    refine ⟨by show A.depth + (Code.builtin "type.__call__" ⟨.ref C :: vals, []⟩).weight + 4 * k ≤ 900; omega, by show A.units + (Code.builtin "type.__call__" ⟨.ref C :: vals, []⟩).cUnits + 60 * k ≤ 9000; omega, a3, fr, ?_, q2, q3⟩
    show pushEnvs (Code.builtin "type.__call__" ⟨.ref C :: vals, []⟩).envs A.frames = some fr
    rw [hv, q1]; rfl
  refine codeAny_mono (h (hp.objs.size + 1) hp.objs.size (Rp.none_g n2) (Rp.none_g n1) (by simp) _ fs base _ a' R2) fun r s' q => ?_
  cases r with
  | error e => obtain ⟨g', c, _, _, q⟩ := q; exact q.elim
  | ok f => cases f with
    | ret v => obtain ⟨g', R', rfl, q⟩ := q; exact ⟨rfl, g', R', q⟩
    | _ => exact q.elim
theorem t_bound {x C dx f : Addr} {sl : Array (Option Value)} {es : List DictEntry} {n : Nat} {name : Str} {b : Bool} {Q : Value → GH → LM → Prop} (T : Tp K H) (I : InstG g x C dx sl es n) (hg : plainGet K C name = true) (hh : hasDictIn K C = true) (ha : findIn K (.ref C) name = some (some (.ref f))) (hf : isFn K (.ref f) = true)
    (hgf : specialIn K (.ref f) "__get__" = some (some (.builtin "function.__get__"))) (ht : takesIn K (.ref f) = some false) (hc : copiedNames.contains name = false) (hl : getL name es = some none)
    (h : ∀ q, g q = none → Q (.ref q) (gset g q (methodObj (.ref f) (.ref x))) m) : tri w H O k hdl X env (getAttr (.ref x) name b) g m Q :=
  tri_ledN (ι := Unit) (v := fun _ a => .ref a) (f := fun _ => methodObj (.ref f) (.ref x)) (fun A fs base s mL P E a R F F0 N q => kbm_bound F0 T.X N (I.at R) hg hh ha hf hgf ht hc hl fun D h' F' N' l => q () D h' (s.toks + 1) (.inl l) F' N') fun _ => h
theorem t_mstar {o : Expr} {name : Str} {apos pos : Pos} {es : List Expr} {Q : Value → GH → LM → Prop} (hb : attributeBase o name env (eval o env) = eval o env) (hst : ((backTo pos (starEach es env)).any (·.1)) = true)
    (h : tri w H O k hdl X env (eval o env) g m fun ov g₁ m₁ => tri w H O k hdl X env (getAttr ov name true) g₁ m₁ fun fv g₂ m₂ => tri w H O k hdl X env (callWith pos fv [] (backTo pos (starEach es env)) []) g₂ m₂ Q) : tri w H O k hdl X env (eval (.Call (.Attribute o name apos) es [] pos) env) g m Q := by
  refine tri_eq (arm_eval_Call o name apos es [] pos env) ?_
  rw [hb]
  refine tri_bind (tri_mono h fun ov g₁ m₁ q => tri_bind (tri_standAt ?_))
  have hf : methodCallForm (es.length + 0) (backTo pos (starEach es env)) (backToKw pos (keywordEach [] env)) = false := by
    unfold methodCallForm
    have : ((backTo pos (starEach es env)).all fun x => !x.1) = false := by
      rw [Bool.eq_false_iff]
      intro z
      refine el_ea (List.any_eq_true.mp hst) fun x hx e => ?_
      have := List.all_eq_true.mp z x hx
      rw [e] at this; cases this
    rw [this]; rfl
  unfold methodCall
  rw [show es.length + ([] : List Keyword).length = es.length + 0 from rfl, hf]
  refine tri_bind (tri_holding ?_)
  show tri w H O k hdl X env (getAttr ov name true >>= fun r => pure (r, [])) g₁ m₁ _
  refine tri_bind (tri_mono q fun fv g₂ m₂ q => tri_pure ?_)
  refine tri_bind (tri_pure ?_)
  exact q
theorem star_at {l : Addr} {items : List Value} {Q : List Value → Shared → Prop} {E : Value → Shared → Prop} (hl : IsLA H g l items ∨ IsT' H g l items) (hn : items.length ≤ 10000) (R : Rep H O fs base g s) (F : Frm env m base g s.heap)
    (h : ∀ h', Rep H O fs base g { s with heap := h' } → Frm env m base g h' → Q items { s with heap := h' }) : StarOf (model P0 w) A E (.ref l) Q s := by
  obtain ⟨o, T, n, ho, hc, hd, hT⟩ : ∃ o T n, s.heap.get? l = some o ∧ o.cls = .type T ∧ o.data = .seq items.toArray n ∧ (T = "list" ∨ T = "tuple") := by
    rcases hl with hl | hl
    · obtain ⟨o, e, c, n, d⟩ := hl.at R; exact ⟨o, _, n, e, c, d, .inl rfl⟩
    · obtain ⟨o, e, c, n, d⟩ := hl.at R; exact ⟨o, _, n, e, c, d, .inr rfl⟩
  have hT' : s.TypeIs (.ref l) T := ⟨o, ho, hc⟩
  have z : wpAny (model P0 w) A (collect (.ref l)) Q E s :=
    wpAny_collect_seq l hT ho hc hd (fun h' hk => by simpa using h h' (R.grow hk s.toks) (F.grow hk)) (by simp [sizeLine]; omega)
  unfold StarOf notIterableAtAll
  rcases hT with rfl | rfl
  · exact wpAny_bind (wpAny_specialOf hT' PySem.F.slot_list_iter.lookup (wpAny_pure ⟨rfl, z⟩))
  · exact wpAny_bind (wpAny_specialOf hT' PySem.F.slot_tuple_iter.lookup (wpAny_pure ⟨rfl, z⟩))
theorem t_cwS1 {q fn : Addr} {self : Value} {e : Expr} {p pos : Pos} {Q : Value → GH → LM → Prop} (T : Tp K H) (hf : fnIn K fn = true) (he : starEach [.Starred e p] env = [(true, eval e env)])
    (h : tri w H O k hdl X env (eval e env) g m fun v g₁ m₁ => ∃ l items, v = .ref l ∧ (IsLA H g₁ l items ∨ IsT' H g₁ l items) ∧ items.length ≤ 10000 ∧ g₁ q = some (methodObj (.ref fn) self) ∧ tri w H O k hdl X env (call (.ref q) items []) g₁ m₁ Q) :
    tri w H O k hdl X env (callWith pos (.ref q) [] (backTo pos (starEach [.Starred e p] env)) []) g m Q := by
  refine .mk fun A fs base s a R F => ?_
  rw [he]
  refine ks_call (P := MethP K q fn self) rfl (fun h x => keeps_M hf h x) (ks_lone (wpAny_mono (h.run A fs base s a R F) (fun v s₁ y0 => ?_) fun _ _ x => x))
  obtain ⟨g₁, m₁, R1, F1, l, items, e1, e2, e3, e4, q⟩ := y0
  subst e1
  exact star_at e2 e3 R1 F1 fun h' R2 F2 => ⟨⟨R2.kg _ _ e4, T.X.keeps R2.topIn⟩, q.run A fs base _ a R2 F2⟩
theorem t_cwS2 {q fn : Addr} {self : Value} {e0 e : Expr} {p pos : Pos} {Q : Value → GH → LM → Prop} (T : Tp K H) (hf : fnIn K fn = true) (he : starEach [e0, .Starred e p] env = [(false, eval e0 env), (true, eval e env)])
    (h : tri w H O k hdl X env (eval e0 env) g m fun v0 g₀ m₀ => tri w H O k hdl X env (eval e env) g₀ m₀ fun v g₁ m₁ => ∃ l items, v = .ref l ∧ (IsLA H g₁ l items ∨ IsT' H g₁ l items) ∧ items.length ≤ 10000 ∧ g₁ q = some (methodObj (.ref fn) self) ∧ tri w H O k hdl X env (call (.ref q) (v0 :: items) []) g₁ m₁ Q) :
    tri w H O k hdl X env (callWith pos (.ref q) [] (backTo pos (starEach [e0, .Starred e p] env)) []) g m Q := by
  refine .mk fun A fs base s a R F => ?_
  have he0 : starEach [e0, .Starred e p] env = (false, eval e0 env) :: starEach [.Starred e p] env := by rw [he]; rfl
  refine ks_call (P := MethP K q fn self) (by rw [he]; rfl) (fun h x => keeps_M hf h x) ?_
  rw [he]
  refine evalArgs_plain ?_
  show wpAny (model P0 w) A (do
    let v ← eval e0 env
    let here ← pure [v]
    return here ++ (← holding here (spliced (backTo pos [(true, eval e env)])))) _ _ s
  refine wpAny_bind (wpAny_mono (h.run A fs base s a R F) (fun v0 s₁ ⟨g₀, m₀, R0, F0, q⟩ => ?_) fun _ _ x => x)
  refine wpAny_bind (wpAny_pure (wpAny_bind (wpAny_holding ?_)))
  refine ks_spliced (wpAny_mono (q.run A fs base s₁ a R0 F0) (fun v s₂ ⟨g₁, m₁, R1, F1, l, items, e1, e2, e3, e4, q⟩ => ?_) fun _ _ x => x)
  subst e1
  refine star_at e2 e3 R1 F1 fun h' R2 F2 => wpAny_pure (wpAny_pure ⟨⟨R2.kg _ _ e4, T.X.keeps R2.topIn⟩, ?_⟩)
  have := q.run A fs base _ a R2 F2
  simpa using this
theorem fnS_bound {q : Addr} {fv self : Value} {vals : List Value} {R RX : Value → GH → Prop} (hq : g q = some (methodObj fv self)) (h : fnS w H O k fv ⟨self :: vals, []⟩ g R RX) : fnS w H O k (.ref q) ⟨vals, []⟩ g R RX := fun A fs base s a Rp =>
  method_call (Rp.kg _ _ hq) (h A fs base s a Rp)
end
end
noncomputable section
open Builtin Builtin.ObjectAttr
abbrev wrapO (it : Addr) : Obj := { cls := .type "method-wrapper", data := .fields #[.builtin "list_iterator.__next__", .ref it] }
theorem li_ga : typeLookup (.type "list_iterator") "__getattribute__" = pure (some (.builtin "object.__getattribute__")) := by rw [typeLookup_type, builtinLookup_eq_fast]; kernel_rfl
theorem li_nx : typeLookup (.type "list_iterator") (Str.ofString "__next__") = pure (some (.builtin "list_iterator.__next__")) := by rw [typeLookup_type, builtinLookup_eq_fast]; kernel_rfl
theorem li_get : specialOf (.builtin "list_iterator.__next__") "__get__" = pure (some (.builtin "wrapper_descriptor.__get__")) := by
  show (do typeLookup (← typeOf (.builtin "list_iterator.__next__")) "__get__") = _
  have : typeOf (.builtin "list_iterator.__next__") = pure (.type "wrapper_descriptor") := by kernel_rfl
  rw [this]
  show typeLookup (.type "wrapper_descriptor") "__get__" = _
  rw [typeLookup_type, builtinLookup_eq_fast]; kernel_rfl
theorem entry_oga : entryFor table "object.__getattribute__" = some Builtin.«object.__getattribute__» := entryFor_of_tree (by kernel_rfl)
theorem entry_wdg : entryFor table "wrapper_descriptor.__get__" = some Builtin.«wrapper_descriptor.__get__» := entryFor_of_tree (by kernel_rfl)
theorem args_oga (a b : Value) : argsOk "object.__getattribute__" ⟨[a, b], []⟩ := by unfold argsOk; kernel_rfl
theorem args_wdg (a b c : Value) : argsOk "wrapper_descriptor.__get__" ⟨[a, b, c], []⟩ := by unfold argsOk; kernel_rfl
theorem slot_oga : Slot "list_iterator" "__getattribute__" "object.__getattribute__" :=
  .of (owner := "object") (n := "__getattribute__") (by rw [typeLookup_type, builtinLookup_eq_fast]; kernel_rfl) (by decide +kernel) (by decide +kernel) (by decide +kernel)
    (by first | exact .inl (by decide +kernel) | exact .inr (by decide +kernel)) (by rw [isSubtype_type]; kernel_rfl)
theorem slot_wdg : Slot "wrapper_descriptor" "__get__" "wrapper_descriptor.__get__" :=
  .of (owner := "wrapper_descriptor") (n := "__get__") (by rw [typeLookup_type, builtinLookup_eq_fast]; kernel_rfl) (by decide +kernel) (by decide +kernel) (by decide +kernel)
    (by first | exact .inl (by decide +kernel) | exact .inr (by decide +kernel)) (by rw [isSubtype_type]; kernel_rfl)
theorem li_sub : isSubtype (.type "list_iterator") (.type "list_iterator") = pure true := by rw [isSubtype_type]; kernel_rfl
theorem li_take : takesStores (.builtin "list_iterator.__next__") = pure false := by
  have e : typeOf (.builtin "list_iterator.__next__") = pure (.type "wrapper_descriptor") := by kernel_rfl
  have e1 : specialOf (.builtin "list_iterator.__next__") "__set__" = pure none := by
    unfold specialOf; rw [e]; show typeLookup (.type "wrapper_descriptor") "__set__" = _; rw [typeLookup_type, builtinLookup_eq_fast]; kernel_rfl
  have e2 : specialOf (.builtin "list_iterator.__next__") "__delete__" = pure none := by
    unfold specialOf; rw [e]; show typeLookup (.type "wrapper_descriptor") "__delete__" = _; rw [typeLookup_type, builtinLookup_eq_fast]; kernel_rfl
  unfold takesStores
  rw [e1, e2]; rfl
section
variable {prog : Program} {w : World} {A : Around} {E : Value → Shared → Prop} {s : Shared}
abbrev iterAt (l : Addr) (i : Int) : Obj := { cls := .type "list_iterator", data := .fields #[.ref l, .int i 0] }
theorem get_next {it l : Addr} {i : Int} {Q : Value → Shared → Prop} (ho : s.heap.get? it = some (iterAt l i)) (h : Q (.ref s.heap.objs.size) { s with heap := s.heap.push (wrapO it), toks := s.toks + 1 }) : wpAny (model prog w) A (getAttr (.ref it) (Str.ofString "__next__") true) Q E s := by
  obtain ⟨hp, g, d, tk, os⟩ := s
  dsimp only at ho
  have hT : Shared.TypeIs ⟨hp, g, d, tk + 1, os⟩ (.ref it) "list_iterator" := ⟨_, ho, rfl⟩
  have L0 : Looks (model prog w) hp (typeOf (.ref it)) (.type "list_iterator") := (Looks.ld ho).andThen .now
  have L1 : Looks (model prog w) hp (instanceDict it false) none := (Looks.ld ho).andThen .now
  unfold getAttr getAttrBy
  refine wpAny_bind (wpAny_mkText (wpAny_holding (wpAny_bind (L0.at ?_))))
  rw [li_ga]
  refine wpAny_bind (wpAny_pure ?_)
  dsimp only
  simp only [onTheHeap, Bool.false_and, Bool.false_eq_true, if_false]
  unfold getAttrByItsOwn hookBefore callGetattribute boundAndCalled
  simp only [onTheHeap, Bool.and_false, Bool.false_eq_true, if_false]
  refine wpAny_bind (wpAny_pure (wpAny_bind (wpAny_attempt (wpAny_holding ?_))))
  refine wpAny_bind (wpAny_of_eq (slot_oga.bind _) ?_)
  refine wpAny_call_entry slot_oga hT entry_oga ?_ (args_oga _ _)
  unfold Builtin.«object.__getattribute__»
  refine wpAny_bind (m := slotArgs _ _ _) (wpAny_pure ?_)
  dsimp only
  refine wpAny_bind (m := attrName _) (wpAny_pure ?_)
  refine wpAny_bind (L0.at ?_)
  unfold find
  rw [li_nx]
  refine wpAny_bind (wpAny_bind (wpAny_pure ?_))
  unfold getOf
  dsimp only
  rw [li_get]
  refine wpAny_bind (wpAny_pure ?_)
  unfold dataDescriptor?
  dsimp only
  rw [li_take]
  refine wpAny_bind (wpAny_bind (wpAny_pure (wpAny_pure ?_)))
  have LD : Looks (model prog w) hp (ObjectAttr.inOwnDict (Str.ofString "__next__") (.ref it)) none := by
    have : Looks (model prog w) hp (ObjectAttr.ownDict it) none := (Looks.ld (part := some headPart) ho).andThen L1
    exact this.andThen .now
  have LG : Looks (model prog w) hp (ObjectAttr.copiedAttributeGuard (Str.ofString "__next__") (.ref it)) () := by
    unfold ObjectAttr.copiedAttributeGuard
    dsimp only
    rw [if_neg (by decide +kernel)]
    exact .now
  unfold ObjectAttr.ownThenClass
  refine wpAny_bind (LD.at ?_)
  dsimp only
  refine wpAny_bind (LG.at ?_)
  refine wpAny_bind (wpAny_rule (wpAny_pure ?_))
  dsimp only
  unfold ObjectAttr.bindTo
  dsimp only
  refine wpAny_bind (wpAny_holding (wpAny_call_entry slot_wdg ?_ entry_wdg ?_ (args_wdg _ _ _)))
  · exact (by kernel_rfl : typeOf (.builtin "list_iterator.__next__") = pure (.type "wrapper_descriptor"))
  unfold Builtin.«wrapper_descriptor.__get__»
  refine wpAny_bind (wpAny_of_eq (a := (.builtin "list_iterator.__next__", some (.ref it), some (.type "list_iterator"))) (by first | rfl | kernel_rfl) ?_)
  dsimp only
  have LI : Looks (model prog w) hp (isInstance (.ref it) (.type "list_iterator")) true := L0.andThen (Looks.of_pure li_sub)
  refine wpAny_bind ?_
  refine wpAny_bind (wpAny_of_eq (a := (Str.ofString "__next__", .type "list_iterator")) (by first | rfl | kernel_rfl) ?_)
  refine wpAny_bind (LI.at ?_)
  refine wpAny_pure ?_
  refine wpAny_bind (wpAny_newObj_type ?_ (by size_fits))
  refine wpAny_pure ⟨_, rfl, wpAny_pure ⟨_, rfl, ?_⟩⟩
  exact wpAny_pure h
theorem wrap_check (it : Addr) : checkBoundCall "list_iterator.__next__" ⟨[.ref it], []⟩ = pure () := by first | kernel_rfl | rfl
theorem call_next {it q : Addr} {Q : Value → Shared → Prop} (ho : s.heap.get? q = some (wrapO it))
    (h : wpAny (model prog w) A.in1 (Builtin.«list_iterator.__next__» ⟨[.ref it], []⟩) (fun fin s' => match fin with | .done (.ret v) => Q v s' | _ => False) E s) : wpAny (model prog w) A (call (.ref q) []) Q E s := by
  refine wpAny_call (codeAny_of_tree ?_)
  show wpAny _ A.in1 (callAny (.ref q) ⟨[], []⟩) _ _ s
  simp only [callAny]
  refine wpAny_bind (wpAny_load ho ?_)
  simp only [show (Value.type "method-wrapper" == Value.type "method" || Value.type "method-wrapper" == Value.type "builtin_function_or_method" || Value.type "method-wrapper" == Value.type "method-wrapper") = true by decide, if_true]
  simp only [show ((#[Value.builtin "list_iterator.__next__", Value.ref it] : Array Value)[0]?) = some (Value.builtin "list_iterator.__next__") from rfl, show ((#[Value.builtin "list_iterator.__next__", Value.ref it] : Array Value)[1]?) = some (Value.ref it) from rfl]
  rw [if_pos (show (Value.type "method-wrapper" != Value.type "method") = true by decide)]
  refine wpAny_bind (wpAny_of_eq (a := ()) (wrap_check it) ?_)
  refine wpAny_bind (wpAny_pure (wpAny_pure ?_))
  refine ⟨Code.quiet_builtin _ (by decide +kernel), codeAny_builtin entry_listiter_next ?_⟩
  rw [Around.under_plainId (by decide +kernel)]
  refine wpAny_mono h (fun fin s' z => ?_) fun _ _ z => z
  rcases fin with (_ | _ | _ | _) | _ <;> first | exact z | exact z.elim
theorem next_item {it l : Addr} {i : Nat} {items : Array Value} {v : Value} {P : PySem.Fin → Shared → Prop} (ho : s.heap.get? it = some (iterAt l i)) (hl : s.heap.IsList l items) (hx : items[i]? = some v)
    (h : ∀ h', Heap.SameBut it s.heap h' → h'.get? it = some (iterAt l (i + 1 : Nat)) → P (.done (.ret v)) { s with heap := h' }) : wpAny (model prog w) A (Builtin.«list_iterator.__next__» ⟨[.ref it], []⟩) P E s := by
  obtain ⟨ol, hol, _, nl, hdl⟩ := hl
  show wpAny _ _ (field (.ref it) 0 >>= _) _ _ s
  refine wpAny_bind (wpAny_field ho rfl (x := .ref l) rfl ?_)
  show wpAny _ _ (if (Value.ref l == Value.none) = true then _ else _) _ _ s
  rw [if_neg (show ¬ ((Value.ref l == Value.none) = true) from Bool.false_ne_true)]
  show wpAny _ _ (field (.ref it) 1 >>= _) _ _ s
  refine wpAny_bind (wpAny_field ho rfl (x := .int i 0) rfl ?_)
  show wpAny _ _ (seqItems? (.ref l) >>= _) _ _ s
  refine wpAny_bind (wpAny_seqItems hol hdl ?_)
  simp only [Int.toNat_natCast, hx]
  refine wpAny_bind (wpAny_setField ho rfl (by simp) (wpAny_pure (h _ (Heap.SameBut.update ..) ?_)))
  rw [Heap.get?_update_self _ ho rfl]
  rfl
theorem next_stop {it l : Addr} {i : Nat} {items : Array Value} {P : PySem.Fin → Shared → Prop} (hh : A.handled = none) (ho : s.heap.get? it = some (iterAt l i)) (hl : s.heap.IsList l items) (hx : items[i]? = none)
    (h : ∀ h' e oe vs, (∀ b o, b ≠ it → s.heap.get? b = some o → h'.get? b = some o) → h'.get? it = some { cls := .type "list_iterator", data := .fields #[.none, .int i 0] } → s.heap.get? e = none → h'.get? e = some oe → oe.cls = .type "StopIteration" → oe.data = .fields vs → vs[1]? = some .none → E (.ref e) { s with heap := h' }) : wpAny (model prog w) A (Builtin.«list_iterator.__next__» ⟨[.ref it], []⟩) P E s := by
  obtain ⟨ol, hol, _, nl, hdl⟩ := hl
  show wpAny _ _ (field (.ref it) 0 >>= _) _ _ s
  refine wpAny_bind (wpAny_field ho rfl (x := .ref l) rfl ?_)
  show wpAny _ _ (if (Value.ref l == Value.none) = true then _ else _) _ _ s
  rw [if_neg (show ¬ ((Value.ref l == Value.none) = true) from Bool.false_ne_true)]
  show wpAny _ _ (field (.ref it) 1 >>= _) _ _ s
  refine wpAny_bind (wpAny_field ho rfl (x := .int i 0) rfl ?_)
  show wpAny _ _ (seqItems? (.ref l) >>= _) _ _ s
  refine wpAny_bind (wpAny_seqItems hol hdl ?_)
  simp only [Int.toNat_natCast, hx]
  refine wpAny_bind (wpAny_rule (wpAny_bind (wpAny_setField ho rfl (by simp) ?_)))
  have e0 : (s.heap.update it (Obj.mapFields (·.setIfInBounds 0 Value.none))).get? it = some { cls := .type "list_iterator", data := .fields #[.none, .int i 0] } := by
    rw [Heap.get?_update_self _ ho rfl]; rfl
  have hlt := Heap.lt_size ho
  generalize hh1 : s.heap.update it (Obj.mapFields (·.setIfInBounds 0 Value.none)) = h1 at e0
  have k1 : ∀ b o, b ≠ it → s.heap.get? b = some o → h1.get? b = some o := fun b o hb e => by rw [← hh1, Heap.get?_update_other _ _ (Ne.symm hb)]; exact e
  have z1 : h1.objs.size = s.heap.objs.size := by rw [← hh1, Heap.size_update]
  show wpAny _ _ (newExc (.type "StopIteration") [] >>= _) _ _ _
  refine wpAny_bind ?_
  simp only [newExc, newTuple]
  refine wpAny_bind (wpAny_newObj_type ?_ (by size_fits))
  refine wpAny_bind (m := firstArgMember _ _) (wpAny_of_eq (a := Value.none) (by first | rfl | (simp only [firstArgMember]; rfl)) ?_)
  refine wpAny_newObj_type ?_ (by size_fits)
  simp only [raiseNew]
  refine wpAny_bind (wpAny_handled ?_)
  rw [hh]
  refine wpAny_bind (wpAny_pure (wpAny_throw ?_))
  refine h _ _ _ _ (fun b o hb e => Heap.get?_push_of_some _ (Heap.get?_push_of_some _ (k1 b o hb e))) (Heap.get?_push_of_some _ (Heap.get?_push_of_some _ e0)) ?_ (Heap.get?_push_size _ rfl) rfl rfl rfl
  rw [Heap.size_push, z1]
  exact get_ge_none (by omega)
end
section
variable {α β : Type} {w : World} {H : Heap} {O : OsState} {k : Nat} {hdl : Option Value} {X : ExcP} {env : Env} {g : GH} {m : LM} {K : Frag} {fs : List Addr} {base : GH} {s : Shared} {A : Around} {P : Value → GH → LM → Prop}
theorem t_iterL {l : Addr} {items : List Value} {Q : Value → GH → LM → Prop} (hl : IsL g l items) (h : ∀ it, g it = none → Q (.ref it) (gset g it (iterAt l 0)) m) : tri w H O k hdl X env (call (.builtin "iter") [.ref l]) g m Q := by
  refine tri_new (o := iterAt l 0) (v := fun a => .ref a) (fun A fs base s P E a R F q => ?_) h
  refine call_function_entry (by decide +kernel) (by decide +kernel) kdk_entry_iter (kdk_args_iter _) ?_
  unfold Builtin.«iter»
  refine wpAny_bind (m := someArgs "iter" 1 2 _) (wpAny_of_eq (a := [Value.ref l]) (by first | rfl | kernel_rfl!) ?_)
  show wpAny _ _ (pyIter (.ref l) >>= _) _ _ _
  refine wpAny_bind (wpAny_pyIter_list (hl.at R) ?_)
  exact wpAny_pure ⟨_, rfl, q _ _ s.toks (get_size_none _) (fun _ _ e => Heap.get?_push_of_some _ e) (Heap.get?_push_size _ rfl)⟩
theorem t_nextA {it l : Addr} {i : Int} {Q : Value → GH → LM → Prop} (hi : g it = some (iterAt l i)) (h : ∀ q, g q = none → Q (.ref q) (gset g q (wrapO it)) m) : tri w H O k hdl X env (getAttr (.ref it) (Str.ofString "__next__") true) g m Q :=
  tri_new (o := wrapO it) (v := fun a => .ref a) (fun A fs base s P E a R F q => get_next (R.kg _ _ hi) (q _ _ (s.toks + 1) (get_size_none _) (fun _ _ e => Heap.get?_push_of_some _ e) (Heap.get?_push_size _ rfl))) h
theorem t_nextV {it q l : Addr} {i : Nat} {items : List Value} {v : Value} {Q : Value → GH → LM → Prop} (hq : g q = some (wrapO it)) (hi : g it = some (iterAt l i)) (hl : IsL g l items) (hv : items[i]? = some v) (h : Q v (gset g it (iterAt l (i + 1 : Nat))) m) : tri w H O k hdl X env (call (.ref q) [] []) g m Q :=
  tri_upd (f := fun _ => iterAt l (i + 1 : Nat)) hi (fun A fs base s P E a R F ho q' => call_next (R.kg _ _ hq) (next_item ho (hl.at R) (by simpa using hv) fun h' hs h1 => q' 0 h' s.toks hs h1)) fun _ => h
theorem t_nextX {it q l : Addr} {i : Nat} {items : List Value} {Q : Value → GH → LM → Prop} (hq : g q = some (wrapO it)) (hi : g it = some (iterAt l i)) (hl : IsL g l items) (hv : items[i]? = none) (h : P (.type "StopIteration") (gset g it { cls := .type "list_iterator", data := .fields #[.none, .int i 0] }) m) : tri w H O k none (exc P) env (call (.ref q) [] []) g m Q := by
  refine .mk fun A fs base s a R F => ?_
  refine call_next (R.kg _ _ hq) (next_stop a.hdl (R.kg _ _ hi) (hl.at R) (by simpa using hv) fun h' e oe vs kk h1 hn he hc hd hv1 => ?_)
  refine ⟨_, m, R.upd hi kk h1 s.toks, F.upd hi kk, _, ⟨e, oe, vs, rfl, R.none_base hn, ?_, he, hc, hd, .inl hv1⟩, h⟩
  rw [gset_ne (fun z => by rw [z] at hn; rw [R.kg _ _ hi] at hn; cases hn)]
  exact R.none_g hn
end
end
noncomputable section
section
variable {α β : Type} {w : World} {H : Heap} {O : OsState} {k : Nat} {hdl : Option Value} {X : ExcP} {env : Env} {g : GH} {m : LM} {K : Frag} {fs : List Addr} {base : GH} {s : Shared} {A : Around} {P : Value → GH → LM → Prop} {E : Value → Shared → Prop}
def ExcSp (K : Frag) (C : Addr) (bmB : List Value) (newId : String) : Prop := ∃ dd nm bs bm ns qn hd sn sub ab col k0 k1 k2 k3 k5, K.lookup C = some ⟨.type "type", dd, .cls ⟨nm, bs, .ref C :: bm, ns, qn, hd, sn, sub, ab, col, false⟩, #[k0, k1, k2, k3, some (.builtin newId), k5]⟩ ∧ tailIn K bmB bm = true ∧ nsOkIn K ns = true ∧ nsIn K ns "__init__" = some none
theorem ex55 (P : Params) : ExcSp (KK P) 55 [.type "ValueError", .type "Exception", .type "BaseException", .type "object"] "ValueError.__new__" :=
  ⟨none, Str.ofString "CycleError", [.type "ValueError"], [.type "ValueError", .type "Exception", .type "BaseException", .type "object"], 54, Str.ofString "CycleError", true, [], [], false, none, some (.ref 46), none, some (.str (Str.ofString "CycleError") 239), some (.str (Str.ofString "CycleError") 247), some (.bool true), by kernel_rfl, by kernel_rfl, by kernel_rfl, by kernel_rfl⟩
theorem t_raiseO {x : Str} {np cpos pos : Pos} {e₀ : Expr} {rest : List Expr} {C : Addr} {B newId initId : String} {bmB : List Value} {Q : Flow → GH → LM → Prop} (T : Tp K H) (ex : ExcSp K C bmB newId) (FB : ExcBaseFacts B newId initId bmB) (he : starEach (e₀ :: rest) env = (false, eval e₀ env) :: starEach rest env) (hplain : (backTo cpos (starEach (e₀ :: rest) env)).any (·.1) = false)
    (h : tri w H O k none (exc P) env (eval (.Name x np) env) g m fun f g₁ m₁ => f = .ref C ∧ tri w H O k none (exc P) env (spliced (backTo cpos (starEach (e₀ :: rest) env))) g₁ m₁ fun vs g₂ m₂ => vs.length ≤ 1000 ∧ P (.ref C) g₂ m₂) :
    tri w H O k none (exc P) env (exec (.Raise (some (.Call (.Name x np) (e₀ :: rest) [] cpos)) none pos) env) g m Q := .mk fun A fs base s a R F => by
  have X0 := T.X
  obtain ⟨dd, nm, bs, bm, ns, qn, hd, sn, sub, ab, col, k0, k1, k2, k3, k5, ho, ht, hok, hni⟩ := ex
  have hbase : bm.contains (.type "BaseException") = true := (tail_of_in X0 ht).hasType FB.hasBase
  refine wpAny_Raise_call_subT (C := C) (nm := nm) (q := qn) (N := ns) (bs := bs) (bm := bm) (hdct := hd) (sn := sn) (sub := sub) (ab := ab) (col := col) (dd := dd) (k0 := k0) (k1 := k1) (k2 := k2) (k3 := k3) (k5 := k5)
    FB (mN := H.nsMap ns) hbase a.hdl hplain (nsMap_none_of_in X0 hok hni) (wpAny_mono (h.run A fs base s a R F) (fun f s₁ ⟨g₁, m₁, R1, F1, e1, q1⟩ => ⟨e1, ?_⟩) fun _ _ x => x)
  rw [he] at q1 ⊢
  refine evalArgs_plain ?_
  refine wpAny_mono (q1.run A fs base s₁ a R1 F1) (fun vs s₂ ⟨g₂, m₂, R2, F2, z1, z2⟩ => ⟨rfl, by show vs.length ≤ _; simp [sizeLine]; omega, R2.topIn _ _ (X0 _ _ ho), (Heap.Ns.of_isNs (isNs_of_in X0 hok)).keeps R2.topIn, (tail_of_in X0 ht).keeps R2.topIn, fun h' e hm => ?_⟩) fun _ _ x => x
  refine el_aa (made_fly R2 F2 hm) fun r1 r2 r3 => ?_
  exact ⟨g₂, m₂, r1, r2, _, r3, z2⟩
theorem match_stop {ea : Addr} {oe : Obj} {Qb : Bool → Shared → Prop} (he : s.heap.get? ea = some oe) (hc : oe.cls = .type "StopIteration") (h : Qb true s) : wpAny (model P0 w) A (excMatches (.ref ea) (.type "StopIteration")) Qb E s :=
  wpAny_excMatches_type (X := "StopIteration") ⟨oe, he, hc⟩ (by rw [isSubtype_type]; kernel_rfl) (by kernel_rfl) (by rw [isSubtype_type]; kernel_rfl) h
theorem match_value {ea : Addr} {oe : Obj} {Qb : Bool → Shared → Prop} (he : s.heap.get? ea = some oe) (hc : oe.cls = .type "ValueError") (h : Qb true s) : wpAny (model P0 w) A (excMatches (.ref ea) (.type "ValueError")) Qb E s :=
  wpAny_excMatches_type (X := "ValueError") ⟨oe, he, hc⟩ (by rw [isSubtype_type]; kernel_rfl) (by kernel_rfl) (by rw [isSubtype_type]; kernel_rfl) h
theorem match_own {C ea : Addr} {oe : Obj} {newId : String} {bmB : List Value} {Qb : Bool → Shared → Prop} (X0 : K.In s.heap) (ex : ExcSp K C bmB newId) (hb : bmB.contains (.type "BaseException") = true) (he : s.heap.get? ea = some oe) (hc : oe.cls = .ref C) (h : Qb true s) : wpAny (model P0 w) A (excMatches (.ref ea) (.ref C)) Qb E s := by
  obtain ⟨dd, nm, bs, bm, ns, qn, hd, sn, sub, ab, col, k0, k1, k2, k3, k5, ho, ht, hok, hni⟩ := ex
  obtain ⟨hp, gg, d, tk, os⟩ := s
  exact wpAny_excMatches_sub_self (X0 _ _ ho) he hc ((tail_of_in X0 ht).hasType hb) h
theorem t_joined1 {v : Expr} {pos : Pos} {Q : Value → GH → LM → Prop} (h : tri w H O k hdl X env (eval v env) g m Q) : tri w H O k hdl X env (eval (.JoinedStr [v] pos) env) g m Q := h
theorem t_joinedR {a b : Str} {ja jb : Nat} {v : Expr} {pa pb pf pos : Pos} {Q : Value → GH → LM → Prop} (ha : a.length ≤ 1000) (hb : b.length ≤ 1000)
    (h : tri w H O k hdl X env (eval v env) g m fun r g₁ m₁ => ∃ x t, r = .str x t ∧ (reprText x).length ≤ 1000 ∧ ∀ y t', Q (.str y t') g₁ m₁) : tri w H O k hdl X env (eval (.JoinedStr [.Constant (.str a) ja pa, .FormattedValue v 114 none pf, .Constant (.str b) jb pb] pos) env) g m Q := by
  refine .mk fun A fs base s aa R F => ?_
  refine JoinedStr_many (joinParts_cons ?_)
  show wpAny _ _ (eval (.Constant (.str a) ja pa) env) _ _ s
  intro _ _ _
  refine ⟨by rw [strLen_append]; simp [sizeLine, show (Str.empty).length = 0 from rfl]; omega, ?_⟩
  have key : wpAny (model P0 w) A (joinParts (Str.empty ++ a) (eval (.FormattedValue v 114 none pf) env :: evalEach [.Constant (.str b) jb pb] env)) (fun v s' => ∃ g' m', Rep H O fs base g' s' ∧ Frm env m' base g' s'.heap ∧ Q v g' m')
      (fun e s' => ∃ g' m', Rep H O fs base g' s' ∧ Frm env m' base g' s'.heap ∧ X fs base g' m' e s'.heap) { s with toks := s.toks + 1 } := by
    refine joinParts_cons ?_
    show wpAny _ _ (do let v ← eval v env; standAt pf; formatted pf (← holding [v] (converted 114 v)) none) _ _ _
    refine wpAny_bind (wpAny_mono (h.run A fs base _ aa (R.toks _) F) (fun r s₁ ⟨g₁, m₁, R1, F1, x, t, e1, e2, e3⟩ => ?_) fun _ _ x => x)
    subst e1
    refine wpAny_bind (wpAny_standAt (wpAny_bind (wpAny_holding ?_)))
    show wpAny _ _ (pyReprObj (.str x t)) _ _ _
    refine pyReprObj_str ?_ (by simp [sizeLine]; omega)
    unfold formatted
    refine formatField_str (fun t' tk => ?_) (by simp [sizeLine]; omega)
    refine ⟨by simp [sizeLine, strLen_append, show (Str.empty).length = 0 from rfl]; omega, ?_⟩
    rw [arm_evalEach_cons]
    refine joinParts_cons ?_
    intro _ _ _
    refine ⟨by simp [sizeLine, strLen_append, show (Str.empty).length = 0 from rfl]; omega, ?_⟩
    have : wpAny (model P0 w) A (joinParts (Str.empty ++ a ++ reprText x ++ b) []) (fun v s' => ∃ g' m', Rep H O fs base g' s' ∧ Frm env m' base g' s'.heap ∧ Q v g' m')
      (fun e s' => ∃ g' m', Rep H O fs base g' s' ∧ Frm env m' base g' s'.heap ∧ X fs base g' m' e s'.heap) { s₁ with toks := tk + 1 } := by
      refine joinParts_nil ?_ (by simp [sizeLine, strLen_append, show (Str.empty).length = 0 from rfl]; omega)
      exact ⟨g₁, m₁, R1.toks _, F1, e3 _ _⟩
    exact this
  exact key
end
end
noncomputable section
open AutoSeq1 (wpAny_loadPart')
def EqW (prog : Program) (w : World) (A : Around) (s : Shared) (y x : Value) : Prop := ∀ (E : Value → Shared → Prop) (Q : Bool → Shared → Prop), Q true s → wpAny (model prog w) A (eqBool y x) Q E s
section
variable {prog : Program} {w : World} {A : Around} {E : Value → Shared → Prop} {s : Shared}
theorem EqW.refs {l b : Addr} (h : ∀ (E : Value → Shared → Prop) (Q : Value → Shared → Prop), Q (.bool true) s → wpAny (model prog w) A (compareOp .Eq (.ref l) (.ref b)) Q E s) : EqW prog w A s (.ref l) (.ref b) := fun E Q hq => by
  unfold eqBool
  refine wpAny_holding ?_
  refine wpAny_ite_split (fun hab => ?_) (fun _ => ?_)
  · exact wpAny_bind (wpAny_rule (wpAny_pure hq))
  · exact wpAny_bind (h E _ (wpAny_truthy_bool hq))
theorem EqW.at {y x : Value} (h : PySem.SeqAt.EqAt A s y x true) : EqW prog w A s y x := fun E Q hq => h prog w E Q hq
theorem tuple_eqW (l b : Addr) (items items2 : Array Value) (n n2 : Nat) (dd dd2 : Option Addr) (sl sl2 : Array (Option Value)) (hz : items.size = items2.size) {P : PySem.Fin → Shared → Prop}
    (hl : s.heap.get? l = some { cls := .type "tuple", dict := dd, data := .seq items n, slots := sl }) (hb : s.heap.get? b = some { cls := .type "tuple", dict := dd2, data := .seq items2 n2, slots := sl2 })
    (he : ∀ j (h1 : j < items.size) (h2 : j < items2.size), EqW prog w A s items[j] items2[j]) (h : P (.done (.ret (.bool true))) s) : wpAny (model prog w) A (Builtin.«tuple.__eq__» ⟨[.ref l, .ref b], []⟩) P E s := by
  obtain ⟨hp, g, d, tk, os⟩ := s
  have f2 := PySem.AutoSeq1.sub_tuple_tuple
  have hZ : (items.toList.zip items2.toList).length = min items.size items2.size := by simp
  wp_walk using wpAny_loadPart' hl, wpAny_loadPart' hb, wpAny_forIn_list _ (fun rest b s' => b.1 = none ∧ s' = ⟨hp, g, d, tk, os⟩ ∧ ∃ i, rest = (items.toList.zip items2.toList).drop i) _
  case turn =>
    rintro ⟨y, x⟩ rest b s' ⟨hb', rfl, i, hz'⟩
    have hlt : i < (items.toList.zip items2.toList).length := by
      rcases Nat.lt_or_ge i (items.toList.zip items2.toList).length with h' | h'
      · exact h'
      · rw [List.drop_of_length_le h'] at hz'; cases hz'
    have hm : i < min items.size items2.size := hZ ▸ hlt
    have h1 : i < items.size := Nat.lt_of_lt_of_le hm (Nat.min_le_left _ _)
    have h2 : i < items2.size := Nat.lt_of_lt_of_le hm (Nat.min_le_right _ _)
    rw [List.drop_eq_getElem_cons hlt] at hz'
    injection hz' with hyx hrest
    have hy : y = items[i] := by have := congrArg Prod.fst hyx; simpa using this
    have hx : x = items2[i] := by have := congrArg Prod.snd hyx; simpa using this
    subst hy hx
    refine wpAny_bind (he i h1 h2 _ _ ?_)
    wp_walk
    exact ⟨rfl, rfl, i + 1, hrest⟩
  case fin =>
    rintro ⟨b1, b2⟩ s' ⟨hb', rfl, i, hz'⟩
    simp only at hb'
    subst hb'
    wp_walk
    simpa [Builtin.Tuple.tupleCompareSizes, hz] using h
  case h =>
    exact ⟨rfl, rfl, 0, rfl⟩
theorem cmp_tuple {l b : Addr} {items items2 : Array Value} {Q : Value → Shared → Prop} (hl : IsTup s.heap l items) (hb : IsTup s.heap b items2) (hz : items.size = items2.size) (hu : A.units < cLine)
    (he : ∀ j (h1 : j < items.size) (h2 : j < items2.size), EqW prog w A.in1 s items[j] items2[j]) (h : Q (.bool true) s) : wpAny (model prog w) A (compareOp .Eq (.ref l) (.ref b)) Q E s := by
  obtain ⟨⟨cls, dd, data, sl⟩, ho, hc, n, hd⟩ := id hl
  obtain ⟨⟨cls2, dd2, data2, sl2⟩, ho2, hc2, n2, hd2⟩ := id hb
  simp only at hc hd hc2 hd2
  subst hc hd hc2 hd2
  refine wpAny_richCompare_same_room (op := .Eq) (T := "tuple") ⟨_, ho, rfl⟩ ⟨_, ho2, rfl⟩ PySem.F.slot_tuple_eq (wpAny_call_entry PySem.F.slot_tuple_eq ⟨_, ho, rfl⟩ PySem.F.entry_tuple_eq ?_ (PySem.F.args_tuple_eq_2 _ _)) hu
  exact tuple_eqW l b items items2 n n2 dd dd2 sl sl2 hz ho ho2 he ⟨_, rfl, (fun x => nomatch x), h⟩
end
theorem reads_snoc {h : Heap} {v : Value} {d : PyData} {bs : List Addr} (y : Reads h v d bs) : ∀ (vs : List Value) {ds : List PyData} {as : List Addr}, ReadsAll h vs ds as → ∃ cs, ReadsAll h (vs ++ [v]) (ds ++ [d]) cs
  | [], _, _, x => by cases x; exact ⟨_, .cons y .nil⟩
  | u :: vs, _, _, x => by
    cases x with
    | cons p q => obtain ⟨cs, z⟩ := reads_snoc y vs q; exact ⟨_, .cons p z⟩
def Rd (g : GH) (v : Value) (d : PyData) : Prop := ∀ h : Heap, (∀ a o, g a = some o → h.get? a = some o) → ∃ as, Reads h v d as
def RdAll (g : GH) (vs : List Value) (ds : List PyData) : Prop := ∀ h : Heap, (∀ a o, g a = some o → h.get? a = some o) → ∃ as, ReadsAll h vs ds as
section
variable {g g' : GH} {a : Addr} {vs : List Value} {ds : List PyData} {v : Value} {d : PyData}
theorem Rd.none : Rd g .none .none := fun _ _ => ⟨_, .none⟩
theorem Rd.bool {b : Bool} : Rd g (.bool b) (.bool b) := fun _ _ => ⟨_, .bool b⟩
theorem Rd.int {i : Int} {t : Tok} : Rd g (.int i t) (.int i) := fun _ _ => ⟨_, .int i t⟩
theorem Rd.str {x : Str} {t : Tok} : Rd g (.str x t) (.str x) := fun _ _ => ⟨_, .str x t⟩
theorem Rd.list (h : IsL g a vs) (r : RdAll g vs ds) : Rd g (.ref a) (.list ds) := fun hp k => by
  obtain ⟨n, e⟩ := h
  obtain ⟨as, ra⟩ := r hp k
  exact ⟨_, .list (k _ _ e) rfl rfl (by simpa using ra)⟩
theorem Rd.tuple (h : IsT g a vs) (r : RdAll g vs ds) : Rd g (.ref a) (.tuple ds) := fun hp k => by
  refine el_eeaa h fun o n e c d => ?_; clear h
  obtain ⟨as, ra⟩ := r hp k
  exact ⟨_, .tuple (k _ _ e) c d (by simpa using ra)⟩
theorem RdAll.nil : RdAll g [] [] := fun _ _ => ⟨_, .nil⟩
theorem RdAll.cons (h : Rd g v d) (r : RdAll g vs ds) : RdAll g (v :: vs) (d :: ds) := fun hp k => by
  obtain ⟨as, x⟩ := h hp k
  obtain ⟨bs, y⟩ := r hp k
  exact ⟨_, .cons x y⟩
theorem RdAll.snoc (r : RdAll g vs ds) (h : Rd g v d) : RdAll g (vs ++ [v]) (ds ++ [d]) := fun hp k => by
  obtain ⟨as, x⟩ := r hp k
  obtain ⟨bs, y⟩ := h hp k
  exact reads_snoc y _ x
end
end
noncomputable section
section
variable {prog : Program} {w : World} {A : Around} {E : Value → Shared → Prop} {s : Shared}
theorem collect_range {r : Addr} {a b c : Int} {t u v : Tok} {n : Nat} {Q : List Value → Shared → Prop} (hh : A.handled = none) (hr : IsRange s.heap r a b c t u v) (hsmall : Builtin.Range.small a b c = true) (hn : Builtin.Range.rangeSize a b c = n) (hlen : n ≤ 2 ^ 24)
    (hQ : ∀ h' tk (acc : Array Value), (∀ b o, s.heap.get? b = some o → h'.get? b = some o) → ItemsOf (fun i v => ∃ t, v = .int (a + i * c) t) acc n → Q acc.toList { s with heap := h', toks := tk }) : wpAny (model prog w) A (collect (.ref r)) Q E s := by
  unfold collect
  refine wpAny_bind (wpAny_runValue (codeAny_builtin PySem.F.entry_proto_collect ?_))
  rw [Around.under_plainId PySem.F.plain_proto_collect _]
  show wpAny _ A.in1 (newList [] >>= fun l => again (.builtin "list.__iadd__" ⟨[l, .ref r], []⟩)) _ _ s
  refine wpAny_bind (wpAny_newObj_type ?_ (by size_fits))
  refine wpAny_pure ⟨plainId_quiet PySem.F.plain_list_iadd _, codeAny_builtin PySem.F.entry_list_iadd ?_⟩
  rw [Around.under_plainId PySem.F.plain_list_iadd _]
  show wpAny _ A.in1 (Builtin.List.listExtendWith (.ref s.heap.objs.size) (.ref r) (.ref s.heap.objs.size)) _ _ _
  have hS : (s.heap.push { cls := .type "list", data := .seq ([] : List Value).toArray }).get? s.heap.objs.size = some { cls := .type "list", data := .seq #[] 0 } := Heap.get?_push_size _ rfl
  have fin : ∀ s', (∃ h' tk acc' c', s' = { s with heap := h', toks := tk } ∧ (∀ b o, b ≠ s.heap.objs.size → (s.heap.push { cls := .type "list", data := .seq ([] : List Value).toArray }).get? b = some o → h'.get? b = some o) ∧ h'.get? s.heap.objs.size = some { cls := .type "list", dict := none, data := .seq acc' c', slots := #[] } ∧ ItemsOf (fun i v => ∃ t, v = .int (a + i * c) t) acc' n) →
      wpAny (model prog w) A (match Value.ref s.heap.objs.size with
      | Value.ref a => do
        match (← load a).data with
          | Data.seq xs _ => pure xs.toList
          | _ => unsupported "internal:collect"
      | _ => unsupported "internal:collect") Q E s' := by
    rintro s' ⟨h', tk, acc', c', rfl, hk, h1, hi⟩
    show wpAny _ A (load s.heap.objs.size >>= _) _ _ _
    refine wpAny_bind (wpAny_load h1 (wpAny_pure ?_))
    exact hQ h' tk acc' (fun b o e => hk b o (Nat.ne_of_lt (Heap.lt_size e)) (Heap.get?_push_of_some _ e)) hi
  refine wpAny_mono (wpAny_extend_range (s := { s with heap := s.heap.push { cls := .type "list", data := .seq ([] : List Value).toArray } }) (R := fun r s' => r = .ok (.ret (.ref s.heap.objs.size)) ∧ (∃ h' tk acc' c', s' = { s with heap := h', toks := tk } ∧ (∀ b o, b ≠ s.heap.objs.size → (s.heap.push { cls := .type "list", data := .seq ([] : List Value).toArray }).get? b = some o → h'.get? b = some o) ∧ h'.get? s.heap.objs.size = some { cls := .type "list", dict := none, data := .seq acc' c', slots := #[] } ∧ ItemsOf (fun i v => ∃ t, v = .int (a + i * c) t) acc' n)) hh (Heap.get?_push_of_some _ hr) hsmall hn hlen _ _ 0 hS fun h' tk acc' c' hk h1 hi => ⟨rfl, h', tk, acc', c', rfl, hk, h1, hi⟩) (fun fin' s' z => ?_) fun e s' z => ?_
  · cases fin' with
    | done f =>
      obtain ⟨e, z⟩ := z
      cases e
      exact fin _ z
    | again c' =>
      refine ⟨z.1, codeAny_mono z.2 fun r s' q => ?_⟩
      obtain ⟨rfl, q⟩ := q
      exact fin _ q
  · cases z.1
end
def KOk {α : Type} (n : Nat) (P : α → Prop) : KasT α → Prop
  | .ret a => P a
  | .ask i j k => i < n ∧ j < n ∧ ∀ b, KOk n P (k b)
theorem KOk.bind {α β : Type} {n : Nat} {P : α → Prop} {P' : β → Prop} {f : α → KasT β} : ∀ {t : KasT α}, KOk n P t → (∀ a, P a → KOk n P' (f a)) → KOk n P' (t.bind f)
  | .ret a, h, hf => hf a h
  | .ask i j k, ⟨h1, h2, h⟩, hf => ⟨h1, h2, fun b => KOk.bind (h b) hf⟩
def PermN (n : Nat) (p : Array Nat) : Prop := p.Perm (List.toArray (List.range n))
theorem PermN.size {n : Nat} {p : Array Nat} (h : PermN n p) : p.size = n := by have := Array.Perm.size_eq h; simpa using this
theorem PermN.lt {n : Nat} {p : Array Nat} (h : PermN n p) (h0 : 0 < n) (i : Nat) : p.getD i 0 < n := by
  by_cases hi : i < p.size
  · have e : p.getD i 0 = p[i] := by simp [Array.getD, hi]
    rw [e]
    have hm : p[i] ∈ p.toList := by simp
    have := (Array.perm_iff_toList_perm.mp h).mem_iff.mp hm
    simpa using this
  · have e : p.getD i 0 = 0 := by simp [Array.getD, hi]
    rw [e]; exact h0
theorem PermN.rev {n : Nat} {p : Array Nat} (h : PermN n p) (i j : Nat) : PermN n (kas_rev p i j) := Array.Perm.trans (mirror_perm _ _ _ _) h
theorem PermN.bub {n : Nat} {p : Array Nat} (h : PermN n p) (i j : Nat) : PermN n (bubble p i j) := Array.Perm.trans (bubble_perm _ _ _) h
section
variable {n : Nat} (h0 : 0 < n)
include h0
theorem ok_asc {p : Array Nat} (hp : PermN n p) : ∀ (f m : Nat), KOk n (fun _ => True) (kas_asc p f m)
  | 0, m => trivial
  | f + 1, m => ⟨hp.lt h0 _, hp.lt h0 _, fun c => by
    dsimp only
    split
    · trivial
    · exact ok_asc hp f (m + 1)⟩
theorem ok_desc : ∀ (f : Nat) (p : Array Nat) (m q : Nat), PermN n p → KOk n (fun r : Array Nat × Nat × Nat => PermN n r.1) (kas_desc f p m q)
  | 0, p, m, q, hp => hp
  | f + 1, p, m, q, hp => ⟨hp.lt h0 _, hp.lt h0 _, fun c => by
    dsimp only
    split
    · split
      · exact ok_desc f _ _ _ (hp.rev _ _)
      · exact ok_desc f _ _ _ hp
    · refine ⟨hp.lt h0 _, hp.lt h0 _, fun d => ?_⟩
      dsimp only
      split
      · exact hp
      · exact ok_desc f _ _ _ hp⟩
theorem ok_tail3 {p : Array Nat} (hp : PermN n p) (m nrem : Nat) : KOk n (fun r : Nat × Array Nat => PermN n r.2) (kas_tail3 m nrem p) :=
  KOk.bind (ok_asc h0 (hp.rev _ _) _ _) fun _ _ => hp.rev _ _
theorem ok_descPart {p : Array Nat} (hp : PermN n p) (m nrem : Nat) : KOk n (fun r : Nat × Array Nat => PermN n r.2) (kas_descPart m nrem p) :=
  KOk.bind (ok_desc h0 _ _ _ _ hp) fun r hr => by
    split
    · exact ok_tail3 h0 (hr.rev _ _) _ _
    · exact ok_tail3 h0 hr _ _
theorem ok_count {p : Array Nat} (hp : PermN n p) (nrem : Nat) : KOk n (fun r : Nat × Array Nat => PermN n r.2) (kas_count nrem p) :=
  KOk.bind (ok_asc h0 hp _ _) fun m _ => by
    split
    · exact hp
    · split
      · refine ⟨hp.lt h0 _, hp.lt h0 _, fun c => ?_⟩
        dsimp only
        split
        · exact hp
        · exact ok_descPart h0 (hp.rev _ _) _ _
      · exact ok_descPart h0 hp _ _
theorem ok_place {p : Array Nat} (hp : PermN n p) (k : Nat) : ∀ (f l r : Nat), KOk n (fun _ => True) (kas_place p k f l r)
  | 0, l, r => trivial
  | f + 1, l, r => by
    unfold kas_place
    split
    · trivial
    · refine ⟨hp.lt h0 _, hp.lt h0 _, fun c => ?_⟩
      dsimp only
      split
      · exact ok_place hp k f _ _
      · exact ok_place hp k f _ _
theorem ok_bin : ∀ (f : Nat) (p : Array Nat) (k : Nat), PermN n p → KOk n (PermN n) (kas_bin f p k)
  | 0, p, k, hp => hp
  | f + 1, p, k, hp => KOk.bind (ok_place h0 hp k k 0 k) fun l _ => ok_bin f _ _ (hp.bub _ _)
theorem ok_sort : KOk n (PermN n) (kas_sort n) :=
  KOk.bind (ok_count h0 (Array.Perm.refl _) _) fun r hr => by
    split
    · exact ok_bin h0 _ _ _ hr
    · exact hr
end
theorem KOk.wp {α : Type} {n : Nat} {P : α → Prop} {cmp : Nat → Nat → (Bool → Shared → Prop) → Shared → Prop} {I : Shared → Prop} {Q : α → Shared → Prop} (hc : ∀ i j C s, i < n → j < n → I s → (∀ b s', I s' → C b s') → cmp i j C s) (hq : ∀ a s, P a → I s → Q a s) :
    ∀ (t : KasT α) (s : Shared), KOk n P t → I s → t.kasWp cmp Q s
  | .ret a, s, h, i => hq a s h i
  | .ask i j k, s, ⟨h1, h2, h⟩, hI => hc i j _ s h1 h2 hI fun b s' hI' => KOk.wp hc hq (k b) s' (h b) hI'
end
noncomputable section
abbrev PairG (h : Heap) (v : Value) : Prop := ∃ a o n x y t u, v = .ref a ∧ h.get? a = some o ∧ o.cls = .type "tuple" ∧ o.data = .seq #[.int x t, .int y u] n
section
variable {prog : Program} {w : World} {A : Around} {E : Value → Shared → Prop} {s : Shared}
theorem pair_lt {v v' : Value} {Q : Bool → Shared → Prop} (h1 : PairG s.heap v) (h2 : PairG s.heap v') (h : ∀ b, Q b s) : wpAny (model prog w) A (keyLt' (tuples' true) v v') Q E s := by
  obtain ⟨a, o, n, x, y, t, u, rfl, e1, c1, d1⟩ := h1
  obtain ⟨a', o', n', x', y', t', u', rfl, e2, c2, d2⟩ := h2
  refine kat_lt e1 d1 e2 d2 ?_
  show KatLex prog w A true _ Q [(.int x t, .int x' t'), (.int y u, .int y' u')] 0 s
  refine kat_cons (PySem.SeqAt.EqAt.int_int x t x' t' prog w _ _ (kat_go (fun _ => ?_) fun _ => ?_))
  · refine kat_yes (kat_cons (PySem.SeqAt.EqAt.int_int y u y' u' prog w _ _ (kat_go (fun _ => ?_) fun _ => ?_)))
    · exact kat_yes (kat_nil (h _))
    · refine kat_no ?_
      exact kat_one _ _ (wpAny_lt_int (h _))
  · refine kat_no ?_
    exact oneLt_int (h _)
theorem pair_tups {h : Heap} : ∀ {ks : List Value}, (∀ v ∈ ks, PairG h v) → ∃ fs, KatTups h ks fs ∧ fs.length = ks.length ∧ ∀ v ∈ fs, ∃ i t, v = .int i t
  | [], _ => ⟨[], KatTups.nil, rfl, fun _ h => nomatch h⟩
  | v :: ks, hv => by
    refine el_eaa (pair_tups fun u hu => hv u (.tail _ hu)) fun fs z1 z2 z3 => ?_
    obtain ⟨a, o, n, x, y, t, u, rfl, e1, c1, d1⟩ := hv v (.head _)
    exact ⟨.int x t :: fs, KatTups.cons e1 c1 d1 rfl z1, by simp [z2], fun w hw => by
      rcases List.mem_cons.mp hw with rfl | hw
      · exact ⟨x, t, rfl⟩
      · exact z3 w hw⟩
end
section
variable {α β : Type} {w : World} {H : Heap} {O : OsState} {k : Nat} {X : ExcP} {env : Env} {g : GH} {m : LM} {K : Frag} {fs : List Addr} {base : GH} {s : Shared} {A : Around} {E : Value → Shared → Prop}
def KeyFn (w : World) (H : Heap) (O : OsState) (k : Nat) (env : Env) (f : Value) (n : Nat) (g : GH) (m : LM) : Prop :=
  ∀ (i : Nat) (t : Tok) (g' : GH), i < n → Sub g g' → tri w H O k none noX env (call f [.int i t] []) g' m (fun v g'' m' => m' = m ∧ ∃ T x y tx ty, v = .ref T ∧ g' T = none ∧ g'' = gset g' T (tup [.int x tx, .int y ty] 0))
theorem AOk.in2 (a : AOk H (k + 1) none fs env base A) : AOk H k none fs env base A.in1.in1 := ⟨by have := a.depth; show A.depth + 4 * k ≤ 900; omega, by have := a.units; show A.units + 1 + 1 + 60 * k ≤ 9000; omega, a.hdl, a.up, a.ff, a.fr⟩
theorem sub_trans {g₁ g₂ g₃ : GH} (a : Sub g₁ g₂) (b : Sub g₂ g₃) : Sub g₁ g₃ := fun x o e => b x o (a x o e)
theorem sub_refl {g : GH} : Sub g g := fun _ _ e => e
theorem sub_new {g : GH} {a : Addr} {o : Obj} (h : g a = none) : Sub g (gset g a o) := fun x o' e => by
  rw [gset_ne (fun q => by rw [q, h] at e; cases e)]; exact e
theorem Sub.put {g g' : GH} {a : Addr} {o : Obj} (s : Sub g g') (h : g a = Option.none) : Sub g (gset g' a o) := fun x o' e => by
  rw [gset_ne (fun q => by rw [q, h] at e; cases e)]; exact s x o' e
theorem sort_loop {f : Value} {n : Nat} {D kS : Addr} {e1 : Nat} {vs : List Value} (hk : KeyFn w H O k env f n g m) (hD : g D = none) (hS : g kS = none) (hDS : D ≠ kS) (hlen : vs.length = n) (hvs : ∀ j (h : j < n), ∃ t, vs[j]? = some (.int j t)) (hn : n < 64)
    (a : AOk H k none fs env base A) {body : Value → PUnit → Sem (ForInStep PUnit)} {Q : PUnit → Shared → Prop}
    (hb : ∀ x ks e (s' : Shared) (C : Value → Shared → Prop), List.length ks < 64 → wpAny (model P0 w) A (call f [x]) (fun v s'' => s''.heap.get? kS = some (seqObj "list" (List.toArray ks) e) ∧ ∀ c h', Heap.SameBut kS s''.heap h' → h'.get? kS = some (seqObj "list" (List.toArray (ks ++ [v])) c) → C v { s'' with heap := h' }) (fun _ _ => False) s' →
      wpAny (model P0 w) A (body x ⟨⟩) (fun r s' => r = .yield ⟨⟩ ∧ ∃ v, C v s') E s')
    (h : ∀ g' ks e s', Rep H O fs base g' s' → Frm env m base g' s'.heap → Sub g g' → g' D = some (lst [] e1) → g' kS = some (lst ks e) → ks.length = n → (∀ v ∈ ks, ∃ T x y tx ty, v = .ref T ∧ g' T = some (tup [.int x tx, .int y ty] 0)) → Q ⟨⟩ s') :
    ∀ (r : List Value) (i : Nat) (ks : List Value) (e : Nat) (g₁ : GH) (s : Shared), r = vs.drop i → i ≤ n → Rep H O fs base g₁ s → Frm env m base g₁ s.heap → Sub g g₁ → g₁ D = some (lst [] e1) → g₁ kS = some (lst ks e) → ks.length = i → (∀ v ∈ ks, ∃ T x y tx ty, v = .ref T ∧ g₁ T = some (tup [.int x tx, .int y ty] 0)) →
      wpAny (model P0 w) A (forIn r PUnit.unit body) Q E s
  | [], i, ks, e, g₁, s, hr, hi, R, F, hs, h1, h2, h3, h4 => by
    rw [List.forIn_nil]
    have : i = n := by
      have := congrArg List.length hr
      simp at this; omega
    exact wpAny_pure (h g₁ ks e s R F hs h1 h2 (h3.trans this) h4)
  | x :: r, i, ks, e, g₁, s, hr, hi, R, F, hs, h1, h2, h3, h4 => by
    have hlt : i < n := by
      have := congrArg List.length hr
      simp at this; omega
    obtain ⟨t, ht⟩ := hvs i hlt
    have hx : x = .int i t ∧ r = vs.drop (i + 1) := by
      rw [List.drop_eq_getElem_cons (by omega)] at hr
      injection hr with e1 e2
      refine ⟨?_, e2⟩
      rw [List.getElem?_eq_getElem (by omega)] at ht
      rw [e1]; exact Option.some.inj ht
    obtain ⟨rfl, hr'⟩ := hx
    rw [List.forIn_cons]
    refine wpAny_bind (wpAny_mono (hb _ ks e s (fun v s' => ∃ g' c, Rep H O fs base g' s' ∧ Frm env m base g' s'.heap ∧ Sub g g' ∧ g' D = some (lst [] e1) ∧ g' kS = some (lst (ks ++ [v]) c) ∧ ∀ u ∈ ks ++ [v], ∃ T x y tx ty, u = .ref T ∧ g' T = some (tup [.int x tx, .int y ty] 0)) (by omega)
      (wpAny_mono ((hk i t g₁ hlt hs).run A fs base s a R F) (fun v s' ⟨g', m', R', F', q⟩ => ?_) fun _ _ ⟨_, _, _, _, q⟩ => q.elim)) (fun q s' hq => ?_) fun _ _ z => z)
    · obtain ⟨rfl, T, x, y, tx, ty, rfl, hT, rfl⟩ := q
      have hTS : kS ≠ T := fun z => by rw [← z, h2] at hT; cases hT
      have hTD : D ≠ T := fun z => by rw [← z, h1] at hT; cases hT
      have hkS : gset g₁ T (tup [.int x tx, .int y ty] 0) kS = some (lst ks e) := (gset_ne hTS).trans h2
      refine ⟨R'.kg _ _ hkS, fun c h' hsb ho => ?_⟩
      have hx : ∀ b o, b ≠ kS → s'.heap.get? b = some o → h'.get? b = some o := fun b o hb z => (hsb.2 b hb).trans z
      refine ⟨_, c, R'.upd hkS hx ho s'.toks, F'.upd hkS hx, (sub_trans hs (sub_new hT)).put hS, ?_, gset_self, fun v hv => ?_⟩
      · rw [gset_ne hDS, gset_ne hTD]; exact h1
      · rcases List.mem_append.mp hv with hv | hv
        · obtain ⟨T', x', y', t', u', rfl, e'⟩ := h4 v hv
          refine ⟨T', x', y', t', u', rfl, ?_⟩
          rw [gset_ne (fun z => by rw [z, h2] at e'; simp at e'), gset_ne (fun z => by rw [z, hT] at e'; cases e')]; exact e'
        · rw [List.mem_singleton.mp hv]
          exact ⟨T, x, y, tx, ty, rfl, by rw [gset_ne (Ne.symm hTS)]; exact gset_self⟩
    · obtain ⟨rfl, v, g', c, R', F', z1, z2, z3, z4⟩ := hq
      exact sort_loop hk hD hS hDS hlen hvs hn a hb h r (i + 1) (ks ++ [v]) c g' s' hr' hlt R' F' z1 z2 z3 (by simp [h3]) z4
theorem t_sorted {r q : Addr} {n : Nat} {Q : Value → GH → LM → Prop} (hr : IsR g r n) (h2 : 2 ≤ n) (hn : n < 64) (hk : KeyFn w H O k env (.ref q) n g m)
    (h : ∀ D g' (p : List Nat) vs, g D = none → Sub g g' → p.Perm (List.range n) → IsL g' D vs → vs.length = n → (∀ i, (h : i < n) → ∃ j t, p[i]? = some j ∧ vs[i]? = some (.int j t)) → Q (.ref D) g' m) :
    tri w H O (k + 1) none X env (call (.builtin "sorted") [.ref r] [(Str.ofString "key", .ref q)]) g m Q := by
  refine .mk fun A fs base s a R F => ?_
  obtain ⟨t, u, v, e⟩ := hr
  refine call_function_entry_kw kind_sorted plain_sorted entry_sorted (ksk_s1 _ _) ?_
  unfold Builtin.«sorted»
  refine wpAny_bind (m := checkCount "sorted" 1 1 _) (wpAny_pure ?_)
  have hz : Builtin.Range.rangeSize 0 (n : Int) 1 = (n : Int) := by
    have := rangeSize_nat 0 n; simpa using this
  refine wpAny_bind (collect_range a.hdl (R.kg _ _ e) (small_one (by omega) (by omega) (by omega) (by omega)) hz (by omega) fun h1 tk acc hk1 hacc => ?_)
  obtain ⟨hsz, hval⟩ := hacc
  generalize hvs : acc.toList = vs
  have hlen : vs.length = n := by rw [← hvs]; simpa using hsz
  have hvi : ∀ j (h : j < n), ∃ t, vs[j]? = some (.int j t) := fun j hj => by
    obtain ⟨x, hx⟩ : ∃ x, acc[j]? = some x := ⟨_, Array.getElem?_eq_getElem (by omega)⟩
    obtain ⟨t, ht⟩ := hval j x hx
    refine ⟨t, ?_⟩
    rw [← hvs]
    simp only [Array.getElem?_toList, hx, ht]
    simp
  have R1 := R.grow hk1 tk
  have F1 := F.grow hk1
  have nD := get_size_none h1
  refine wpAny_bind (wpAny_newList ?_ (by rw [sizeLine_eq]; omega))
  have oD := Heap.get?_push_size h1 (o := lst vs 0) rfl
  have R2 := R1.new nD (h' := h1.push (lst vs 0)) (fun _ _ e => Heap.get?_push_of_some _ e) oD tk
  have F2 := F1.new (o' := lst vs 0) nD (h' := h1.push (lst vs 0)) (fun _ _ e => Heap.get?_push_of_some _ e)
  generalize hDd : h1.objs.size = D at oD R2 F2 nD
  have gD : g D = none := R1.none_g nD
  have a2 := a.in2
  refine wpAny_bind (wpAny_holding (wpAny_call_entry_kw slot_list_sort ⟨_, oD, rfl⟩ entry_list_sort ?body (ksk_l1 _ _)))
  rw [ksk_t1]
  unfold ksk_tree
  refine wpAny_bind (listItems_at oD rfl ?_)
  refine wpAny_bind (listUpdate_at oD rfl ?_ (by rw [List.size_toArray, sizeLine_eq]; omega) (Nat.zero_le _))
  obtain ⟨e1, ho1⟩ : ∃ e1, ((h1.push (lst vs 0)).update D (Obj.mapSeq fun _ => #[])).get? D = some (lst [] e1) := ⟨_, get?_update_seq oD fun _ => #[]⟩
  have R3 := R2.upd (o' := lst [] e1) gset_self (fun b o hb z => ((Heap.SameBut.update (h1.push (lst vs 0)) D (Obj.mapSeq fun _ => (#[] : Array Value))).2 b hb).trans z) ho1 tk
  have F3 := F2.upd (o' := lst [] e1) gset_self (fun b o hb z => ((Heap.SameBut.update (h1.push (lst vs 0)) D (Obj.mapSeq fun _ => (#[] : Array Value))).2 b hb).trans z)
  have eg : gset (gset g D (lst vs 0)) D (lst [] e1) = gset g D (lst [] e1) := by
    funext b; unfold gset; split <;> rfl
  rw [eg] at R3 F3
  generalize hh2 : (h1.push (lst vs 0)).update D (Obj.mapSeq fun _ => (#[] : Array Value)) = h2' at ho1 R3 F3
  refine wpAny_bind (seqEpoch_at ho1 rfl ?_)
  refine wpAny_bind (wpAny_newTuple ?_ (by show vs.length ≤ _; rw [sizeLine_eq]; omega))
  have R4 := R3.grow (h' := h2'.push (seqObj "tuple" vs.toArray 0)) (fun _ _ e => Heap.get?_push_of_some _ e) tk
  have F4 := F3.grow (h' := h2'.push (seqObj "tuple" vs.toArray 0)) (fun _ _ e => Heap.get?_push_of_some _ e)
  generalize hh3 : h2'.push (seqObj "tuple" vs.toArray 0) = h3 at R4 F4
  refine wpAny_bind (wpAny_newList ?_ (Nat.zero_le _))
  have nS := get_size_none h3
  have oS := Heap.get?_push_size h3 (o := lst [] 0) rfl
  have R5 := R4.new nS (h' := h3.push (lst [] 0)) (fun _ _ e => Heap.get?_push_of_some _ e) oS tk
  have F5 := F4.new (o' := lst [] 0) nS (h' := h3.push (lst [] 0)) (fun _ _ e => Heap.get?_push_of_some _ e)
  have gS' : gset g D (lst [] e1) h3.objs.size = none := R4.none_g nS
  generalize hSS : h3.objs.size = kS at oS R5 F5 nS gS'
  have hDS : D ≠ kS := fun z => by rw [← z, gset_self] at gS'; cases gS'
  have gS : g kS = none := by rw [gset_ne (Ne.symm hDS)] at gS'; exact gS'
  refine wpAny_holding ?_
  unfold ksk_rest
  refine wpAny_bind (wpAny_rule ?_)
  first
    | rw [List.forIn_toArray]
    | (rw [← Array.forIn_toList]; simp only [List.toList_toArray])
    | rw [← Array.forIn_toList]
  refine wpAny_bind (sort_loop (e1 := e1) hk gD gS hDS hlen hvi hn a2 (fun x ks e s' C hks hx => ?_) (fun g' ks e s' R' F' hs q1 q2 q3 q4 => ?_) vs 0 [] 0 _ _ rfl (Nat.zero_le _) R5 F5 (((sub_refl (g := g)).put gD).put gS) ?_ gset_self rfl (fun _ z => nomatch z))
  · refine wpAny_bind (wpAny_attempt (wpAny_mono hx (fun v s'' hk' => ?_) fun _ _ hF => hF.elim))
    obtain ⟨ho, hC⟩ := hk'
    have ea : (List.toArray ks).push v = List.toArray (ks ++ [v]) := by simp
    obtain ⟨c2, hc2⟩ : ∃ c2, (s''.heap.update kS (Obj.mapSeq (·.push v))).get? kS = some (seqObj "list" (List.toArray (ks ++ [v])) c2) := ⟨_, by rw [← ea]; exact get?_update_seq ho (·.push v)⟩
    try dsimp only
    refine wpAny_bind (listUpdate_at ho rfl ?_ (by rw [List.size_toArray, sizeLine_eq]; omega) (Nat.le_trans (Nat.le_of_eq (Array.size_push ..)) (by rw [List.size_toArray, sizeLine_eq]; omega)))
    exact wpAny_pure ⟨rfl, v, hC c2 _ (Heap.SameBut.update ..) hc2⟩
  · try dsimp only
    refine wpAny_bind (listItems_at (R'.kg _ _ q2) rfl ?_)
    have hpair : ∀ v ∈ ks, PairG s'.heap v := fun v hv => by
      obtain ⟨T, x, y, tx, ty, rfl, z⟩ := q4 v hv
      exact ⟨T, _, 0, x, y, tx, ty, rfl, R'.kg _ _ z, rfl, rfl⟩
    refine el_eaa (pair_tups hpair) fun fs' z1 z2 z3 => ?_
    have hl : ks.length = vs.length := by omega
    unfold ksk_end
    try dsimp only
    simp only [Bool.false_eq_true, if_false]
    rw [if_neg (by rw [List.size_toArray]; omega), if_neg (by rw [List.size_toArray]; omega)]
    refine wpAny_bind (kat_kind (T := .type "int") z1 (by omega) (fun v hv => ?_) (by decide) ?_)
    · obtain ⟨i, t, rfl⟩ := z3 v hv; exact Looks.of_pure rfl
    have hne : (Value.type "int" != Value.type "tuple") = true := by decide
    rw [hne]
    have hsort : (kas_sort vs.length).kasWp (kas_ask (model P0 w).prog w A.in1.in1 (tuples' true) ks) (fun p s'' => PermN vs.length p ∧ s'' = s') s' :=
      KOk.wp (n := vs.length) (P := PermN vs.length) (I := fun s'' => s'' = s') (fun i j C s'' hi hj hI hC => by
        subst hI
        unfold kas_ask
        have gi : ∀ i, i < vs.length → ks.getD i .none ∈ ks := fun i hi => by
          have : ks.getD i .none = ks[i]'(by omega) := by simp [List.getD, show i < ks.length by omega]
          rw [this]; exact List.getElem_mem _
        exact pair_lt (hpair _ (gi i hi)) (hpair _ (gi j hj)) fun b => hC b _ rfl) (fun p s'' hp hI => ⟨hp, hI⟩) _ _ (ok_sort (by omega)) rfl
    refine wpAny_bind (wpAny_mono (kat_run (κ := tuples' true) (ks := ks) (vs := vs) (Q := fun st' s'' => ∃ p : Array Nat, PermN vs.length p ∧ arrOf st' = p.map (kas_item (ks.toArray.zip vs.toArray)) ∧ failedOf st' = none ∧ s'' = s') hl (by omega) (by omega) (fun p' st' s'' b1 b2 b3 b4 => ⟨p', b4.1, b2, b3, b4.2⟩) hsort) ?_ fun _ _ x => x)
    rintro ⟨⟨⟩, st'⟩ s'' ⟨p, hp, har, hf, rfl⟩
    try dsimp only
    have hout := kat_snds hl har
    unfold ksk_tail
    try dsimp only
    rw [hout]
    generalize hov : (p.toList.map fun i => vs.getD i Value.none) = out
    have hlo : out.length = n := by rw [← hov, List.length_map, Array.length_toList, hp.size, hlen]
    refine wpAny_bind (listUpdate_at (R'.kg _ _ q2) rfl ?_ (by rw [List.size_toArray, sizeLine_eq]; omega) (Nat.zero_le _))
    obtain ⟨ck, hck⟩ : ∃ ck, (s''.heap.update kS (Obj.mapSeq fun _ => (#[] : Array Value))).get? kS = some (lst [] ck) := ⟨_, get?_update_seq (R'.kg _ _ q2) fun _ => #[]⟩
    have x1 : ∀ b o, b ≠ kS → s''.heap.get? b = some o → (s''.heap.update kS (Obj.mapSeq fun _ => (#[] : Array Value))).get? b = some o := fun b o hb z => ((Heap.SameBut.update ..).2 b hb).trans z
    have R6 := R'.upd q2 x1 hck s''.toks
    have F6 := F'.upd (o' := lst [] ck) q2 x1
    generalize s''.heap.update kS (Obj.mapSeq fun _ => (#[] : Array Value)) = h6 at R6 F6
    have q5 : gset g' kS (lst [] ck) D = some (lst [] e1) := by rw [gset_ne hDS]; exact q1
    refine wpAny_bind (wpAny_letGo ?_)
    refine wpAny_bind (seqEpoch_at (R6.kg _ _ q5) rfl ?_)
    refine wpAny_bind (listUpdate_at (R6.kg _ _ q5) rfl ?_ (Nat.zero_le _) (by simp only [Bool.false_eq_true, if_false]; rw [List.size_toArray, sizeLine_eq]; omega))
    obtain ⟨cD, hcD⟩ : ∃ cD, (h6.update D (Obj.mapSeq fun _ => List.toArray out)).get? D = some (lst out cD) := ⟨_, get?_update_seq (R6.kg _ _ q5) fun _ => List.toArray out⟩
    have x2 : ∀ b o, b ≠ D → h6.get? b = some o → (h6.update D (Obj.mapSeq fun _ => List.toArray out)).get? b = some o := fun b o hb z => ((Heap.SameBut.update ..).2 b hb).trans z
    have R7 := R6.upd q5 x2 hcD s''.toks
    have F7 := F6.upd (o' := lst out cD) q5 x2
    rw [hf]
    simp only [bne_self_eq_false, Bool.false_eq_true, if_false]
    refine wpAny_pure ⟨_, rfl, wpAny_pure ⟨_, rfl, _, m, R7, F7, ?_⟩⟩
    have hps : p.toList.Perm (List.range n) := by
      have := Array.perm_iff_toList_perm.mp hp
      rw [hlen] at this; simpa using this
    refine h D _ p.toList out gD ((hs.put gS).put gD) hps ⟨cD, gset_self⟩ hlo fun i hi => ?_
    have hip : i < p.toList.length := by rw [hps.length_eq]; simpa using hi
    have hj : p.toList[i] < n := by
      have := hps.mem_iff.mp (List.getElem_mem hip); simpa using this
    obtain ⟨tt, ht⟩ := hvi _ hj
    refine ⟨p.toList[i], tt, List.getElem?_eq_getElem hip, ?_⟩
    rw [← hov, List.getElem?_map, List.getElem?_eq_getElem hip]
    simp only [Option.map_some]
    rw [List.getD_eq_getElem?_getD, ht]; rfl
  · rw [gset_ne hDS]; exact gset_self
end
end
noncomputable section
def Bm (H : Heap) (pm : Value) : Prop := ∃ mg bm ob, H.Ns mainGlobals mg ∧ mg "__builtins__" = some (.ref bm) ∧ bm ≠ builtinsNs ∧ bm ≠ mainGlobals ∧ H.get? bm = some ob ∧ ob.cls = .type "module" ∧ ob.dict = some builtinsNs ∧ ob.data = .plain ∧ pm = (mg "__name__").getD .none
section
variable {α β : Type} {w : World} {H : Heap} {O : OsState} {k : Nat} {X : ExcP} {env : Env} {g : GH} {m : LM} {K : Frag} {fs : List Addr} {base : GH} {s : Shared} {A : Around} {E : Value → Shared → Prop}
theorem t_callKw {x : Str} {p pos kp : Pos} {id : String} {e0 ev : Expr} {rest : List Expr} {kn : Str} {Q : Value → GH → LM → Prop} (hp : ((e0 :: rest).all fun e => match e with | .Starred .. => false | _ => true) = true)
    (h : tri w H O k none X env (eval (.Name x p) env) g m fun f g₀ m₀ => f = .builtin id ∧ tri w H O k none X env (spliced (backTo pos (starEach (e0 :: rest) env))) g₀ m₀ fun vs g₁ m₁ => tri w H O k none X env (eval ev env) g₁ m₁ fun kv g₂ m₂ => tri w H O k none X env (call (.builtin id) vs [(kn, kv)]) g₂ m₂ Q) :
    tri w H O k none X env (eval (.Call (.Name x p) (e0 :: rest) [⟨some kn, ev, kp⟩] pos) env) g m Q := by
  refine tri_eq (show eval (.Call (.Name x p) (e0 :: rest) [⟨some kn, ev, kp⟩] pos) env = (do callWith pos (← eval (.Name x p) env) [] (backTo pos (starEach (e0 :: rest) env)) (backToKw pos (keywordEach [⟨some kn, ev, kp⟩] env))) from rfl) (tri_bind (tri_mono h fun f g₀ m₀ q => ?_))
  obtain ⟨rfl, q⟩ := q
  refine .mk fun A fs base s a R F => ?_
  have he : backTo pos (starEach (e0 :: rest) env) = (false, eval e0 env) :: backTo pos (starEach rest env) := by
    have h1 := (Bool.and_eq_true_iff.mp (List.all_cons ▸ hp)).1
    cases e0 <;> first | rfl | cases h1
  refine callWith_kw (kws := [⟨some kn, ev, kp⟩]) ?_ he (spliced_plain hp)
  refine wpAny_mono (q.run A fs base s a R F) (fun vs s₁ ⟨g₁, m₁, R1, F1, q⟩ => ?_) fun _ _ x => x
  refine kws_cons (wpAny_mono (q.run A fs base s₁ a R1 F1) (fun kv s₂ ⟨g₂, m₂, R2, F2, q⟩ => kws_nil ?_) fun _ _ x => x)
  exact q.run A fs base s₂ a R2 F2
theorem t_lambda {params : Arguments} {body : Expr} {scope : Scope} {pos : Pos} {c P : Addr} {ps : Array Value} {pm : Value} {Q : Value → GH → LM → Prop} (T : Tp K H) (hB : Bm H pm) (hdef : defaultsOf params env = ([], [])) (hcl : scope.names.all (fun p => p.2 != .free || ((env.cells.lookup p.1).isSome && scope.names.lookup p.1 == some .free)) = true) (hg : env.globals = mainGlobals) (hcode : env.code = .ref c) (hC : codeHdIn K c P = true)
    (hP : g P = some (tabObj ps)) (ht : TriplesOk ps.toList) (hnf : codeAmong pos ps.toList = none)
    (h : ∀ f c' oc vs t ctv, g f = none → g c' = none → f ≠ c' → f ≠ P → c' ≠ P → oc.data = .fields vs → vs[1]? = some (.str (env.qual ++ "<lambda>") t) →
      Q (.ref f) (gset (gset (gset g P (tabObj (ps ++ #[rawInt pos.line, rawInt pos.col, .ref c']))) c' oc) f (kla_obj "<lambda>" (env.qual ++ "<lambda>") params body scope (clGo env scope.names []) pm c' ctv)) m) :
    tri w H O k none X env (eval (.Lambda params body scope pos) env) g m Q := by
  refine .mk fun A fs base s a R F => ?_
  obtain ⟨mg, bm, ob, b1, b2, b3, b4, b5, b6, b7, b8, b9⟩ := hB
  have X0 := T.X.keeps R.topIn
  have oP := R.kg _ _ hP
  have hgs := b1.keeps R.topIn
  have hgP : mainGlobals ≠ P := fun q => by
    refine el_eeeaa hgs fun o es ep e hd _ => ?_; clear hgs
    rw [q, oP] at e; cases e; cases hd
  have hbP : bm ≠ P := fun q => by
    have e := R.topIn _ _ b5
    rw [q, oP] at e; cases e; cases b6
  have hcc := closureFor_eq hcl
  refine kla_eval hdef (kla_makeFunction (mg := mg) (clos := clGo env scope.names []) hcc hg hgs hcode (codeHd_of_K X0 hC) oP ht hnf hgP ⟨bm, ob, b2, b3, b4, hbP, R.topIn _ _ b5, b6, b7, b8⟩ fun c' ctv h' tk hx hge hlt hrec htb => ?_)
  obtain ⟨c₂, oc, vs, t, e2, hoc, hd, hv⟩ := hrec
  cases e2
  have nc : s.heap.get? c' = none := get_ge_none hge
  have nf : h'.get? h'.objs.size = none := get_size_none _
  have nf0 : s.heap.get? h'.objs.size = none := get_ge_none (by omega)
  have ePc : c' ≠ P := fun q => by rw [q, oP] at nc; cases nc
  have R1 := R.upd hP (fun b o hb e => hx b o hb e) htb tk
  have F1 := F.upd (o' := tabObj (ps ++ #[rawInt pos.line, rawInt pos.col, .ref c'])) hP (fun b o hb e => hx b o hb e)
  refine el_aaa (fresh_priv R F nc) fun x1 x2 x3 x4 => ?_
  have R2 := R1.publish (a := c') (o := oc) x1 hoc
  have F2 := F1.publish (a := c') (o := oc) x3 x4
  have gr : Grows h' (h'.push (kla_obj "<lambda>" (env.qual ++ "<lambda>") params body scope (clGo env scope.names []) pm c' ctv)) := fun _ _ e => Heap.get?_push_of_some _ e
  have R3 := R2.new nf gr (Heap.get?_push_size _ rfl) tk
  have F3 := F2.new (o' := kla_obj "<lambda>" (env.qual ++ "<lambda>") params body scope (clGo env scope.names []) pm c' ctv) nf gr
  subst b9
  exact ⟨_, m, R3, F3, h _ c' oc vs t ctv (R.none_g nf0) x2 (Nat.ne_of_gt hlt) (fun q => by rw [q, oP] at nf0; cases nf0) ePc hd hv⟩
theorem tri_callLam {q : Addr} {name qual : Str} {params : Arguments} {body : Expr} {scope : Scope} {cl : List (Str × Addr)} {pm ctv : Value} {c' : Addr} {oc : Obj} {cvs : Array Value} {t : Tok} {vals : List Value} {binds : List (Str × Value)} {Q : Value → GH → LM → Prop}
    (T : Tp K H) (hq : g q = some (kla_obj name qual params body scope cl pm c' ctv)) (hc : g c' = some oc) (hcd : oc.data = .fields cvs) (hv : cvs[1]? = some (.str qual t)) (hbind : bindArgs (kla_fn name qual params body scope cl pm (.ref c') ctv) ⟨vals, []⟩ = pure binds) (hloc : ∀ y ∈ binds, scope.names.lookup y.1 = some .local) (hcell : ∀ x ∈ scope.names, x.2 ≠ .cell)
    (hcl : ∀ x c, cl.lookup x = some c → env.cells.lookup x = some c ∧ scope.names.lookup x = some .free) (hco : scope.isCoroutine = false) (hgen : scope.isGenerator = false) (hk : scope.kind = .function)
    (h : ∀ L mc, (∀ x c, cl.lookup x = some c → mc x = m x) → (∀ x, scope.names.lookup x = some .local → mc x = bindM binds x) → tri w H O k none noX (callEnv (kla_fn name qual params body scope cl pm (.ref c') ctv) L q) (eval body (callEnv (kla_fn name qual params body scope cl pm (.ref c') ctv) L q)) g mc fun v g' _ => Q v g' m) :
    tri w H O (k + 1) none X env (call (.ref q) vals []) g m Q := by
  refine .mk fun A fs base s a R F => ?_
  have aF := a.call R F
  have RR := R.rest
  refine wpAny_call (kla_callFunE (by have := aF.depth; unfold recursionLimit; omega) (R.kg _ _ hq) rfl hco hgen rfl ⟨c', oc, cvs, t, rfl, R.kg _ _ hc, hcd, hv⟩ ?_)
  rw [hbind]
  refine wpAny_pure (wpAny_newFunctionEnv hcell hloc (fun h₁ hns hsb => ⟨(T.nolimit.keeps R.topIn).fresh _ hsb, ?_⟩) hk)
  have hg : Grows s.heap h₁ := fun b o e => hsb.extBut b o (Nat.ne_of_lt (Heap.lt_size e)) (Heap.get?_push_of_some _ e)
  refine kla_codeExpr ?_
  refine el_aaaa (enter_ok (k := k) (tk := s.toks + binds.length) (fd := kla_fn name qual params body scope cl pm (.ref c') ctv) (f := q) (env := callEnv (kla_fn name qual params body scope cl pm (.ref c') ctv) s.heap.objs.size q) (cells := cl) rfl hk aF RR hg (T.sz R)) fun a' R' hb hg' back => ?_
  have sn := get_size_none s.heap
  have ckd : ∀ x c, cl.lookup x = some c → scope.names.lookup x = some .free := fun x c e => (hcl x c e).2
  refine wpAny_mono ((h s.heap.objs.size (fun x => if scope.names.lookup x = some .local then bindM binds x else m x) (fun x c e => ?_) (fun x e => ?_)).run _ _ _ _ a' R' ?_) (fun v s' hq' => ?_) fun e s' hq' => ?_
  · rw [if_neg (by rw [ckd x c e]; simp)]
  · rw [if_pos e]
  · refine el_eeeaaa hns fun o' es n q1 q2 q3 q4 => ?_; clear hns
    refine ⟨⟨o', es, n, q1, q2, q3, fun x hx => ?_⟩, hb, hg', fun x c e => ?_, fun x y c e1 e2 => ?_, fun x c e => .inr (ckd x c e), fun _ x c e hkc => ?_⟩
    · rw [q4]
      show bindM binds x = _
      rw [if_pos (show scope.names.lookup x = some .local from hx)]
    · have e : cl.lookup x = some c := e
      refine el_aa (F.cell x c (hcl x c e).1) fun z1 z2 z3 => ?_
      dsimp only
      rw [if_neg (by rw [ckd x c e]; simp)]
      refine el_ea z1 fun oc' y1 y2 => ?_; clear z1
      exact ⟨⟨oc', hg _ _ y1, y2⟩, z2, fun z => by rw [show c = s.heap.objs.size from z, sn] at y1; cases y1⟩
    · exact F.inj x y c (hcl x c e1).1 (hcl y c e2).1
    · have e : cl.lookup x = some c := e
      have hkc : scope.names.lookup x = some .cell := hkc
      rw [ckd x c e] at hkc; cases hkc
  · refine el_eeaa hq' fun g' m' R1 _ q' => ?_; clear hq'
    have R2 := back g' s' R1
    exact ⟨g', m, R.back R2 (fun _ _ _ n => n), F.back R R2, q'⟩
  · obtain ⟨_, _, _, _, q'⟩ := hq'; exact q'.elim
end
end
noncomputable section
theorem bind120 {x : Value} {xs : List Value} : bindArgs fd120 ⟨x :: xs, []⟩ = (newTuple xs >>= fun t => pure [(Str.ofString "self", x), (Str.ofString "nodes", t)]) := by
  cases xs
  · kernel_rfl
  · kernel_rfl
theorem bind87 {x y : Value} {xs : List Value} : bindArgs fd87 ⟨x :: y :: xs, []⟩ = (newTuple xs >>= fun t => pure [(Str.ofString "self", x), (Str.ofString "node", y), (Str.ofString "predecessors", t)]) := by
  cases xs
  · kernel_rfl
  · kernel_rfl
section
variable {w : World} {H : Heap} {O : OsState} {k : Nat} {g : GH} {K : Frag}
theorem fn_introV {f : Addr} {o : Obj} {fd : FuncData} {body : List Stmt} {args : Args} {vs : List Value} {binds : Value → List (Str × Value)} {R RX : Value → GH → Prop} (T : Tp K H) (ho : K.lookup f = some o) (hdata : o.data = .func fd) (hcd : codeIn K fd.code fd.qualname = true) (hbody : fd.body = .stmts body)
    (hbind : bindArgs fd args = (newTuple vs >>= fun t => pure (binds t))) (hz : vs.length ≤ 10000) (hclo : fd.closure = []) (hcell : ∀ x ∈ fd.scope.names, x.2 ≠ .cell) (hloc : ∀ t, ∀ x ∈ binds t, fd.scope.names.lookup x.1 = some .local)
    (h : ∀ L t, g t = none → tri w H O k none (exc fun c g' _ => RX c g') (callEnv fd L f) (execs body (callEnv fd L f)) (gset g t (tup vs 0)) (bindM (binds (.ref t))) fun fl g' _ => R (match fl with | .ret v => v | _ => .none) g')
    (hco : fd.scope.isCoroutine = false) (hgen : fd.scope.isGenerator = false) (hk : fd.scope.kind = .function) : fnS w H O (k + 1) (.ref f) args g R RX := by
  intro A fs base s a Rp
  have X := T.X.keeps Rp.topIn
  refine codeAny_call_function (by have := a.depth; unfold recursionLimit; omega) (X _ _ ho) hdata hco hgen hbody (codeRec_of X hcd) ?_
  rw [hbind]
  refine wpAny_bind (wpAny_newTuple ?_ (by simp [sizeLine]; omega))
  have nT := get_size_none s.heap
  have gT : Grows s.heap (s.heap.push (tup vs 0)) := fun _ _ e => Heap.get?_push_of_some _ e
  have R1 := Rp.new nT gT (Heap.get?_push_size _ rfl) s.toks
  have gn := Rp.none_g nT
  refine wpAny_pure (wpAny_newFunctionEnv (s := { s with heap := s.heap.push (tup vs 0) }) hcell (hloc _) (fun h₁ hns hsb => ⟨((T.nolimit.keeps Rp.topIn).push _).fresh _ hsb, codeAny_func ?_⟩) hk)
  have hg : Grows (s.heap.push (tup vs 0)) h₁ := fun b o e => hsb.extBut b o (Nat.ne_of_lt (Heap.lt_size e)) (Heap.get?_push_of_some _ e)
  refine el_aaaa (enter_ok (k := k) (tk := s.toks + (binds (.ref s.heap.objs.size)).length) (s := { s with heap := s.heap.push (tup vs 0) }) (env := callEnv fd (s.heap.push (tup vs 0)).objs.size f) (cells := fd.closure) rfl hk a R1 hg (T.sz R1)) fun a' R' hb hg' back => ?_
  refine wpAny_mono ((h (s.heap.push (tup vs 0)).objs.size s.heap.objs.size gn).run _ _ base _ a' R' ?_) (fun fl s' hq => ?_) fun e s' hq => ?_
  · refine el_eeeaaa hns fun o' es n q1 q2 q3 q4 => ?_; clear hns
    refine ⟨⟨o', es, n, q1, q2, q3, fun x _ => q4 x⟩, hb, hg', ?_, ?_, ?_, ?_⟩ <;> · intros; rename_i e; simp [callEnv, newEnv, hclo] at *
  · refine el_eeaa hq fun g' m' R1 _ q => ?_; clear hq
    exact ⟨g', back g' s' R1, q⟩
  · obtain ⟨g', m', R1, F1, c, fl, q⟩ := hq
    exact leave_ok rfl a' R1 F1 fl fun s2 R2 fl2 => ⟨g', c, back g' s2 R2, fl2, q⟩
theorem fn_introP {f : Addr} {o : Obj} {fd : FuncData} {body : List Stmt} {args : Args} {binds : List (Str × Value)} {R RX : Value → GH → Prop} (T : Tp K H) (ho : K.lookup f = some o) (hdata : o.data = .func fd) (hcd : codeIn K fd.code fd.qualname = true) (hbody : fd.body = .stmts body)
    (hbind : ∀ S, peek K S (bindArgs fd args) = some binds) (hclo : fd.closure = []) (hcell : ∀ x ∈ fd.scope.names, x.2 ≠ .cell) (hloc : ∀ x ∈ binds, fd.scope.names.lookup x.1 = some .local)
    (h : ∀ L, tri w H O k none (exc fun c g' _ => RX c g') (callEnv fd L f) (execs body (callEnv fd L f)) g (bindM binds) fun fl g' _ => R (match fl with | .ret v => v | _ => .none) g')
    (hco : fd.scope.isCoroutine = false) (hgen : fd.scope.isGenerator = false) (hk : fd.scope.kind = .function) : fnS w H O (k + 1) (.ref f) args g R RX := by
  intro A fs base s a Rp
  have X := T.X.keeps Rp.topIn
  refine codeAny_call_def (fd := fd) (body := body) (binds := binds) (by have := a.depth; unfold recursionLimit; omega) (X _ _ ho) hdata (T.nolimit.keeps Rp.topIn) (codeRec_of X hcd) hbody (kp_binds X hbind) hcell hloc (fun h₁ hns hg => ?_) hco hgen hk
  refine el_aaaa (enter_ok (k := k) (tk := s.toks + binds.length) (env := callEnv fd s.heap.objs.size f) (cells := fd.closure) rfl hk a Rp hg (T.sz Rp)) fun a' R' hb hg' back => ?_
  refine wpAny_mono ((h s.heap.objs.size).run _ _ base _ a' R' ?_) (fun fl s' hq => ?_) fun e s' hq => ?_
  · refine el_eeeaaa hns fun o' es n q1 q2 q3 q4 => ?_; clear hns
    refine ⟨⟨o', es, n, q1, q2, q3, fun x _ => q4 x⟩, hb, hg', ?_, ?_, ?_, ?_⟩ <;> · intros; rename_i e; simp [callEnv, newEnv, hclo] at *
  · refine el_eeaa hq fun g' m' R1 _ q => ?_; clear hq
    exact ⟨g', back g' s' R1, q⟩
  · obtain ⟨g', m', R1, F1, c, fl, q⟩ := hq
    exact leave_ok rfl a' R1 F1 fl fun s2 R2 fl2 => ⟨g', c, back g' s2 R2, fl2, q⟩
end
end
noncomputable section
section
variable {α β : Type} {w : World} {H : Heap} {O : OsState} {k : Nat} {hdl : Option Value} {X : ExcP} {env : Env} {g : GH} {m : LM} {K : Frag}
theorem t_stA {o value : Expr} {attr : Str} {p' pos : Pos} {Q : Flow → GH → LM → Prop} (hs : swapsWithSole [.Attribute o attr p'] value pos.line env = pure false) (hw : swappedStores [.Attribute o attr p'] value env = pure none)
    (h : tri w H O k hdl X env (eval value env) g m fun v g₁ m₁ => tri w H O k hdl X env (eval o env) g₁ m₁ fun ov g₂ m₂ => tri w H O k hdl X env (setAttr ov attr v) g₂ m₂ fun _ g₃ m₃ => Q .next g₃ m₃) : tri w H O k hdl X env (exec (.Assign [.Attribute o attr p'] value pos) env) g m Q :=
  t_assign hs hw (tri_mono h fun v g₁ m₁ q => t_all1 (t_asgA q))
theorem t_stS {o i value : Expr} {p' pos : Pos} {Q : Flow → GH → LM → Prop} (hs : swapsWithSole [.Subscript o i p'] value pos.line env = pure false) (hw : swappedStores [.Subscript o i p'] value env = pure none)
    (h : tri w H O k hdl X env (eval value env) g m fun v g₁ m₁ => tri w H O k hdl X env (eval o env) g₁ m₁ fun ov g₂ m₂ => tri w H O k hdl X env (eval i env) g₂ m₂ fun iv g₃ m₃ => tri w H O k hdl X env (setItem ov iv v) g₃ m₃ fun _ g₄ m₄ => Q .next g₄ m₄) : tri w H O k hdl X env (exec (.Assign [.Subscript o i p'] value pos) env) g m Q :=
  t_assign hs hw (tri_mono h fun v g₁ m₁ q => t_all1 (t_asgS q))
theorem t_ex {e : Expr} {pos : Pos} {Q : Flow → GH → LM → Prop} (h : tri w H O k hdl X env (eval e env) g m fun _ g' m' => Q .next g' m') (hi : interactive env = false) (hs : swapsWith e none pos.line env = pure false) : tri w H O k hdl X env (exec (.Expr e pos) env) g m Q := t_expr h hi hs
theorem t_lenL' {l : Addr} {items : List Value} {Q : Value → GH → LM → Prop} (hl : IsL g l items) (hn : items.length ≤ 100000) (h : ∀ t, Q (.int items.length t) g m) : tri w H O k hdl X env (call (.builtin "len") [.ref l] []) g m Q := t_lenL (.inl hl) hn h
end
abbrev nodO (dx : Addr) (sl : Array (Option Value)) : Obj := { cls := .ref 40, dict := some dx, slots := sl }
abbrev infoO (dx : Addr) (nd : Value) (np : Int) (t : Tok) (l : Addr) : Obj := nodO dx #[some nd, some (.int np t), some (.ref l)]
section
variable {w : World} {H : Heap} {O : OsState} {k : Nat} {hdl : Option Value} {X : ExcP} {env : Env} {g : GH} {m : LM} {x dx : Addr} {sl : Array (Option Value)} {v : Value}
theorem n_set {i : Nat} {p : Addr} {name : Str} {Q : Unit → GH → LM → Prop} (T : Tp (KK w.params) H) (hx : g x = some (nodO dx sl)) (hd : g dx = some emptyDict) (ht : takerIn (KK w.params) 40 name = some (some (.ref p))) (hT : typeIn (KK w.params) (.ref p) = some (.type "member_descriptor")) (hi : slotIn (KK w.params) p 40 = some i) (hz : i < 3)
    (h : Q () (gset g x (nodO dx ((sl ++ Array.replicate (i + 1 - sl.size) none).setIfInBounds i (some v)))) m) : tri w H O k hdl X env (setAttr (.ref x) name v) g m Q :=
  t_setslot (i := i) (es := []) (n := 0) T ⟨hx, hd⟩ (by kernel_rfl) (by kernel_rfl) ht hT hi (by omega) h
theorem n_set0 {Q : Unit → GH → LM → Prop} (T : Tp (KK w.params) H) (hx : g x = some (nodO dx sl)) (hd : g dx = some emptyDict) (h : Q () (gset g x (nodO dx ((sl ++ Array.replicate (0 + 1 - sl.size) none).setIfInBounds 0 (some v)))) m) : tri w H O k hdl X env (setAttr (.ref x) (Str.ofString "node") v) g m Q := n_set (i := 0) (p := 41) T hx hd (by kernel_rfl) (by kernel_rfl) (by kernel_rfl) (by decide) h
theorem n_set1 {Q : Unit → GH → LM → Prop} (T : Tp (KK w.params) H) (hx : g x = some (nodO dx sl)) (hd : g dx = some emptyDict) (h : Q () (gset g x (nodO dx ((sl ++ Array.replicate (1 + 1 - sl.size) none).setIfInBounds 1 (some v)))) m) : tri w H O k hdl X env (setAttr (.ref x) (Str.ofString "npredecessors") v) g m Q := n_set (i := 1) (p := 42) T hx hd (by kernel_rfl) (by kernel_rfl) (by kernel_rfl) (by decide) h
theorem n_set2 {Q : Unit → GH → LM → Prop} (T : Tp (KK w.params) H) (hx : g x = some (nodO dx sl)) (hd : g dx = some emptyDict) (h : Q () (gset g x (nodO dx ((sl ++ Array.replicate (2 + 1 - sl.size) none).setIfInBounds 2 (some v)))) m) : tri w H O k hdl X env (setAttr (.ref x) (Str.ofString "successors") v) g m Q := n_set (i := 2) (p := 43) T hx hd (by kernel_rfl) (by kernel_rfl) (by kernel_rfl) (by decide) h
theorem n_get {i : Nat} {p : Addr} {name : Str} {b : Bool} {Q : Value → GH → LM → Prop} (T : Tp (KK w.params) H) (hx : g x = some (nodO dx sl)) (hd : g dx = some emptyDict) (ha : findIn (KK w.params) (.ref 40) name = some (some (.ref p))) (hn : specialIn (KK w.params) (.ref p) "__get__" = some (some (.builtin "member_descriptor.__get__"))) (ht : takesIn (KK w.params) (.ref p) = some true) (hg : plainGet (KK w.params) 40 name = true) (hp : slotIn (KK w.params) p 40 = some i) (hv : (sl[i]?).join = some v) (hh : handedIn v = true) (h : Q v g m) : tri w H O k hdl X env (getAttr (.ref x) name b) g m Q :=
  t_getslot (i := i) (es := []) (n := 0) T ⟨hx, hd⟩ hg (by kernel_rfl) ha hn ht hp hv hh h
theorem n_get0 {b : Bool} {Q : Value → GH → LM → Prop} (T : Tp (KK w.params) H) (hx : g x = some (nodO dx sl)) (hd : g dx = some emptyDict) (hv : (sl[0]?).join = some v) (hh : handedIn v = true) (h : Q v g m) : tri w H O k hdl X env (getAttr (.ref x) (Str.ofString "node") b) g m Q := n_get (i := 0) (p := 41) T hx hd (by kernel_rfl) (by kernel_rfl) (by kernel_rfl) (by kernel_rfl) (by kernel_rfl) hv hh h
theorem n_get1 {b : Bool} {Q : Value → GH → LM → Prop} (T : Tp (KK w.params) H) (hx : g x = some (nodO dx sl)) (hd : g dx = some emptyDict) (hv : (sl[1]?).join = some v) (hh : handedIn v = true) (h : Q v g m) : tri w H O k hdl X env (getAttr (.ref x) (Str.ofString "npredecessors") b) g m Q := n_get (i := 1) (p := 42) T hx hd (by kernel_rfl) (by kernel_rfl) (by kernel_rfl) (by kernel_rfl) (by kernel_rfl) hv hh h
theorem n_get2 {b : Bool} {Q : Value → GH → LM → Prop} (T : Tp (KK w.params) H) (hx : g x = some (nodO dx sl)) (hd : g dx = some emptyDict) (hv : (sl[2]?).join = some v) (hh : handedIn v = true) (h : Q v g m) : tri w H O k hdl X env (getAttr (.ref x) (Str.ofString "successors") b) g m Q := n_get (i := 2) (p := 43) T hx hd (by kernel_rfl) (by kernel_rfl) (by kernel_rfl) (by kernel_rfl) (by kernel_rfl) hv hh h
end
end
local macro_rules | `(tactic| walk_at "om") => `(tactic| first
  | with_reducible assumption | with_reducible exact Int.natCast_nonneg _ | exact Nat.le_of_lt (by with_reducible assumption) | exact Nat.le_trans (by with_reducible assumption) (by decide)
  | exact Nat.le_trans (by with_reducible assumption) (by with_reducible assumption) | exact Nat.lt_of_lt_of_le (by with_reducible assumption) (by with_reducible assumption) | exact Nat.lt_of_le_of_lt (by with_reducible assumption) (by with_reducible assumption)
  | exact Nat.lt_of_lt_of_eq (by with_reducible assumption) (Eq.symm (by with_reducible assumption)) | exact Nat.le_trans (Nat.le_of_eq (by with_reducible assumption)) (Nat.le_trans (by with_reducible assumption) (by decide))
  | with_reducible exact Int.ofNat_lt.mpr (by first | with_reducible assumption | exact Nat.lt_of_lt_of_eq (by with_reducible assumption) (Eq.symm (by with_reducible assumption)) | exact Nat.lt_of_lt_of_le (by with_reducible assumption) (by with_reducible assumption)) | omega)
local macro_rules | `(tactic| walk_at "look") => `(tactic| first | with_reducible exact mset_self | assumption | (refine (mset_ne (by decide +kernel)).trans ?_; walk_at "look"))
local macro_rules | `(tactic| walk_at "glob") => `(tactic| with_reducible first | exact gl_NodeInfo _ | exact gl_CycleError _ | exact gl_TopologicalSorter _ | exact gl_S_IMODE _ | exact gl_S_IFMT _ | exact gl_S_ISLNK _ | exact gl_filemode _ | exact gl_law_words _ | exact gl_law_read _ | exact gl_law_refused _ | exact gl_law_chase _ | exact gl_law_follow _ | exact gl_law_told _ | exact gl_NODE_OUT _ | exact gl_NODE_DONE _ | exact gl_S_IFLNK _ | exact gl_filemode_table _ | exact gl_len _ | exact gl_range _ | exact gl_enumerate _ | exact gl_sum _ | exact gl_min _ | exact gl_str _ | exact gl_tuple _ | exact gl_sorted _ | exact gl_iter _ | exact gl_set _ | exact gl_bool _ | exact gl_ValueError _ | exact gl_StopIteration _)
local macro_rules | `(tactic| walk_at "st") => `(tactic| with_reducible first
  | refine t_nil ?_ | refine t_cons ?_ | refine t_break ?_ | refine t_cont ?_ | refine t_ret ?_ | refine t_if ?_
  | refine t_nm (by walk_at "look") (by kernel_rfl) ?_
  | refine t_gl (by assumption) (by walk_at "glob") (by kernel_rfl) ?_
  | refine t_int fun _ => ?_ | refine t_strc fun _ => ?_ | refine t_none ?_ | refine t_boolc ?_
  | refine t_bin ?_ | refine t_un ?_ | refine t_ifexp ?_ | refine t_cmp (by kernel_rfl) ?_ | refine t_tcmp (by kernel_rfl) ?_ | refine t_tboolop ?_ | refine t_and_cons ?_ | refine t_and_nil ?_
  | refine t_add fun _ => ?_ | refine t_sub fun _ => ?_ | refine t_iadd fun _ => ?_ | refine t_isub fun _ => ?_ | refine t_band fun _ => ?_ | refine t_neg fun _ => ?_
  | refine t_mod (by decide) fun _ => ?_
  | refine t_eqi ?_ | refine t_nei ?_ | refine t_lti ?_ | refine t_lei ?_ | refine t_gei ?_ | refine t_gti ?_ | refine t_is_none ?_ | refine t_isnot_none ?_ | refine t_tbool ?_ | refine t_tnone ?_
  | refine t_callN ?_ | refine t_spl0 ?_ | refine t_spl (by kernel_rfl) ?_
  | refine t_cw (by assumption) (by first | exact keep_t | exact keep_b | exact keep_r (by kernel_rfl)) (by kernel_rfl) ?_
  | refine t_slice ?_ | refine t_part0 ?_ | refine t_part ?_ | refine t_subs ?_ | refine t_stA (by kernel_rfl) (by kernel_rfl) ?_ | refine t_attr (by kernel_rfl) ?_ | refine t_mcall (by kernel_rfl) (by with_unfolding_all rfl) (by kernel_rfl) (by kernel_rfl) ?_ | refine t_named ?_ | refine t_joined1 ?_ | refine t_ex ?_ (by kernel_rfl) (by kernel_rfl) | refine t_augA ?_ | refine t_lenL' (by assumption) (by assumption) fun _ => ?_
  | refine t_assignN (by kernel_rfl) ?_ | refine t_sto (by kernel_rfl) (by kernel_rfl) ?_ | refine t_augN ?_)
noncomputable section
def emp : LM := fun _ => none
theorem b1 {a : Str} {v : Value} : bindM [(a, v)] = mset emp a v := by
  funext x; unfold bindM mset emp
  simp only [List.reverse_cons, List.reverse_nil, List.nil_append, List.lookup_cons, List.lookup_nil]
  by_cases q : x = a
  · simp [q]
  · have : (x == a) = false := by simpa using q
    simp [this, q]
theorem bcons {bs : List (Str × Value)} {a : Str} {v : Value} : bindM (bs ++ [(a, v)]) = mset (bindM bs) a v := by
  funext x; unfold bindM mset
  rw [List.reverse_append]
  simp only [List.reverse_cons, List.reverse_nil, List.nil_append, List.singleton_append, List.lookup_cons]
  by_cases q : x = a
  · simp [q]
  · have : (x == a) = false := by simpa using q
    simp [this, q]
theorem b2 {a b : Str} {v u : Value} : bindM [(a, v), (b, u)] = mset (mset emp a v) b u := (bcons (bs := [(a, v)])).trans (by rw [b1])
theorem b3 {a b c : Str} {v u x : Value} : bindM [(a, v), (b, u), (c, x)] = mset (mset (mset emp a v) b u) c x := (bcons (bs := [(a, v), (b, u)])).trans (by rw [b2])
theorem b4 {a b c d : Str} {v u x y : Value} : bindM [(a, v), (b, u), (c, x), (d, y)] = mset (mset (mset (mset emp a v) b u) c x) d y := (bcons (bs := [(a, v), (b, u), (c, x)])).trans (by rw [b3])
variable {w : World} {H : Heap} {O : OsState} {g : GH}
theorem f_S_IFMT {k : Nat} {i : Int} {t : Tok} (T : Tp (KK w.params) H) : fnS w H O (k + 1) (.ref 155) ⟨[.int i t], []⟩ g (fun v g' => g' = g ∧ ∃ t', v = .int (Builtin.bitAnd i 61440) t') no2 := by
  refine fn_intro (fd := fd155) (binds := [(Str.ofString "mode", .int i t)]) T rfl rfl (by kernel_rfl) rfl (fun s => BindsTo.of_eq (by kernel_rfl)) rfl (by decide +kernel) (locs (by kernel_rfl)) (fun L => ?_) (by kernel_rfl) (by kernel_rfl) (by kernel_rfl)
  refine tri_hide fun Q1 hQ1 => ?_
  rw [b1]
  refine t_cons ?_
  repeat walk_at "st"
  exact (hQ1 _ _ _ ⟨rfl, _, rfl⟩)
theorem f_S_IMODE {k : Nat} {i : Int} {t : Tok} (T : Tp (KK w.params) H) : fnS w H O (k + 1) (.ref 148) ⟨[.int i t], []⟩ g (fun v g' => g' = g ∧ ∃ t', v = .int (Builtin.bitAnd i 4095) t') no2 := by
  refine fn_intro (fd := fd148) (binds := [(Str.ofString "mode", .int i t)]) T rfl rfl (by kernel_rfl) rfl (fun s => BindsTo.of_eq (by kernel_rfl)) rfl (by decide +kernel) (locs (by kernel_rfl)) (fun L => ?_) (by kernel_rfl) (by kernel_rfl) (by kernel_rfl)
  refine tri_hide fun Q1 hQ1 => ?_
  rw [b1]
  refine t_cons ?_
  repeat walk_at "st"
  exact (hQ1 _ _ _ ⟨rfl, _, rfl⟩)
theorem f_S_ISLNK {k : Nat} {i : Int} {t : Tok} (T : Tp (KK w.params) H) : fnS w H O (k + 2) (.ref 162) ⟨[.int i t], []⟩ g (fun v g' => g' = g ∧ v = .bool (Builtin.bitAnd i 61440 == 40960)) no2 := by
  refine fn_intro (fd := fd162) (binds := [(Str.ofString "mode", .int i t)]) T rfl rfl (by kernel_rfl) rfl (fun s => BindsTo.of_eq (by kernel_rfl)) rfl (by decide +kernel) (locs (by kernel_rfl)) (fun L => ?_) (by kernel_rfl) (by kernel_rfl) (by kernel_rfl)
  refine tri_hide fun Q1 hQ1 => ?_
  rw [b1]
  refine t_cons ?_
  repeat walk_at "st"
  refine tri_call (f_S_IFMT T) fun v g' q => ?_
  refine el_ae q fun yy1 t' yy2 => ?_; clear q
  obtain rfl := yy1
  obtain rfl := yy2
  repeat walk_at "st"
  exact (hQ1 _ _ _ ⟨rfl, rfl⟩)
end
noncomputable section
variable {w : World} {H : Heap} {O : OsState} {g : GH}
theorem f_NodeInit {k : Nat} {x dx : Addr} {nd : Value} (T : Tp (KK w.params) H) (hx : g x = some (instObj 40 dx)) (hd : g dx = some emptyDict) : fnS w H O (k + 1) (.ref 36) ⟨[.ref x, nd], []⟩ g (fun v g' => v = .none ∧ ∃ l t, g l = none ∧ g' = gset (gset g l (lst [] 0)) x (infoO dx nd 0 t l)) no2 := by
  refine fn_intro (fd := fd36) (binds := [(Str.ofString "self", .ref x), (Str.ofString "node", nd)]) T rfl rfl (by kernel_rfl) rfl (fun s => BindsTo.of_eq (by kernel_rfl)) rfl (by decide +kernel) (locs (by kernel_rfl)) (fun L => ?_) (by kernel_rfl) (by kernel_rfl) (by kernel_rfl)
  refine tri_hide fun Q1 hQ1 => ?_
  rw [b2]
  refine t_cons ?_
  repeat walk_at "st"
  refine n_set0 T hx hd ?_
  have hdx : dx ≠ x := fun q => by rw [q, hx] at hd; simp at hd
  refine t_cons ?_
  repeat walk_at "st"
  refine n_set1 T gset_self ((gset_ne hdx).trans hd) ?_
  refine t_cons ?_
  repeat walk_at "st"
  refine t_list (t_spl0 ⟨by decide, fun D hD => ?_⟩)
  repeat walk_at "st"
  have hDx : x ≠ D := fun q => by rw [← q, gset_self] at hD; cases hD
  have hDd : dx ≠ D := fun q => by rw [← q, gset_ne hdx, gset_ne hdx, hd] at hD; cases hD
  refine n_set2 T ((gset_ne hDx).trans gset_self) ((gset_ne hDd).trans ((gset_ne hdx).trans ((gset_ne hdx).trans hd))) ?_
  rename_i t0
  refine t_nil (hQ1 _ _ _ ⟨rfl, D, t0, ?_, ?_⟩)
  · rwa [gset_ne (Ne.symm hDx), gset_ne (Ne.symm hDx)] at hD
  · funext b
    by_cases h1 : b = x
    · simp [gset, h1]
    · by_cases h2 : b = D <;> simp [gset, h1, h2]
end
noncomputable section
def unS : Value → Option Str
  | .str x _ => some x
  | _ => none
def SVs (nm : Nat → Str) (is : List Nat) (vs : List Value) : Prop := vs.map unS = is.map fun i => some (nm i)
def SV (nm : Nat → Str) (i : Nat) (v : Value) : Prop := ∃ t, v = .str (nm i) t
section
variable {nm : Nat → Str} {is js : List Nat} {vs us : List Value} {i : Nat} {v : Value}
theorem unS_some {x : Str} (h : unS v = some x) : ∃ t, v = .str x t := by
  cases v <;> simp [unS] at h
  subst h; exact ⟨_, rfl⟩
theorem SVs.len (h : SVs nm is vs) : vs.length = is.length := by have := congrArg List.length h; simpa using this
theorem SVs.nil : SVs nm [] [] := rfl
theorem SVs.snoc (h : SVs nm is vs) (hv : SV nm i v) : SVs nm (is ++ [i]) (vs ++ [v]) := by
  obtain ⟨t, rfl⟩ := hv
  unfold SVs at *; simp [h, unS]
theorem SVs.cons (hv : SV nm i v) (h : SVs nm is vs) : SVs nm (i :: is) (v :: vs) := by
  obtain ⟨t, rfl⟩ := hv
  unfold SVs at *; simp [h, unS]
theorem SVs.get {j : Nat} (h : SVs nm is vs) (hv : vs[j]? = some v) : ∃ i, is[j]? = some i ∧ SV nm i v := by
  have e := congrArg (·[j]?) h
  simp only [List.getElem?_map, hv, Option.map_some] at e
  cases q : is[j]? with
  | none => rw [q] at e; cases e
  | some i => rw [q] at e; simp at e; exact ⟨i, rfl, unS_some e⟩
theorem SVs.at {j : Nat} (h : SVs nm is vs) (hv : is[j]? = some i) : ∃ v, vs[j]? = some v ∧ SV nm i v := by
  have e := congrArg (·[j]?) h
  simp only [List.getElem?_map, hv, Option.map_some] at e
  cases q : vs[j]? with
  | none => rw [q] at e; cases e
  | some v => rw [q] at e; simp at e; exact ⟨v, rfl, unS_some e⟩
end
def addn (l : List Nat) (i : Nat) : List Nat := if i ∈ l then l else l ++ [i]
def put {α : Type} (f : Nat → α) (i : Nat) (v : α) : Nat → α := fun j => if j = i then v else f j
theorem put_self {α : Type} {f : Nat → α} {i : Nat} {v : α} : put f i v i = v := by simp [put]
theorem put_ne {α : Type} {f : Nat → α} {i j : Nat} {v : α} (h : j ≠ i) : put f i v j = f j := by simp [put, h]
theorem vat_map {α : Type} {nm : Nat → Str} (inj : ∀ i j, nm i = nm j → i = j) (f : Nat → Value) (i : Nat) : ∀ l : List Nat, valueAt (l.map fun j => (nm j, f j)) (nm i) = if i ∈ l then some (f i) else none
  | [] => rfl
  | j :: l => by
    have ih := vat_map (α := α) inj f i l
    unfold valueAt at *
    simp only [List.map_cons, List.find?_cons]
    by_cases h : nm j = nm i
    · have : j = i := inj _ _ h
      subst this; simp
    · have hne : i ≠ j := fun q => h (by rw [q])
      simp only [h, decide_false, ih, List.mem_cons, hne, false_or]
theorem stored_map {nm : Nat → Str} (inj : ∀ i j, nm i = nm j → i = j) (f : Nat → Value) {i : Nat} {v : Value} {l : List Nat} (h : i ∉ l) : stored (l.map fun j => (nm j, f j)) (nm i) v = (l ++ [i]).map fun j => (nm j, put f i v j) := by
  rw [stored_absent (by rw [vat_map (α := Unit) inj, if_neg h])]
  rw [List.map_append]
  congr 1
  · exact List.map_congr_left fun j hj => by rw [put_ne (fun q : j = i => h (q ▸ hj))]
  · simp [put_self]
structure SA where
  (x dx d r : Addr)
  (info nd sl : Nat → Addr)
def srtEs (P : Params) (t : Nat → Tok) (d r po nf : Value) : List DictEntry :=
  [⟨PyData.keyHash P (Str.ofString "_node2info"), .str (Str.ofString "_node2info") (t 0), d⟩, ⟨PyData.keyHash P (Str.ofString "_ready_nodes"), .str (Str.ofString "_ready_nodes") (t 1), r⟩,
   ⟨PyData.keyHash P (Str.ofString "_npassedout"), .str (Str.ofString "_npassedout") (t 2), po⟩, ⟨PyData.keyHash P (Str.ofString "_nfinished"), .str (Str.ofString "_nfinished") (t 3), nf⟩]
structure Roles (a : SA) (ord : List Nat) (rdy : Bool) (ro : Addr → Nat × Nat) : Prop where
  x : ro a.x = (0, 0)
  dx : ro a.dx = (1, 0)
  d : ro a.d = (2, 0)
  info : ∀ i ∈ ord, ro (a.info i) = (3, i)
  nd : ∀ i ∈ ord, ro (a.nd i) = (4, i)
  sl : ∀ i ∈ ord, ro (a.sl i) = (5, i)
  r : rdy = true → ro a.r = (6, 0)
structure SH (w : World) (nm : Nat → Str) (g : GH) (a : SA) (ord : List Nat) (np : Nat → Int) (sc : Nat → List Nat) (rdy : Option (List Nat)) (po nf : Int) : Prop where
  ro : ∃ ro, Roles a ord rdy.isSome ro
  inst : ∃ t n tp tf, InstG g a.x 137 a.dx #[] (srtEs w.params t (.ref a.d) (if rdy.isSome then .ref a.r else .none) (.int po tp) (.int nf tf)) n
  dict : IsD w g a.d (ord.map fun i => (nm i, .ref (a.info i)))
  nod : ∀ i ∈ ord, ∃ v t, SV nm i v ∧ g (a.info i) = some (infoO (a.nd i) v (np i) t (a.sl i)) ∧ g (a.nd i) = some emptyDict
  suc : ∀ i ∈ ord, ∃ vs, IsL g (a.sl i) vs ∧ SVs nm (sc i) vs
  rd : ∀ l, rdy = some l → ∃ vs, IsL g a.r vs ∧ SVs nm l vs
  nodup : ord.Nodup
section
variable {w : World} {nm : Nat → Str} {g : GH} {a : SA} {ord : List Nat} {np : Nat → Int} {sc : Nat → List Nat} {rdy : Option (List Nat)} {po nf : Int} {b : Addr} {o : Obj}
theorem ro_ne {ro : Addr → Nat × Nat} {x y : Addr} {p q : Nat × Nat} (h1 : ro x = p) (h2 : ro y = q) (h : p ≠ q) : x ≠ y := fun e => h (by rw [← h1, ← h2, e])
theorem IsL.ne {v : List Value} (h : IsL g b v) {c : Addr} (q : b ≠ c) : IsL (gset g c o) b v := by obtain ⟨n, e⟩ := h; exact ⟨n, (gset_ne q).trans e⟩
theorem IsD.ne {kvs : List (Str × Value)} (h : IsD w g b kvs) {c : Addr} (q : b ≠ c) : IsD w (gset g c o) b kvs := by obtain ⟨n, e, r⟩ := h; exact ⟨n, (gset_ne q).trans e, r⟩
theorem InstG.ne {x C dx : Addr} {sl : Array (Option Value)} {es : List DictEntry} {n : Nat} (I : InstG g x C dx sl es n) {c : Addr} (h1 : x ≠ c) (h2 : dx ≠ c) : InstG (gset g c o) x C dx sl es n := ⟨(gset_ne h1).trans I.ob, (gset_ne h2).trans I.di⟩
theorem SH.other (S : SH w nm g a ord np sc rdy po nf) (hx : g b = none) : SH w nm (gset g b o) a ord np sc rdy po nf := by
  have k : ∀ {c o'}, g c = some o' → c ≠ b := fun {c o'} e q => by rw [q, hx] at e; cases e
  refine ⟨S.ro, ?_, ?_, fun i hi => ?_, fun i hi => ?_, fun l hl => ?_, S.nodup⟩
  · obtain ⟨t, n, tp, tf, I⟩ := S.inst; exact ⟨t, n, tp, tf, I.ne (k I.ob) (k I.di)⟩
  · obtain ⟨o', e, h⟩ := S.dict; exact ⟨o', (gset_ne (k e)).trans e, h⟩
  · obtain ⟨v, t, h1, h2, h3⟩ := S.nod i hi; exact ⟨v, t, h1, (gset_ne (k h2)).trans h2, (gset_ne (k h3)).trans h3⟩
  · obtain ⟨vs, ⟨n, e⟩, h⟩ := S.suc i hi; exact ⟨vs, ⟨n, (gset_ne (k e)).trans e⟩, h⟩
  · obtain ⟨vs, ⟨n, e⟩, h⟩ := S.rd l hl; exact ⟨vs, ⟨n, (gset_ne (k e)).trans e⟩, h⟩
theorem SH.setNp (S : SH w nm g a ord np sc rdy po nf) {i : Nat} (hi : i ∈ ord) {v : Value} (hv : SV nm i v) {n : Int} {t : Tok} : SH w nm (gset g (a.info i) (infoO (a.nd i) v n t (a.sl i))) a ord (put np i n) sc rdy po nf := by
  obtain ⟨ro, r⟩ := S.ro
  have hi' := r.info i hi
  refine ⟨⟨ro, r⟩, ?_, ?_, fun j hj => ?_, fun j hj => ?_, fun l hl => ?_, S.nodup⟩
  · obtain ⟨t, n, tp, tf, I⟩ := S.inst; exact ⟨t, n, tp, tf, I.ne (ro_ne r.x hi' (by simp)) (ro_ne r.dx hi' (by simp))⟩
  · exact S.dict.ne (ro_ne r.d hi' (by simp))
  · refine el_eeaa (S.nod j hj) fun v' t' h1 h2 h3 => ?_
    by_cases q : j = i
    · subst q; exact ⟨v, t, hv, by rw [gset_self, put_self], (gset_ne (ro_ne (r.nd j hj) hi' (by simp))).trans h3⟩
    · exact ⟨v', t', h1, by rw [put_ne q, gset_ne (ro_ne (r.info j hj) hi' (by simp [q]))]; exact h2, (gset_ne (ro_ne (r.nd j hj) hi' (by simp))).trans h3⟩
  · obtain ⟨vs, h1, h2⟩ := S.suc j hj; exact ⟨vs, h1.ne (ro_ne (r.sl j hj) hi' (by simp)), h2⟩
  · obtain ⟨vs, h1, h2⟩ := S.rd l hl; exact ⟨vs, h1.ne (ro_ne (r.r (by simp [hl])) hi' (by simp)), h2⟩
theorem SH.setSc (S : SH w nm g a ord np sc rdy po nf) {i : Nat} (hi : i ∈ ord) {vs : List Value} {l : List Nat} (hv : SVs nm l vs) {e : Nat} : SH w nm (gset g (a.sl i) (lst vs e)) a ord np (put sc i l) rdy po nf := by
  obtain ⟨ro, r⟩ := S.ro
  have hi' := r.sl i hi
  refine ⟨⟨ro, r⟩, ?_, ?_, fun j hj => ?_, fun j hj => ?_, fun l hl => ?_, S.nodup⟩
  · obtain ⟨t, n, tp, tf, I⟩ := S.inst; exact ⟨t, n, tp, tf, I.ne (ro_ne r.x hi' (by simp)) (ro_ne r.dx hi' (by simp))⟩
  · exact S.dict.ne (ro_ne r.d hi' (by simp))
  · refine el_eeaa (S.nod j hj) fun v' t' h1 h2 h3 => ?_
    exact ⟨v', t', h1, (gset_ne (ro_ne (r.info j hj) hi' (by simp))).trans h2, (gset_ne (ro_ne (r.nd j hj) hi' (by simp))).trans h3⟩
  · refine el_ea (S.suc j hj) fun us h1 h2 => ?_
    by_cases q : j = i
    · subst q; exact ⟨vs, ⟨e, gset_self⟩, by rw [put_self]; exact hv⟩
    · exact ⟨us, h1.ne (ro_ne (r.sl j hj) hi' (by simp [q])), by rw [put_ne q]; exact h2⟩
  · obtain ⟨vs, h1, h2⟩ := S.rd l hl; exact ⟨vs, h1.ne (ro_ne (r.r (by simp [hl])) hi' (by simp)), h2⟩
theorem SH.setRd (S : SH w nm g a ord np sc rdy po nf) {vs : List Value} {l : List Nat} (hr : rdy.isSome = true) (hv : SVs nm l vs) {e : Nat} : SH w nm (gset g a.r (lst vs e)) a ord np sc (some l) po nf := by
  obtain ⟨ro, r⟩ := S.ro
  have hi' := r.r hr
  refine ⟨⟨ro, by simpa [hr] using r⟩, ?_, ?_, fun j hj => ?_, fun j hj => ?_, fun l' hl => ?_, S.nodup⟩
  · obtain ⟨t, n, tp, tf, I⟩ := S.inst
    rw [hr] at I
    exact ⟨t, n, tp, tf, I.ne (ro_ne r.x hi' (by simp)) (ro_ne r.dx hi' (by simp))⟩
  · exact S.dict.ne (ro_ne r.d hi' (by simp))
  · refine el_eeaa (S.nod j hj) fun v' t' h1 h2 h3 => ?_
    exact ⟨v', t', h1, (gset_ne (ro_ne (r.info j hj) hi' (by simp))).trans h2, (gset_ne (ro_ne (r.nd j hj) hi' (by simp))).trans h3⟩
  · obtain ⟨us, h1, h2⟩ := S.suc j hj; exact ⟨us, h1.ne (ro_ne (r.sl j hj) hi' (by simp)), h2⟩
  · cases hl; exact ⟨vs, ⟨e, gset_self⟩, hv⟩
theorem SH.setAt (S : SH w nm g a ord np sc rdy po nf) {t : Nat → Tok} {n : Nat} {po' nf' : Int} {tp tf : Tok} : SH w nm (gset g a.dx (dictOf (srtEs w.params t (.ref a.d) (if rdy.isSome then .ref a.r else .none) (.int po' tp) (.int nf' tf)) n)) a ord np sc rdy po' nf' := by
  obtain ⟨ro, r⟩ := S.ro
  have hi' := r.dx
  refine ⟨⟨ro, r⟩, ?_, ?_, fun j hj => ?_, fun j hj => ?_, fun l' hl => ?_, S.nodup⟩
  · obtain ⟨_, _, _, _, I⟩ := S.inst; exact ⟨t, n, tp, tf, (gset_ne (ro_ne r.x hi' (by simp))).trans I.ob, gset_self⟩
  · exact S.dict.ne (ro_ne r.d hi' (by simp))
  · refine el_eeaa (S.nod j hj) fun v' t' h1 h2 h3 => ?_
    exact ⟨v', t', h1, (gset_ne (ro_ne (r.info j hj) hi' (by simp))).trans h2, (gset_ne (ro_ne (r.nd j hj) hi' (by simp))).trans h3⟩
  · obtain ⟨us, h1, h2⟩ := S.suc j hj; exact ⟨us, h1.ne (ro_ne (r.sl j hj) hi' (by simp)), h2⟩
  · obtain ⟨vs, h1, h2⟩ := S.rd l' hl; exact ⟨vs, h1.ne (ro_ne (r.r (by simp [hl])) hi' (by simp)), h2⟩
theorem SH.newRd (S : SH w nm g a ord np sc none po nf) {t : Nat → Tok} {n : Nat} {r : Addr} {vs : List Value} {l : List Nat} {tp tf : Tok} (hr : IsL g r vs) (hv : SVs nm l vs) (hne : r ≠ a.d ∧ ∀ i ∈ ord, r ≠ a.sl i) :
    SH w nm (gset g a.dx (dictOf (srtEs w.params t (.ref a.d) (.ref r) (.int po tp) (.int nf tf)) n)) { a with r := r } ord np sc (some l) po nf := by
  obtain ⟨ro, ρ⟩ := S.ro
  obtain ⟨_, _, _, _, I⟩ := S.inst
  obtain ⟨nr, hr⟩ := hr
  have hi' := ρ.dx
  have n1 : a.x ≠ r := fun q => by rw [← q, I.ob] at hr; cases hr
  have n2 : a.dx ≠ r := fun q => by rw [← q, I.di] at hr; simp [dictOf] at hr
  have n3 : ∀ i ∈ ord, a.info i ≠ r := fun i hi q => by obtain ⟨v', t', h1, h2, h3⟩ := S.nod i hi; rw [← q, h2] at hr; simp at hr
  have n4 : ∀ i ∈ ord, a.nd i ≠ r := fun i hi q => by obtain ⟨v', t', h1, h2, h3⟩ := S.nod i hi; rw [← q, h3] at hr; simp at hr
  refine ⟨⟨fun b => if b = r then (6, 0) else ro b, ⟨?_, ?_, ?_, fun i hi => ?_, fun i hi => ?_, fun i hi => ?_, fun _ => ?_⟩⟩, ?_, ?_, fun j hj => ?_, fun j hj => ?_, fun l' hl => ?_, S.nodup⟩
  · dsimp only; rw [if_neg n1]; exact ρ.x
  · dsimp only; rw [if_neg n2]; exact ρ.dx
  · dsimp only; rw [if_neg (Ne.symm hne.1)]; exact ρ.d
  · dsimp only; rw [if_neg (n3 i hi)]; exact ρ.info i hi
  · dsimp only; rw [if_neg (n4 i hi)]; exact ρ.nd i hi
  · dsimp only; rw [if_neg (Ne.symm (hne.2 i hi))]; exact ρ.sl i hi
  · exact if_pos rfl
  · exact ⟨t, n, tp, tf, (gset_ne (ro_ne ρ.x hi' (by simp))).trans I.ob, gset_self⟩
  · exact S.dict.ne (ro_ne ρ.d hi' (by simp))
  · refine el_eeaa (S.nod j hj) fun v' t' h1 h2 h3 => ?_
    exact ⟨v', t', h1, (gset_ne (ro_ne (ρ.info j hj) hi' (by simp))).trans h2, (gset_ne (ro_ne (ρ.nd j hj) hi' (by simp))).trans h3⟩
  · obtain ⟨us, h1, h2⟩ := S.suc j hj; exact ⟨us, h1.ne (ro_ne (ρ.sl j hj) hi' (by simp)), h2⟩
  · cases hl; exact ⟨vs, ⟨nr, (gset_ne (Ne.symm n2)).trans hr⟩, hv⟩
theorem SH.newNode (S : SH w nm g a ord np sc rdy po nf) (inj : ∀ i j, nm i = nm j → i = j) {i : Nat} (hi : i ∉ ord) {x dx l : Addr} (hx : g x = none) (hdx : g dx = none) (hl : g l = none) (n1 : dx ≠ x) (n2 : l ≠ x) (n3 : l ≠ dx) {v : Value} (hv : SV nm i v) {t : Tok} (h0 : np i = 0) (h1 : sc i = [])
    {o : Obj} (ho : o.IsDictOf (strKind P0 w) (stored (ord.map fun i => (nm i, .ref (a.info i))) (nm i) (.ref x))) {g' : GH} (h2 : g' x = some (infoO dx v 0 t l)) (h3 : g' dx = some emptyDict) (h4 : g' l = some (lst [] 0)) (h5 : g' a.d = some o) (h6 : ∀ b o', b ≠ a.d → g b = some o' → g' b = some o') :
    SH w nm g' { a with info := put a.info i x, nd := put a.nd i dx, sl := put a.sl i l } (ord ++ [i]) np sc rdy po nf := by
  obtain ⟨ro, ρ⟩ := S.ro
  have k : ∀ {c o' b}, g c = some o' → g b = none → c ≠ b := fun {c o' b} e z q => by rw [q, z] at e; cases e
  obtain ⟨ti, n, tp, tf, I⟩ := S.inst
  refine el_ea S.dict fun od e hd => ?_
  let ro' : Addr → Nat × Nat := fun b => if b = x then (3, i) else if b = dx then (4, i) else if b = l then (5, i) else ro b
  have old : ∀ {c o'}, g c = some o' → ro' c = ro c := fun {c o'} e => by
    show (if c = x then _ else _) = _
    rw [if_neg (k e hx), if_neg (k e hdx), if_neg (k e hl)]
  have hne : ∀ {j}, j ∈ ord → j ≠ i := fun {j} hj q => hi (q ▸ hj)
  have mem : ∀ {j}, j ∈ ord ++ [i] → j ∈ ord ∨ j = i := fun {j} hj => by simpa using hj
  have nx : ro' x = (3, i) := if_pos rfl
  have ndx : ro' dx = (4, i) := by show (if dx = x then _ else _) = _; rw [if_neg n1, if_pos rfl]
  have nl : ro' l = (5, i) := by show (if l = x then _ else _) = _; rw [if_neg n2, if_neg n3, if_pos rfl]
  refine ⟨⟨ro', ⟨(old I.ob).trans ρ.x, (old I.di).trans ρ.dx, (old e).trans ρ.d, fun j hj => ?_, fun j hj => ?_, fun j hj => ?_, fun hr => ?_⟩⟩, ⟨ti, n, tp, tf, h6 _ _ (ro_ne ρ.x ρ.d (by simp)) I.ob, h6 _ _ (ro_ne ρ.dx ρ.d (by simp)) I.di⟩, ?_, fun j hj => ?_, fun j hj => ?_, fun l' hl' => ?_, ?_⟩
  · rcases mem hj with hj | rfl
    · refine el_eeaa (S.nod j hj) fun v' t' q1 q2 q3 => ?_
      show ro' (put a.info i x j) = _
      rw [put_ne (hne hj), old q2]; exact ρ.info j hj
    · show ro' (put a.info j x j) = _; rw [put_self]; exact nx
  · rcases mem hj with hj | rfl
    · refine el_eeaa (S.nod j hj) fun v' t' q1 q2 q3 => ?_
      show ro' (put a.nd i dx j) = _
      rw [put_ne (hne hj), old q3]; exact ρ.nd j hj
    · show ro' (put a.nd j dx j) = _; rw [put_self]; exact ndx
  · rcases mem hj with hj | rfl
    · refine el_ea (S.suc j hj) fun vs yy1 q2 => ?_
      obtain ⟨n', q1⟩ := yy1
      show ro' (put a.sl i l j) = _
      rw [put_ne (hne hj), old q1]; exact ρ.sl j hj
    · show ro' (put a.sl j l j) = _; rw [put_self]; exact nl
  · cases rdy with
    | none => cases hr
    | some lr => obtain ⟨vs, ⟨n', q1⟩, q2⟩ := S.rd lr rfl; exact (old q1).trans (ρ.r rfl)
  · refine ⟨o, h5, ?_⟩
    rw [stored_map inj _ hi] at ho
    have : (fun j => (nm j, put (fun i => Value.ref (a.info i)) i (Value.ref x) j)) = fun j => (nm j, Value.ref (put a.info i x j)) := by
      funext j; unfold put; split <;> rfl
    rw [this] at ho; exact ho
  · rcases mem hj with hj | rfl
    · refine el_eeaa (S.nod j hj) fun v' t' q1 q2 q3 => ?_
      refine ⟨v', t', q1, ?_, ?_⟩
      · show g' (put a.info i x j) = some (infoO (put a.nd i dx j) v' (np j) t' (put a.sl i l j))
        rw [put_ne (hne hj), put_ne (hne hj), put_ne (hne hj)]
        exact h6 _ _ (ro_ne (ρ.info j hj) ρ.d (by simp)) q2
      · show g' (put a.nd i dx j) = _
        rw [put_ne (hne hj)]
        exact h6 _ _ (ro_ne (ρ.nd j hj) ρ.d (by simp)) q3
    · refine ⟨v, t, hv, ?_, ?_⟩
      · show g' (put a.info j x j) = some (infoO (put a.nd j dx j) v (np j) t (put a.sl j l j))
        rw [put_self, put_self, put_self, h0]; exact h2
      · show g' (put a.nd j dx j) = _; rw [put_self]; exact h3
  · rcases mem hj with hj | rfl
    · refine el_ea (S.suc j hj) fun vs yy2 q2 => ?_
      obtain ⟨n', q1⟩ := yy2
      refine ⟨vs, ⟨n', ?_⟩, q2⟩
      show g' (put a.sl i l j) = _
      rw [put_ne (hne hj)]; exact h6 _ _ (ro_ne (ρ.sl j hj) ρ.d (by simp)) q1
    · refine ⟨[], ⟨0, ?_⟩, by rw [h1]; rfl⟩
      show g' (put a.sl j l j) = _; rw [put_self]; exact h4
  · refine el_ea (S.rd l' hl') fun vs yy3 q2 => ?_
    obtain ⟨n', q1⟩ := yy3
    exact ⟨vs, ⟨n', h6 _ _ (ro_ne (ρ.r (by simp [hl'])) ρ.d (by simp)) q1⟩, q2⟩
  · refine List.nodup_append.mpr ⟨S.nodup, by simp, fun u hu v hv => ?_⟩
    simp at hv; subst hv; exact fun q => hi (q ▸ hu)
end
end
noncomputable section
variable {w : World} {H : Heap} {O : OsState} {g : GH} {nm : Nat → Str} {a : SA} {ord : List Nat} {np : Nat → Int} {sc : Nat → List Nat} {rdy : Option (List Nat)} {po nf : Int}
section
variable {k : Nat} {hdl : Option Value} {X : ExcP} {env : Env} {m : LM}
theorem s_get {x dx : Addr} {sl : Array (Option Value)} {es : List DictEntry} {n : Nat} {name : Str} {v : Value} {b : Bool} {Q : Value → GH → LM → Prop} (T : Tp (KK w.params) H) (I : InstG g x 137 dx sl es n) (hg : plainGet (KK w.params) 137 name = true) (ha : findIn (KK w.params) (.ref 137) name = some none) (hl : getL name es = some (some v)) (hv : handedIn v = true) (h : Q v g m) : tri w H O k hdl X env (getAttr (.ref x) name b) g m Q :=
  t_getown (attr := none) T I hg (by kernel_rfl) ha (by kernel_rfl) hl hv h
end
abbrev SHs (w : World) (nm : Nat → Str) (a : SA) (g' : GH) (ord : List Nat) (np : Nat → Int) (sc : Nat → List Nat) (rdy : Option (List Nat)) (po nf : Int) (P : SA → Prop) : Prop := ∃ a' : SA, a'.x = a.x ∧ SH w nm g' a' ord np sc rdy po nf ∧ P a'
theorem f_get {k : Nat} {i : Nat} {v : Value} (T : Tp (KK w.params) H) (inj : ∀ i j, nm i = nm j → i = j) (S : SH w nm g a ord np sc rdy po nf) (hv : SV nm i v) (h0 : i ∉ ord → np i = 0 ∧ sc i = []) (hn : ord.length ≤ 1000) :
    fnS w H O (k + 3) (.ref 80) ⟨[.ref a.x, v], []⟩ g (fun r g' => SHs w nm a g' (addn ord i) np sc rdy po nf fun a' => r = .ref (a'.info i)) no2 := by
  obtain ⟨t, rfl⟩ := hv
  refine fn_intro (fd := fd80) (binds := [(Str.ofString "self", .ref a.x), (Str.ofString "node", .str (nm i) t)]) T rfl rfl (by kernel_rfl) rfl (fun s => BindsTo.of_eq (by kernel_rfl)) rfl (by decide +kernel) (locs (by kernel_rfl)) (fun L => ?_) (by kernel_rfl) (by kernel_rfl) (by kernel_rfl)
  refine tri_hide fun Q1 hQ1 => ?_
  rw [b2]
  obtain ⟨ti, n, tp, tf, I⟩ := S.inst
  refine t_cons ?_
  repeat walk_at "st"
  refine s_get T I (by kernel_rfl) (by kernel_rfl) rfl rfl ?_
  refine t_dmeth S.dict PySem.F.slot_dict_get PySem.F.type_dict_get ?_
  repeat walk_at "st"
  refine t_dget1 T S.dict ?_
  rw [vat_map (α := Unit) inj]
  repeat walk_at "st"
  by_cases hi : i ∈ ord
  · simp only [if_pos hi, Option.getD_some]
    first | with_reducible refine ite_F (show ((Value.ref (a.info i) == Value.none)) = false from rfl) ?_ | (rw [show ((Value.ref (a.info i) == Value.none)) = false from rfl]; simp only [Bool.false_eq_true, if_false])
    repeat walk_at "st"
    refine (hQ1 _ _ _ ⟨a, rfl, ?_, rfl⟩)
    rw [show addn ord i = ord from if_pos hi]; exact S
  · simp only [if_neg hi, Option.getD_none]
    first | with_reducible refine ite_T (show ((Value.none == Value.none)) = true from rfl) ?_ | (rw [show ((Value.none == Value.none)) = true from rfl]; simp only [if_true])
    refine t_cons ?_
    refine t_assign (by kernel_rfl) (by kernel_rfl) ?_
    repeat walk_at "st"
    refine tri_call (k := k + 2) (Rq := fun r g' => ∃ x dx l t', r = .ref x ∧ g x = none ∧ g dx = none ∧ g l = none ∧ dx ≠ x ∧ l ≠ x ∧ l ≠ dx ∧ g' = gset (gset (gset (gset g dx emptyDict) x (instObj 40 dx)) l (lst [] 0)) x (infoO dx (.str (nm i) t) 0 t' l)) (fnS_make (k := k + 1) T (by kernel_rfl) (fI := 36) (by kernel_rfl) (by kernel_rfl) fun x dx hx hdx hne => ?_) fun r g' q => ?_
    · refine fnS_mono (f_NodeInit (k := k) (dx := dx) T gset_self ((gset_ne hne).trans gset_self)) fun r g' ⟨q1, l, t', q2, q3⟩ => ⟨q1, ⟨x, dx, l, t', rfl, hx, hdx, ?_, hne, ?_, ?_, q3⟩⟩
      · have h1 : l ≠ x := fun q => by rw [q, gset_self] at q2; cases q2
        have h2 : l ≠ dx := fun q => by rw [q, gset_ne hne, gset_self] at q2; cases q2
        rwa [gset_ne h1, gset_ne h2] at q2
      · exact fun q => by rw [q, gset_self] at q2; cases q2
      · exact fun q => by rw [q, gset_ne hne, gset_self] at q2; cases q2
    obtain ⟨x, dx, l, t', rfl, hx, hdx, hl, n1, n2, n3, rfl⟩ := q
    have kk : ∀ {c o'}, g c = some o' → c ≠ x ∧ c ≠ dx ∧ c ≠ l := fun {c o'} e => ⟨fun q => (by rw [q, hx] at e; cases e), fun q => (by rw [q, hdx] at e; cases e), fun q => (by rw [q, hl] at e; cases e)⟩
    have old : ∀ {c o'}, g c = some o' → (gset (gset (gset (gset g dx emptyDict) x (instObj 40 dx)) l (lst [] 0)) x (infoO dx (.str (nm i) t) 0 t' l)) c = some o' := fun {c o'} e => by
      refine el_aa (kk e) fun z1 z2 z3 => ?_
      rw [gset_ne z1, gset_ne z3, gset_ne z1, gset_ne z2]; exact e
    have I' : InstG (gset (gset (gset (gset g dx emptyDict) x (instObj 40 dx)) l (lst [] 0)) x (infoO dx (.str (nm i) t) 0 t' l)) a.x 137 a.dx #[] (srtEs w.params ti (.ref a.d) (if rdy.isSome then .ref a.r else .none) (.int po tp) (.int nf tf)) n := ⟨old I.ob, old I.di⟩
    refine el_ea S.dict fun od ed hd => ?_
    refine t_all2 (t_asgS ?_)
    repeat walk_at "st"
    refine s_get T I' (by kernel_rfl) (by kernel_rfl) rfl rfl ?_
    repeat walk_at "st"
    refine t_dset ⟨od, old ed, hd⟩ (by simp; walk_at "om") fun o ho => ?_
    refine t_all1 (t_asgN ?_)
    repeat walk_at "st"
    have z := kk ed
    have S' := S.newNode (x := x) (dx := dx) (l := l) (o := o) (g' := gset (gset (gset (gset (gset g dx emptyDict) x (instObj 40 dx)) l (lst [] 0)) x (infoO dx (.str (nm i) t) 0 t' l)) a.d o) inj hi hx hdx hl n1 n2 n3 ⟨t, rfl⟩ (t := t') (h0 hi).1 (h0 hi).2 ho ((gset_ne (Ne.symm z.1)).trans gset_self) ((gset_ne (Ne.symm z.2.1)).trans ((gset_ne n1).trans ((gset_ne (Ne.symm n3)).trans ((gset_ne n1).trans gset_self)))) ((gset_ne (Ne.symm z.2.2)).trans ((gset_ne n2).trans gset_self)) gset_self (fun b o' hb e => (gset_ne hb).trans (old e))
    refine (hQ1 _ _ _ ⟨{ a with info := put a.info i x, nd := put a.nd i dx, sl := put a.sl i l }, rfl, ?_, ?_⟩)
    · rw [show addn ord i = ord ++ [i] from if_neg hi]; exact S'
    · show Value.ref x = Value.ref (put a.info i x i); rw [put_self]
end
noncomputable section
variable {w : World} {H : Heap} {O : OsState} {g : GH} {nm : Nat → Str} {a : SA} {ord : List Nat} {np : Nat → Int} {sc : Nat → List Nat} {rdy : Option (List Nat)} {po nf : Int}
section
variable {k : Nat} {hdl : Option Value} {X : ExcP} {env : Env} {m : LM}
theorem s_getNp {i : Nat} {b : Bool} {Q : Value → GH → LM → Prop} (T : Tp (KK w.params) H) (S : SH w nm g a ord np sc rdy po nf) (hi : i ∈ ord) (h : ∀ t, Q (.int (np i) t) g m) : tri w H O k hdl X env (getAttr (.ref (a.info i)) (Str.ofString "npredecessors") b) g m Q := by
  refine el_eeaa (S.nod i hi) fun v t h1 h2 h3 => ?_
  exact n_get1 T h2 h3 rfl rfl (h t)
theorem s_setNp {i : Nat} {n : Int} {t : Tok} {Q : Unit → GH → LM → Prop} (T : Tp (KK w.params) H) (S : SH w nm g a ord np sc rdy po nf) (hi : i ∈ ord) (h : ∀ g', SH w nm g' a ord (put np i n) sc rdy po nf → Q () g' m) : tri w H O k hdl X env (setAttr (.ref (a.info i)) (Str.ofString "npredecessors") (.int n t)) g m Q := by
  refine el_eeaa (S.nod i hi) fun v t h1 h2 h3 => ?_
  exact n_set1 T h2 h3 (h _ (S.setNp hi h1))
theorem s_getSc {i : Nat} {b : Bool} {Q : Value → GH → LM → Prop} (T : Tp (KK w.params) H) (S : SH w nm g a ord np sc rdy po nf) (hi : i ∈ ord) (h : Q (.ref (a.sl i)) g m) : tri w H O k hdl X env (getAttr (.ref (a.info i)) (Str.ofString "successors") b) g m Q := by
  refine el_eeaa (S.nod i hi) fun v t h1 h2 h3 => ?_
  exact n_get2 T h2 h3 rfl rfl h
theorem s_getN2i {b : Bool} {Q : Value → GH → LM → Prop} (T : Tp (KK w.params) H) (S : SH w nm g a ord np sc rdy po nf) (h : Q (.ref a.d) g m) : tri w H O k hdl X env (getAttr (.ref a.x) (Str.ofString "_node2info") b) g m Q := by
  obtain ⟨ti, n, tp, tf, I⟩ := S.inst
  exact s_get T I (by kernel_rfl) (by kernel_rfl) rfl rfl h
theorem s_getRd {b : Bool} {Q : Value → GH → LM → Prop} (T : Tp (KK w.params) H) (S : SH w nm g a ord np sc rdy po nf) (h : Q (if rdy.isSome then .ref a.r else .none) g m) : tri w H O k hdl X env (getAttr (.ref a.x) (Str.ofString "_ready_nodes") b) g m Q := by
  obtain ⟨ti, n, tp, tf, I⟩ := S.inst
  refine s_get T I (by kernel_rfl) (by kernel_rfl) rfl ?_ h
  split <;> rfl
theorem s_getPo {b : Bool} {Q : Value → GH → LM → Prop} (T : Tp (KK w.params) H) (S : SH w nm g a ord np sc rdy po nf) (h : ∀ t, Q (.int po t) g m) : tri w H O k hdl X env (getAttr (.ref a.x) (Str.ofString "_npassedout") b) g m Q := by
  obtain ⟨ti, n, tp, tf, I⟩ := S.inst
  exact s_get T I (by kernel_rfl) (by kernel_rfl) rfl rfl (h _)
theorem s_getNf {b : Bool} {Q : Value → GH → LM → Prop} (T : Tp (KK w.params) H) (S : SH w nm g a ord np sc rdy po nf) (h : ∀ t, Q (.int nf t) g m) : tri w H O k hdl X env (getAttr (.ref a.x) (Str.ofString "_nfinished") b) g m Q := by
  obtain ⟨ti, n, tp, tf, I⟩ := S.inst
  exact s_get T I (by kernel_rfl) (by kernel_rfl) rfl rfl (h _)
theorem s_setPo {p : Int} {t : Tok} {Q : Unit → GH → LM → Prop} (T : Tp (KK w.params) H) (S : SH w nm g a ord np sc rdy po nf) (h : ∀ g', SH w nm g' a ord np sc rdy p nf → Q () g' m) : tri w H O k hdl X env (setAttr (.ref a.x) (Str.ofString "_npassedout") (.int p t)) g m Q := by
  obtain ⟨ti, n, tp, tf, I⟩ := S.inst
  exact t_setown T I (by kernel_rfl) (by kernel_rfl) (by kernel_rfl) (by kernel_rfl) rfl (fun _ => by show 4 ≤ 1000; decide) fun t' => h _ (S.setAt)
theorem s_setNf {p : Int} {t : Tok} {Q : Unit → GH → LM → Prop} (T : Tp (KK w.params) H) (S : SH w nm g a ord np sc rdy po nf) (h : ∀ g', SH w nm g' a ord np sc rdy po p → Q () g' m) : tri w H O k hdl X env (setAttr (.ref a.x) (Str.ofString "_nfinished") (.int p t)) g m Q := by
  obtain ⟨ti, n, tp, tf, I⟩ := S.inst
  exact t_setown T I (by kernel_rfl) (by kernel_rfl) (by kernel_rfl) (by kernel_rfl) rfl (fun _ => by show 4 ≤ 1000; decide) fun t' => h _ (S.setAt)
theorem s_setRd {r : Addr} {vs : List Value} {l : List Nat} {Q : Unit → GH → LM → Prop} (T : Tp (KK w.params) H) (S : SH w nm g a ord np sc none po nf) (hr : IsL g r vs) (hv : SVs nm l vs) (hne : r ≠ a.d ∧ ∀ i ∈ ord, r ≠ a.sl i) (h : ∀ g', SH w nm g' { a with r := r } ord np sc (some l) po nf → Q () g' m) : tri w H O k hdl X env (setAttr (.ref a.x) (Str.ofString "_ready_nodes") (.ref r)) g m Q := by
  obtain ⟨ti, n, tp, tf, I⟩ := S.inst
  exact t_setown T I (by kernel_rfl) (by kernel_rfl) (by kernel_rfl) (by kernel_rfl) rfl (fun _ => by show 4 ≤ 1000; decide) fun t' => h _ (S.newRd hr hv hne)
theorem s_appSc {i j : Nat} {v : Value} {Q : Value → GH → LM → Prop} (S : SH w nm g a ord np sc rdy po nf) (hi : i ∈ ord) (hv : SV nm j v) (hn : (sc i).length ≤ 1000) (h : ∀ g', SH w nm g' a ord np (put sc i (sc i ++ [j])) rdy po nf → Q .none g' m) : tri w H O k hdl X env (call (.builtin "list.append") [.ref (a.sl i), v]) g m Q := by
  refine el_ea (S.suc i hi) fun vs h1 h2 => ?_
  exact t_app h1 (by rw [h2.len]; walk_at "om") fun e => h _ (S.setSc hi (h2.snoc hv))
end
end
noncomputable section
variable {w : World} {H : Heap} {O : OsState} {g : GH} {nm : Nat → Str} {a : SA} {ord : List Nat} {np : Nat → Int} {sc : Nat → List Nat} {rdy : Option (List Nat)} {po nf : Int}
def add1 (sc : Nat → List Nat) (i : Nat) : List Nat → Nat → List Nat
  | [], j => sc j
  | q :: _, j => put sc q (sc q ++ [i]) j
def addp (ord : List Nat) (i : Nat) : List Nat → List Nat
  | [] => addn ord i
  | q :: _ => addn (addn ord i) q
theorem addn_mem {l : List Nat} {i j : Nat} : j ∈ addn l i ↔ j ∈ l ∨ j = i := by
  unfold addn
  split
  · rename_i h; exact ⟨.inl, fun z => z.elim id fun e => e ▸ h⟩
  · simp
theorem addn_len {l : List Nat} {i : Nat} : (addn l i).length ≤ l.length + 1 := by
  unfold addn; split <;> simp
theorem SH.mono {g' : GH} (S : SH w nm g a ord np sc rdy po nf) (h : Sub g g') : SH w nm g' a ord np sc rdy po nf := by
  refine ⟨S.ro, ?_, ?_, fun i hi => ?_, fun i hi => ?_, fun l hl => ?_, S.nodup⟩
  · obtain ⟨t, n, tp, tf, I⟩ := S.inst; exact ⟨t, n, tp, tf, h _ _ I.ob, h _ _ I.di⟩
  · obtain ⟨o', e, q⟩ := S.dict; exact ⟨o', h _ _ e, q⟩
  · obtain ⟨v, t, h1, h2, h3⟩ := S.nod i hi; exact ⟨v, t, h1, h _ _ h2, h _ _ h3⟩
  · obtain ⟨vs, ⟨n, e⟩, q⟩ := S.suc i hi; exact ⟨vs, ⟨n, h _ _ e⟩, q⟩
  · obtain ⟨vs, ⟨n, e⟩, q⟩ := S.rd l hl; exact ⟨vs, ⟨n, h _ _ e⟩, q⟩
def single (b : Addr) (o : Obj) : GH := fun c => if c = b then some o else none
theorem gset_single {b : Addr} {o : Obj} (h : g b = none) : gset g b o = uni g (single b o) ∧ Disj g (single b o) := by
  refine ⟨?_, fun c => ?_⟩
  · funext c; unfold gset uni single
    by_cases q : c = b
    · subst q; simp [h]
    · simp [q]
  · by_cases q : c = b
    · subst q; exact .inl h
    · right; simp [single, q]
theorem sub_uni {f : GH} : Sub g (uni g f) := fun _ _ e => uni_l e
theorem s_meth {k : Nat} {hdl : Option Value} {X : ExcP} {env : Env} {m : LM} {f : Addr} {name : Str} {pl : Sem Bool} {Q : Value × List Value → GH → LM → Prop} (T : Tp (KK w.params) H) (S : SH w nm g a ord np sc rdy po nf) (hg : plainGet (KK w.params) 137 name = true) (hf : findIn (KK w.params) (.ref 137) name = some (some (.ref f))) (ht : isFn (KK w.params) (.ref f) = true) (hl : ∀ t d r po nf, getL name (srtEs w.params t d r po nf) = some none) {x : Addr} (hx : x = a.x) (h : Q (.ref f, [.ref x]) g m) : tri w H O k hdl X env (getMethod (.ref x) name pl) g m Q := by
  subst hx
  obtain ⟨ti, n, tp, tf, I⟩ := S.inst
  exact t_meth T I hg hf ht (hl _ _ _ _ _) h
theorem f_add {k : Nat} {i : Nat} {ps : List Nat} {v : Value} {us : List Value} (T : Tp (KK w.params) H) (inj : ∀ i j, nm i = nm j → i = j) (S : SH w nm g a ord np sc none po nf) (hv : SV nm i v) (hu : SVs nm ps us) (hps : ps.length ≤ 1) (h0 : ∀ j, j ∉ ord → np j = 0 ∧ sc j = []) (hsc : ∀ j, (sc j).length ≤ 900) (hn : ord.length ≤ 900) :
    fnS w H O (k + 4) (.ref 87) ⟨.ref a.x :: v :: us, []⟩ g (fun r g' => SHs w nm a g' (addp ord i ps) (put np i (np i + ps.length)) (add1 sc i ps) none po nf fun _ => True) no2 := by
  have hul := hu.len
  refine fn_introV (fd := fd87) (RX := no2) (vs := us) (binds := fun t => [(Str.ofString "self", .ref a.x), (Str.ofString "node", v), (Str.ofString "predecessors", t)]) T rfl rfl (by kernel_rfl) rfl bind87 (by walk_at "om") rfl (by decide +kernel) (fun t => locs (by kernel_rfl)) (fun L tA hA => ?_) (by kernel_rfl) (by kernel_rfl) (by kernel_rfl)
  refine tri_hide fun Q1 hQ1 => ?_
  rw [b3]
  obtain ⟨eg, hD⟩ := gset_single (o := tup us 0) hA
  rw [eg]
  generalize hf : single tA (tup us 0) = f at hD
  have hfT : f tA = some (tup us 0) := by rw [← hf]; exact if_pos rfl
  have S1 := S.mono (sub_uni (f := f))
  refine t_cons ?_
  repeat walk_at "st"
  refine s_getRd T S1 ?_
  repeat walk_at "st"
  simp only [Option.isSome_none, Bool.false_eq_true, if_false]
  first | with_reducible refine ite_F (show (!(Value.none == Value.none)) = false from rfl) ?_ | (rw [show (!(Value.none == Value.none)) = false from rfl]; simp only [Bool.false_eq_true, if_false])
  refine t_nil ?_
  refine t_cons ?_
  refine t_assignN (by kernel_rfl) ?_
  repeat walk_at "st"
  refine s_meth (f := 80) T S1 (by kernel_rfl) (by kernel_rfl) (by kernel_rfl) (fun _ _ _ _ _ => rfl) rfl ?_
  repeat walk_at "st"
  refine tri_call (k := k + 3) (fnS_monoX (fnS_frame (f_get (k := k) T inj S hv (h0 i) (by walk_at "om")) hD) (fun _ _ q => q) fun _ _ z1 => by obtain ⟨_, _, _, q⟩ := z1; exact q) fun r g2 p2 => ?_
  obtain ⟨g₀, eg2, hD2, a2, ha2, S2, hr⟩ := p2
  subst hr eg2
  have hi2 : i ∈ addn ord i := addn_mem.mpr (.inr rfl)
  repeat walk_at "st"
  refine s_getNp T (S2.mono sub_uni) hi2 fun t1 => ?_
  repeat walk_at "st"
  refine t_lenT (.inl ⟨_, 0, uni_r hD2 hfT, rfl, rfl⟩) (by walk_at "om") fun t2 => ?_
  refine t_iadd fun t3 => ?_
  refine tri_mono (tri.frameG (s_setNp (X := noX) (Q := fun _ g' m' => m' = _ ∧ SH w nm g' a2 (addn ord i) (put np i (np i + us.length)) sc none po nf) T S2 hi2 fun g' S' => ⟨rfl, S'⟩) hD2) fun _ g3 m3 p3 => ?_
  refine el_eaaa p3 fun g₃ eg3 hD3 em3 S3 => ?_; clear p3
  subst eg3 em3
  refine t_cons (t_for (fun _ => by kernel_rfl) ?_)
  repeat walk_at "st"
  refine t_forP (n := us.length) (P := fun j u => us[j]? = some u) (Src := fun g => IsT' H g tA us) (fun j g' m' => ∃ g₀, g' = uni g₀ f ∧ Disj g₀ f ∧ m' (Str.ofString "self") = some (.ref a.x) ∧ m' (Str.ofString "node") = some v ∧ ∃ a3, a3.x = a.x ∧ SH w nm g₀ a3 (addp ord i (ps.take j)) (put np i (np i + us.length)) (add1 sc i (ps.take j)) none po nf)
    (Starts.tuple (.inl ⟨_, 0, uni_r hD3 hfT, rfl, rfl⟩)) (fun j g' m' z2 => by obtain ⟨g₀, e, d, _⟩ := z2; exact .inl ⟨tup us 0, 0, (congrFun e tA).trans (uni_r d hfT), rfl, rfl⟩) ⟨g₃, rfl, hD3, by walk_at "look", by walk_at "look", a2, ha2, S3⟩ (fun j u g' m' hj hu' p5 => ?_) fun g' m' ⟨g₀, e, d, m1, m2, a3, ha3, S4⟩ => t_nil (t_nil ?_)
  · first | refine tri_hide fun Q4 hQ4 => ?_ | skip
    obtain ⟨g₀, e, d, m1, m2, a3, ha3, S4⟩ := p5
    subst e
    have hj0 : j = 0 := by walk_at "om"
    subst hj0
    refine el_ea (hu.get hu') fun q hq hqv => ?_
    obtain ⟨p0, rfl⟩ : ps = [q] := by
      cases ps with
      | nil => simp at hq
      | cons p r =>
        cases r with
        | nil => simp at hq; rw [hq]
        | cons _ _ => simp at hps
    have ex : addp ord i ([q].take 0) = addn ord i := rfl
    have ex2 : add1 sc i ([q].take 0) = sc := rfl
    rw [ex, ex2] at S4
    refine t_asgN ?_
    repeat walk_at "st"
    refine hQ4 _ _ _ ?_
    refine tri_hide fun Q40 hQ40 => ?_
    repeat walk_at "st"
    refine s_meth (f := 80) T (S4.mono sub_uni) (by kernel_rfl) (by kernel_rfl) (by kernel_rfl) (fun _ _ _ _ _ => rfl) ha3.symm ?_
    repeat walk_at "st"
    refine tri_call (k := k + 3) (ha3 ▸ fnS_monoX (fnS_frame (f_get (k := k) T inj S4 hqv (fun hq => ?_) (Nat.le_trans addn_len (by walk_at "om"))) d) (fun _ _ q => q) fun _ _ z3 => by obtain ⟨_, _, _, q⟩ := z3; exact q) fun r g2 p6 => ?_
    rotate_left
    · have h1 : q ∉ ord := fun z => hq (addn_mem.mpr (.inl z))
      have h2 : q ≠ i := fun z => hq (addn_mem.mpr (.inr z))
      exact ⟨by rw [put_ne h2]; exact (h0 q h1).1, (h0 q h1).2⟩
    obtain ⟨g₅, eg5, hD5, a5, ha5, S5, hr⟩ := p6
    subst hr eg5
    have hq2 : q ∈ addn (addn ord i) q := addn_mem.mpr (.inr rfl)
    repeat walk_at "st"
    refine s_getSc T (S5.mono sub_uni) hq2 ?_
    refine el_ea (S5.suc q hq2) fun vs5 l5 _ => ?_
    obtain ⟨n5, l5⟩ := l5
    refine t_append (items := vs5) ⟨n5, uni_l l5⟩ ?_
    repeat walk_at "st"
    refine tri_mono (tri.frameG (s_appSc (X := noX) (Q := fun _ g' m' => m' = _ ∧ SH w nm g' a5 (addn (addn ord i) q) (put np i (np i + us.length)) (put sc q (sc q ++ [i])) none po nf) S5 hq2 hv (by have := hsc q; walk_at "om") fun g' S' => ⟨rfl, S'⟩) hD5) fun _ g6 m6 p7 => ?_
    refine el_eaaa p7 fun g₆ eg6 hD6 em6 S6 => ?_; clear p7
    subst em6
    refine t_nil (hQ40 _ _ _ ⟨g₆, eg6, hD6, by walk_at "look", by walk_at "look", a5, ha5.trans ha3, ?_⟩)
    have : add1 sc i ([q].take (0 + 1)) = put sc q (sc q ++ [i]) := by funext j; rfl
    rw [this]
    exact S6
  · have : ps.take us.length = ps := by rw [hul]; simp
    rw [this] at S4
    rw [e]
    refine (hQ1 _ _ _ ⟨a3, ha3, ?_, trivial⟩)
    have h5 := S4.mono (sub_uni (f := f))
    rw [hul] at h5
    exact h5
end
noncomputable section
theorem snocInd {α : Type} {M : List α → Prop} (h0 : M []) (h : ∀ L p, M L → M (L ++ [p])) (L : List α) : M L := by
  have : ∀ K : List α, M K.reverse := fun K => by
    induction K with
    | nil => exact h0
    | cons p K ih => rw [List.reverse_cons]; exact h _ p ih
  rw [← L.reverse_reverse]; exact this _
section
variable (lk : Nat → Bool) (tg : Nat → Nat)
def gp (p : Nat) : List Nat := if lk p then [tg p] else []
def ordL (L : List Nat) : List Nat := L.foldl (fun o p => addp o p (gp lk tg p)) []
def npL (L : List Nat) (p : Nat) : Int := if p ∈ L ∧ lk p = true then 1 else 0
def scL (L : List Nat) (q : Nat) : List Nat := L.filter fun l => lk l && decide (tg l = q)
variable {lk tg} {L : List Nat} {p : Nat}
theorem gp_len : (gp lk tg p).length ≤ 1 := by unfold gp; split <;> simp
theorem ordL_snoc : ordL lk tg (L ++ [p]) = addp (ordL lk tg L) p (gp lk tg p) := by simp [ordL, List.foldl_append]
theorem addp_mem {o : List Nat} {i j : Nat} {ps : List Nat} (h : ps.length ≤ 1) : j ∈ addp o i ps ↔ j ∈ o ∨ j = i ∨ j ∈ ps := by
  match ps, h with
  | [], _ => simp [addp, addn_mem]
  | [q], _ => simp [addp, addn_mem, or_assoc]
theorem ordL_mem {j : Nat} : ∀ {L : List Nat}, j ∈ ordL lk tg L ↔ j ∈ L ∨ ∃ l ∈ L, lk l = true ∧ tg l = j := by
  intro L
  induction L using snocInd with
  | h0 => simp [ordL]
  | h L p ih =>
    rw [ordL_snoc, addp_mem gp_len, ih]
    have hg : j ∈ gp lk tg p ↔ lk p = true ∧ tg p = j := by
      unfold gp
      cases lk p
      · simp
      · simp only [if_true, List.mem_singleton, true_and]; exact ⟨Eq.symm, Eq.symm⟩
    rw [hg]
    simp only [List.mem_append, List.mem_singleton]
    constructor
    · rintro ((h | ⟨l, h1, h2⟩) | h | h)
      · exact .inl (.inl h)
      · exact .inr ⟨l, .inl h1, h2⟩
      · exact .inl (.inr h)
      · exact .inr ⟨p, .inr rfl, h⟩
    · rintro ((h | h) | ⟨l, h1 | h1, h2⟩)
      · exact .inl (.inl h)
      · exact .inr (.inl h)
      · exact .inl (.inr ⟨l, h1, h2⟩)
      · subst h1; exact .inr (.inr h2)
theorem npL_snoc (h : p ∉ L) : npL lk (L ++ [p]) = put (npL lk L) p (npL lk L p + (gp lk tg p).length) := by
  funext j
  by_cases q : j = p
  · subst q
    rw [put_self]
    unfold npL gp
    cases lk j <;> simp [h]
  · rw [put_ne q]
    unfold npL
    simp [q]
theorem scL_snoc : scL lk tg (L ++ [p]) = add1 (scL lk tg L) p (gp lk tg p) := by
  funext j
  unfold scL gp
  rw [List.filter_append]
  cases h : lk p
  · simp [add1, h]
  · simp only [h, if_true, add1]
    by_cases q : tg p = j
    · subst q; simp [put, h]
    · simp [put, h, q, Ne.symm q]
theorem h0L : ∀ j, j ∉ ordL lk tg L → npL lk L j = 0 ∧ scL lk tg L j = [] := by
  intro j hj
  rw [ordL_mem] at hj
  simp only [not_or, not_exists, not_and] at hj
  refine ⟨by unfold npL; rw [if_neg fun z => hj.1 z.1], ?_⟩
  unfold scL
  rw [List.filter_eq_nil_iff]
  intro l hl
  simp only [Bool.and_eq_true, decide_eq_true_eq, not_and]
  exact hj.2 l hl
theorem ordL_len : (ordL lk tg L).length ≤ 2 * L.length := by
  induction L using snocInd with
  | h0 => simp [ordL]
  | h L p ih =>
    rw [ordL_snoc]
    have h : ∀ ps : List Nat, (addp (ordL lk tg L) p ps).length ≤ (ordL lk tg L).length + 2 := fun ps => by
      cases ps with
      | nil => exact Nat.le_trans addn_len (by walk_at "om")
      | cons q r =>
        have h1 := @addn_len (addn (ordL lk tg L) p) q
        have h2 := @addn_len (ordL lk tg L) p
        show (addn (addn (ordL lk tg L) p) q).length ≤ _
        walk_at "om"
    have := h (gp lk tg p)
    simp; walk_at "om"
theorem scL_len (j : Nat) : (scL lk tg L j).length ≤ L.length := List.length_filter_le _ _
end
end
noncomputable section
variable {w : World} {H : Heap} {O : OsState} {g f : GH} {nm : Nat → Str} {lk : Nat → Bool} {tg : Nat → Nat} {L : List Nat}
structure GraphAt (w : World) (nm : Nat → Str) (lk : Nat → Bool) (tg : Nat → Nat) (f : GH) (gr : Addr) (L : List Nat) (gl : Nat → Addr) : Prop where
  di : IsD w f gr (L.map fun p => (nm p, .ref (gl p)))
  ls : ∀ p ∈ L, ∃ vs, IsL f (gl p) vs ∧ SVs nm (gp lk tg p) vs
theorem GraphAt.mono {f' : GH} {gr : Addr} {gl : Nat → Addr} (G : GraphAt w nm lk tg f gr L gl) (h : Sub f f') : GraphAt w nm lk tg f' gr L gl :=
  ⟨by obtain ⟨o, e, q⟩ := G.di; exact ⟨o, h _ _ e, q⟩, fun p hp => by obtain ⟨vs, ⟨n, e⟩, q⟩ := G.ls p hp; exact ⟨vs, ⟨n, h _ _ e⟩, q⟩⟩
theorem sh_init {a : SA} {t : Nat → Tok} {n : Nat} {tp tf : Tok} {od : Obj} {np : Nat → Int} {sc : Nat → List Nat} (h1 : g a.x = some (instObj 137 a.dx)) (h2 : g a.dx = some (dictOf (srtEs w.params t (.ref a.d) .none (.int 0 tp) (.int 0 tf)) n)) (h3 : g a.d = some od) (h4 : od.IsDictOf (strKind P0 w) []) (n1 : a.d ≠ a.dx) : SH w nm g a [] np sc none 0 0 := by
  have n2 : a.x ≠ a.dx := fun q => by rw [q, h2] at h1; simp [dictOf] at h1
  have n3 : a.x ≠ a.d := fun q => by
    rw [q, h3] at h1
    refine el_eeaa h4 fun es ep hh hd _ => ?_; clear h4
    cases h1; cases hd
  refine ⟨⟨fun b => if b = a.x then (0, 0) else if b = a.dx then (1, 0) else (2, 0), ?_⟩, ⟨t, n, tp, tf, ⟨h1, h2⟩⟩, ⟨od, h3, h4⟩, (fun _ h => (nomatch h)), (fun _ h => (nomatch h)), (fun _ h => (nomatch h)), List.nodup_nil⟩
  refine ⟨if_pos rfl, ?_, ?_, (fun _ h => (nomatch h)), (fun _ h => (nomatch h)), (fun _ h => (nomatch h)), fun h => (nomatch h)⟩
  · rw [if_neg (Ne.symm n2), if_pos rfl]
  · rw [if_neg (Ne.symm n3), if_neg n1]
theorem f_init {k : Nat} {x dx gr : Addr} {gl : Nat → Addr} (T : Tp (KK w.params) H) (inj : ∀ i j, nm i = nm j → i = j) (hx : g x = some (instObj 137 dx)) (hd : g dx = some emptyDict) (hD : Disj g f) (G : GraphAt w nm lk tg f gr L gl) (hL : L.length ≤ 100) (hnd : L.Nodup) :
    fnS w H O (k + 6) (.ref 73) ⟨[.ref x, .ref gr], []⟩ (uni g f) (fun r g' => r = .none ∧ ∃ g₀ f' a, g' = uni g₀ f' ∧ Disj g₀ f' ∧ Sub f f' ∧ a.x = x ∧ SH w nm g₀ a (ordL lk tg L) (npL lk L) (scL lk tg L) none 0 0) no2 := by
  refine fn_introP (fd := fd73) (RX := no2) (binds := [(Str.ofString "self", .ref x), (Str.ofString "graph", .ref gr)]) T rfl rfl (by kernel_rfl) rfl (fun S => by kernel_rfl) rfl (by decide +kernel) (locs (by kernel_rfl)) (fun L0 => ?_) (by kernel_rfl) (by kernel_rfl) (by kernel_rfl)
  refine tri_hide fun Q1 hQ1 => ?_
  rw [b2]
  have hdx : dx ≠ x := fun q => by rw [q, hx] at hd; simp at hd
  refine t_cons ?_
  repeat walk_at "st"
  refine t_dnew fun d od hd0 hod => ?_
  repeat walk_at "st"
  have nd : d ≠ dx := fun q => by rw [q, uni_l hd] at hd0; cases hd0
  have nx : d ≠ x := fun q => by rw [q, uni_l hx] at hd0; cases hd0
  have I0 : InstG (gset (uni g f) d od) x 137 dx #[] [] 0 := ⟨(gset_ne (Ne.symm nx)).trans (uni_l hx), (gset_ne (Ne.symm nd)).trans (uni_l hd)⟩
  have stp : ∀ {g : GH} {es es' : List DictEntry} {n n' : Nat}, InstG g x 137 dx #[] es n → InstG (gset g dx (dictOf es' n')) x 137 dx #[] es' n' := fun I => ⟨(gset_ne (Ne.symm hdx)).trans I.ob, gset_self⟩
  refine t_setown T I0 (by kernel_rfl) (by kernel_rfl) (by kernel_rfl) (by kernel_rfl) rfl (fun _ => by show 1 ≤ 1000; decide) fun t1 => ?_
  refine t_cons ?_
  repeat walk_at "st"
  refine t_setown T (stp I0) (by kernel_rfl) (by kernel_rfl) (by kernel_rfl) (by kernel_rfl) rfl (fun _ => by show 2 ≤ 1000; decide) fun t2 => ?_
  refine t_cons ?_
  repeat walk_at "st"
  refine t_setown T (stp (stp I0)) (by kernel_rfl) (by kernel_rfl) (by kernel_rfl) (by kernel_rfl) rfl (fun _ => by show 3 ≤ 1000; decide) fun t3 => ?_
  refine t_cons ?_
  repeat walk_at "st"
  refine t_setown T (stp (stp (stp I0))) (by kernel_rfl) (by kernel_rfl) (by kernel_rfl) (by kernel_rfl) rfl (fun _ => by show 4 ≤ 1000; decide) fun t4 => ?_
  simp only [uni_gset]
  rename_i i3 i4
  generalize hgS : gset (gset (gset (gset (gset g d od) dx _) dx _) dx _) dx _ = gS
  have S0 : SH w nm gS ⟨x, dx, d, 0, fun _ => 0, fun _ => 0, fun _ => 0⟩ (ordL lk tg []) (npL lk []) (scL lk tg []) none 0 0 := by
    rw [← hgS]
    refine sh_init (t := fun j => if j = 0 then t1 else if j = 1 then t2 else if j = 2 then t3 else t4) (tp := i3) (tf := i4) (od := od) ?_ gset_self ?_ hod nd
    · rw [gset_ne (Ne.symm hdx), gset_ne (Ne.symm hdx), gset_ne (Ne.symm hdx), gset_ne (Ne.symm hdx), gset_ne (Ne.symm nx)]; exact hx
    · rw [gset_ne nd, gset_ne nd, gset_ne nd, gset_ne nd]; exact gset_self
  have D0 : Disj gS f := by
    rw [← hgS]
    have hfd : f d = none := (uni_none.mp hd0).2
    have hfx : f dx = none := (hD dx).resolve_left (by rw [hd]; exact fun z => nomatch z)
    exact ((((hD.set hfd).set hfx).set hfx).set hfx).set hfx
  refine t_cons ?_
  repeat walk_at "st"
  first | with_reducible refine ite_T (show (!(Value.ref gr == Value.none)) = true from rfl) ?_ | (rw [show (!(Value.ref gr == Value.none)) = true from rfl]; simp only [if_true])
  refine t_cons (t_for (fun _ => by kernel_rfl) ?_)
  repeat walk_at "st"
  refine el_ea G.di fun og eg hg => ?_
  refine t_dmeth ⟨og, uni_r D0 eg, hg⟩ PySem.F.slot_dict_items PySem.F.type_dict_items ?_
  repeat walk_at "st"
  refine t_ditems T ⟨og, uni_r D0 eg, hg⟩ fun vw hvw => ?_
  have hvS : gS vw = none := (uni_none.mp hvw).1
  have hvF : f vw = none := (uni_none.mp hvw).2
  rw [uni_gset_r hvS]
  have D1 := (D0.symm.set (a := vw) (o := { cls := .type "dict_items", data := .fields #[.ref gr] }) hvS).symm
  have sf : Sub f (gset f vw { cls := .type "dict_items", data := .fields #[.ref gr] }) := sub_new hvF
  have hvv : (gset f vw { cls := .type "dict_items", data := .fields #[.ref gr] }) vw = some { cls := .type "dict_items", data := .fields #[.ref gr] } := gset_self
  generalize gset f vw { cls := .type "dict_items", data := .fields #[.ref gr] } = f1 at D1 sf hvv
  refine t_forS (fun j g' m' => ∃ g₀ f', g' = uni g₀ f' ∧ Disj g₀ f' ∧ Sub f1 f' ∧ m' (Str.ofString "self") = some (.ref x) ∧ ∃ a, a.x = x ∧ SH w nm g₀ a (ordL lk tg (L.take j)) (npL lk (L.take j)) (scL lk tg (L.take j)) none 0 0)
    (Starts.items (uni_r D1 (sf _ _ eg)) hg (uni_r D1 hvv)) (fun j g' m' z1 => by obtain ⟨g₀, f', e, d, s, _⟩ := z1; exact (congrFun e gr).trans (uni_r d (s _ _ (sf _ _ eg)))) ⟨gS, f1, rfl, D1, sub_refl, by walk_at "look", _, rfl, S0⟩ (fun j v new g' m' hj hnx p3 hfr => ?_) fun g' m' ⟨g₀, f', e, d, s, m1, a, ha, S⟩ => t_nil (t_nil (t_nil (hQ1 _ _ _ ⟨rfl, g₀, f', a, e, d, sub_trans sf s, ha, ?_⟩)))
  · first | refine tri_hide fun Q2 hQ2 => ?_ | skip
    obtain ⟨g₀, f', e, d, s, m1, a, ha, S⟩ := p3
    obtain ⟨Tt, oT, vals, ep, rfl, rfl, hc, hdt, key, vx, tk, hkv, rfl⟩ := hnx
    have hT0 := hfr _ rfl
    subst e
    have hTg : g₀ Tt = none := (uni_none.mp hT0).1
    have hTf : f' Tt = none := (uni_none.mp hT0).2
    show tri w H O (k + 5) none noX _ _ (gset (uni g₀ f') Tt oT) _ _
    rw [uni_gset_r hTg]
    have d2 := (d.symm.set (a := Tt) (o := oT) hTg).symm
    have s2 : Sub f1 (gset f' Tt oT) := sub_trans s (sub_new hTf)
    have hTT : gset f' Tt oT Tt = some oT := gset_self
    generalize hf2 : gset f' Tt oT = f2 at d2 s2 hTT
    rw [List.length_map] at hj
    obtain ⟨p, hp⟩ : ∃ p, L[j]? = some p := ⟨_, List.getElem?_eq_getElem hj⟩
    rw [List.getElem?_map, hp] at hkv
    cases hkv
    have hpL : p ∈ L := List.mem_of_getElem? hp
    refine t_two (.inl ⟨oT, ep, uni_r d2 hTT, hc, by simpa using hdt⟩) ?_
    repeat walk_at "st"
    refine hQ2 _ _ _ ?_
    refine tri_hide fun Q20 hQ20 => ?_
    repeat walk_at "st"
    refine t_mstar (by kernel_rfl) (by kernel_rfl) ?_
    repeat walk_at "st"
    obtain ⟨ti, ni, tp, tf, I⟩ := S.inst
    rw [ha] at I
    refine t_bound (f := 87) T (show InstG (uni g₀ f2) x 137 a.dx #[] _ ni from ⟨uni_l I.ob, uni_l I.di⟩) (by kernel_rfl) (by kernel_rfl) (by kernel_rfl) (by kernel_rfl) (by kernel_rfl) (by kernel_rfl) (by decide +kernel) rfl fun q hq => ?_
    have hq1 : g₀ q = none := (uni_none.mp hq).1
    have hq2 : f2 q = none := (uni_none.mp hq).2
    rw [uni_gset_r hq1]
    have d3 := (d2.symm.set (a := q) (o := methodObj (.ref 87) (.ref x)) hq1).symm
    have s3 : Sub f1 (gset f2 q (methodObj (.ref 87) (.ref x))) := sub_trans s2 (sub_new hq2)
    have hqq : gset f2 q (methodObj (.ref 87) (.ref x)) q = some (methodObj (.ref 87) (.ref x)) := gset_self
    generalize gset f2 q (methodObj (.ref 87) (.ref x)) = f3 at d3 s3 hqq
    refine el_ea (G.ls p hpL) fun us yy1 hss => ?_
    obtain ⟨nl, hus⟩ := yy1
    refine t_cwS2 (fn := 87) (self := .ref x) T (by kernel_rfl) (by kernel_rfl) ?_
    repeat walk_at "st"
    refine ⟨gl p, us, rfl, .inl (.inl ⟨nl, uni_r d3 (s3 _ _ (sf _ _ hus))⟩), by have := hss.len; have := @gp_len lk tg p; walk_at "om", uni_r d3 hqq, ?_⟩
    have hpn : p ∉ L.take j := fun z => by
      obtain ⟨i, hi, e⟩ := List.getElem_of_mem z
      rw [List.length_take] at hi
      rw [List.getElem_take] at e
      have hj' : j < L.length := hj
      have e2 : L[i]'(by walk_at "om") = L[j] := by rw [e]; exact (Option.some.inj ((List.getElem?_eq_getElem hj').symm.trans hp)).symm
      have := (List.getElem_inj hnd).mp e2
      walk_at "om"
    have hlt : (L.take j).length ≤ 100 := by rw [List.length_take]; walk_at "om"
    have hadd := f_add (k := k) (O := O) T inj S (i := p) (ps := gp lk tg p) ⟨tk, rfl⟩ hss gp_len (h0L (lk := lk) (tg := tg) (L := L.take j)) (fun j' => Nat.le_trans (scL_len j') (by walk_at "om")) (Nat.le_trans ordL_len (by walk_at "om"))
    rw [ha] at hadd
    refine tri_call (k := k + 5) (fnS_bound (uni_r d3 hqq) (fnS_monoX (fnS_frame (fnS_more hadd (by walk_at "om")) d3) (fun _ _ q => q) fun _ _ z2 => by obtain ⟨_, _, _, q⟩ := z2; exact q)) fun r g2 p4 => ?_
    obtain ⟨g₅, eg5, hD5, a5, ha5, S5, _⟩ := p4
    have etk : L.take (j + 1) = L.take j ++ [p] := by rw [List.take_add_one, hp]; rfl
    refine t_nil (hQ20 _ _ _ ⟨g₅, f3, eg5, hD5, s3, by walk_at "look", a5, ha5.trans ha, ?_⟩)
    rw [etk, ordL_snoc, npL_snoc (tg := tg) hpn, scL_snoc]
    exact S5
  · have : L.take (L.map fun p => (nm p, Value.ref (gl p))).length = L := by simp
    rw [this] at S; exact S
end
noncomputable section
variable {w : World} {H : Heap} {O : OsState} {g f : GH} {nm : Nat → Str} {a : SA} {ord : List Nat} {np : Nat → Int} {sc : Nat → List Nat} {po nf : Int} {l : List Nat}
section
variable {k : Nat} {hdl : Option Value} {X : ExcP} {env : Env} {m : LM}
theorem s_item {rdy : Option (List Nat)} {value slice : Expr} {i : Nat} {v : Value} {Q : Value → GH → LM → Prop} (inj : ∀ i j, nm i = nm j → i = j) (S : SH w nm g a ord np sc rdy po nf) (hi : i ∈ ord) (hv : SV nm i v) (h : Q (.ref (a.info i)) g m)
    (hs : ∀ t, subscripted slice false (.ref a.d) (.str (nm i) t) = operate [.ref a.d, .str (nm i) t] (getItem (.ref a.d) (.str (nm i) t))) : tri w H O k none X env (subscriptTail value slice (.ref a.d) v) g m Q := by
  obtain ⟨t, rfl⟩ := hv
  exact t_dget S.dict (by rw [vat_map (α := Unit) inj, if_pos hi]) h (hs t)
end
theorem f_ready {k : Nat} (T : Tp (KK w.params) H) (inj : ∀ i j, nm i = nm j → i = j) (S : SH w nm g a ord np sc (some l) po nf) (hl : ∀ i ∈ l, i ∈ ord) (hn : l.length ≤ 1000) :
    fnS w H O (k + 1) (.ref 99) ⟨[.ref a.x], []⟩ g (fun r g' => ∃ g₀ t vs, r = .ref t ∧ g' = uni g₀ (single t (tup vs 0)) ∧ Disj g₀ (single t (tup vs 0)) ∧ SVs nm l vs ∧ SH w nm g₀ a ord (fun j => if j ∈ l then -1 else np j) sc (some []) (po + l.length) nf) no2 := by
  refine fn_intro (fd := fd99) (binds := [(Str.ofString "self", .ref a.x)]) T rfl rfl (by kernel_rfl) rfl (fun s => BindsTo.of_eq (by kernel_rfl)) rfl (by decide +kernel) (locs (by kernel_rfl)) (fun L => ?_) (by kernel_rfl) (by kernel_rfl) (by kernel_rfl)
  refine tri_hide fun Q1 hQ1 => ?_
  rw [b1]
  refine el_ea (S.rd l rfl) fun vs hr hvs => ?_
  refine t_cons ?_
  repeat walk_at "st"
  refine s_getRd T S ?_
  repeat walk_at "st"
  simp only [Option.isSome_some, if_true]
  first | with_reducible refine ite_F (show (Value.ref a.r == Value.none) = false from rfl) ?_ | (rw [show (Value.ref a.r == Value.none) = false from rfl]; simp only [Bool.false_eq_true, if_false])
  refine t_nil ?_
  refine t_cons ?_
  repeat walk_at "st"
  refine s_getRd T S ?_
  simp only [Option.isSome_some, if_true]
  repeat walk_at "st"
  refine t_tup (.inl hr) (by rw [hvs.len]; walk_at "om") fun t ht => ?_
  repeat walk_at "st"
  obtain ⟨eg, hD⟩ := gset_single (o := tup vs 0) ht
  rw [eg]
  generalize hf : single t (tup vs 0) = f at hD
  have hfT : f t = some (tup vs 0) := by rw [← hf]; exact if_pos rfl
  repeat walk_at "st"
  refine s_getN2i T (S.mono sub_uni) ?_
  repeat walk_at "st"
  refine t_for (fun _ => by kernel_rfl) ?_
  repeat walk_at "st"
  have hlen := hvs.len
  refine t_forP (n := vs.length) (P := fun j u => vs[j]? = some u) (Src := fun g => IsT' H g t vs) (fun j g' m' => ∃ g₀, g' = uni g₀ f ∧ Disj g₀ f ∧ m' (Str.ofString "self") = some (.ref a.x) ∧ m' (Str.ofString "result") = some (.ref t) ∧ m' (Str.ofString "n2i") = some (.ref a.d) ∧ SH w nm g₀ a ord (fun i => if i ∈ l.take j then -1 else np i) sc (some l) po nf)
    (Starts.tuple (.inl ⟨_, 0, uni_r hD hfT, rfl, rfl⟩)) (fun j g' m' z1 => by obtain ⟨g₀, e, d, _⟩ := z1; exact .inl ⟨tup vs 0, 0, (congrFun e t).trans (uni_r d hfT), rfl, rfl⟩) ⟨g, rfl, hD, by walk_at "look", by walk_at "look", by walk_at "look", by simpa using S⟩ (fun j u g' m' hj hu' p3 => ?_) fun g' m' ⟨g₀, e, d, m1, m2, m3, S4⟩ => t_nil ?_
  · first | refine tri_hide fun Q2 hQ2 => ?_ | skip
    obtain ⟨g₀, e, d, m1, m2, m3, S4⟩ := p3
    subst e
    refine el_ea (hvs.get hu') fun q hq hqv => ?_
    have hqo : q ∈ ord := hl q (List.mem_of_getElem? hq)
    refine t_asgN ?_
    repeat walk_at "st"
    repeat walk_at "st"
    refine hQ2 _ _ _ ?_
    refine tri_hide fun Q20 hQ20 => ?_
    repeat walk_at "st"
    refine s_item inj (S4.mono sub_uni) hqo hqv ?_ (fun _ => by kernel_rfl)
    refine tri_mono (tri.frameG (s_setNp (X := noX) (Q := fun _ g' m' => m' = _ ∧ SH w nm g' a ord (put (fun i => if i ∈ l.take j then -1 else np i) q (-1)) sc (some l) po nf) T S4 hqo fun g' S' => ⟨rfl, S'⟩) d) fun _ g6 m6 p4 => ?_
    refine el_eaaa p4 fun g₆ eg6 hD6 em6 S6 => ?_; clear p4
    subst em6
    refine t_nil (hQ20 _ _ _ ⟨g₆, eg6, hD6, by walk_at "look", by walk_at "look", by walk_at "look", ?_⟩)
    have e2 : (put (fun i => if i ∈ l.take j then -1 else np i) q (-1)) = fun i => if i ∈ l.take (j + 1) then (-1 : Int) else np i := by
      funext i
      have etk : l.take (j + 1) = l.take j ++ [q] := by rw [List.take_add_one, hq]; rfl
      rw [etk]
      by_cases z : i = q
      · subst z; simp [put]
      · simp [put, z]
    rw [e2] at S6
    exact S6
  · subst e
    have e2 : l.take vs.length = l := by rw [hlen]; simp
    rw [e2] at S4
    repeat walk_at "st"
    refine s_getRd T (S4.mono sub_uni) ?_
    simp only [Option.isSome_some, if_true]
    refine el_ea (S4.rd l rfl) fun us yy1 hus => ?_
    obtain ⟨nr, hr'⟩ := yy1
    refine t_lmeth (items := us) ⟨nr, uni_l hr'⟩ PySem.F.slot_list_clear PySem.F.type_list_clear ?_
    repeat walk_at "st"
    refine tri_mono (tri.frameG (t_clear (X := noX) (Q := fun _ g' m' => m' = _ ∧ SH w nm g' a ord (fun i => if i ∈ l then -1 else np i) sc (some []) po nf) ⟨nr, hr'⟩ (by rw [hus.len]; walk_at "om") fun e => ⟨rfl, S4.setRd rfl SVs.nil⟩) d) fun _ g6 m6 p5 => ?_
    refine el_eaaa p5 fun g₆ eg6 hD6 em6 S6 => ?_; clear p5
    subst em6 eg6
    repeat walk_at "st"
    refine s_getPo T (S6.mono sub_uni) fun t1 => ?_
    repeat walk_at "st"
    refine t_lenT (.inl ⟨_, 0, uni_r hD6 hfT, rfl, rfl⟩) (by walk_at "om") fun t2 => ?_
    repeat walk_at "st"
    refine tri_mono (tri.frameG (s_setPo (X := noX) (Q := fun _ g' m' => m' = _ ∧ SH w nm g' a ord (fun i => if i ∈ l then -1 else np i) sc (some []) (po + vs.length) nf) T S6 fun g' S' => ⟨rfl, S'⟩) hD6) fun _ g7 m7 p6 => ?_
    refine el_eaaa p6 fun g₇ eg7 hD7 em7 S7 => ?_; clear p6
    subst em7 eg7
    repeat walk_at "st"
    rw [← hf] at hD7 ⊢
    refine (hQ1 _ _ _ ⟨g₇, t, vs, rfl, rfl, hD7, hvs, ?_⟩)
    rw [hlen] at S7
    exact S7
end
noncomputable section
variable {w : World} {H : Heap} {O : OsState} {g f : GH} {nm : Nat → Str} {a : SA} {ord : List Nat} {np : Nat → Int} {sc : Nat → List Nat} {po nf : Int} {l : List Nat}
abbrev NL : Type := (Nat → Int) × List Nat
def stepS (p : NL) (s : Nat) : NL := (put p.1 s (p.1 s - 1), if p.1 s - 1 = 0 then p.2 ++ [s] else p.2)
def doneN (sc : Nat → List Nat) (p : NL) (i : Nat) : NL := (sc i).foldl stepS (put p.1 i (-2), p.2)
def doneA (sc : Nat → List Nat) (p : NL) (ns : List Nat) : NL := ns.foldl (doneN sc) p
theorem stepS_len {p : NL} {s : Nat} : (stepS p s).2.length ≤ p.2.length + 1 := by unfold stepS; dsimp only; split <;> simp
theorem steps_len : ∀ (l : List Nat) (p : NL), (l.foldl stepS p).2.length ≤ p.2.length + l.length
  | [], p => by simp
  | s :: l, p => by
    have h1 := steps_len l (stepS p s)
    have h2 := @stepS_len p s
    simp only [List.foldl_cons, List.length_cons]
    walk_at "om"
theorem doneA_len {sc : Nat → List Nat} {b : Nat} (h : ∀ i, (sc i).length ≤ b) : ∀ (ns : List Nat) (p : NL), (doneA sc p ns).2.length ≤ p.2.length + b * ns.length
  | [], p => by simp [doneA]
  | i :: ns, p => by
    have h1 := doneA_len h ns (doneN sc p i)
    have h2 := steps_len (sc i) (put p.1 i (-2), p.2)
    have h3 := h i
    have e1 : doneA sc p (i :: ns) = doneA sc (doneN sc p i) ns := rfl
    have e2 : (doneN sc p i).2.length ≤ p.2.length + b := Nat.le_trans h2 (by dsimp only; walk_at "om")
    rw [e1, List.length_cons, Nat.mul_succ]
    walk_at "om"
section
variable {k : Nat} {hdl : Option Value} {X : ExcP} {env : Env} {m : LM} {rdy : Option (List Nat)}
theorem s_setNp2 {i : Nat} {n : Int} {t : Tok} {Q : Unit → GH → LM → Prop} (T : Tp (KK w.params) H) (S : SH w nm g a ord np sc rdy po nf) (hi : i ∈ ord) (h : ∀ g', SH w nm g' a ord (put np i n) sc rdy po nf → (∀ j ∈ ord, g' (a.sl j) = g (a.sl j)) → Q () g' m) : tri w H O k hdl X env (setAttr (.ref (a.info i)) (Str.ofString "npredecessors") (.int n t)) g m Q := by
  refine el_eeaa (S.nod i hi) fun v t h1 h2 h3 => ?_
  obtain ⟨ro, r⟩ := S.ro
  exact n_set1 T h2 h3 (h _ (S.setNp hi h1) fun j hj => gset_ne (ro_ne (r.sl j hj) (r.info i hi) (by simp)))
theorem s_appRd2 {j : Nat} {v : Value} {Q : Value → GH → LM → Prop} (S : SH w nm g a ord np sc (some l) po nf) (hv : SV nm j v) (hn : l.length ≤ 1000) (h : ∀ g', SH w nm g' a ord np sc (some (l ++ [j])) po nf → (∀ j ∈ ord, g' (a.sl j) = g (a.sl j)) → Q .none g' m) : tri w H O k hdl X env (call (.builtin "list.append") [.ref a.r, v]) g m Q := by
  refine el_ea (S.rd l rfl) fun vs h1 h2 => ?_
  obtain ⟨ro, r⟩ := S.ro
  exact t_app h1 (by rw [h2.len]; walk_at "om") fun e => h _ (S.setRd rfl (h2.snoc hv)) fun j hj => gset_ne (ro_ne (r.sl j hj) (r.r rfl) (by simp))
end
set_option maxHeartbeats 1000000 in
theorem f_done {k : Nat} {ns : List Nat} {us : List Value} (T : Tp (KK w.params) H) (inj : ∀ i j, nm i = nm j → i = j) (S : SH w nm g a ord np sc (some l) po nf) (hu : SVs nm ns us) (hno : ∀ i ∈ ns, i ∈ ord ∧ ∀ s ∈ sc i, s ∈ ord) (hst : ∀ j i, ns[j]? = some i → (doneA sc (np, l) (ns.take j)).1 i = -1) (hsc : ∀ i, (sc i).length ≤ 12) (hns : ns.length ≤ 12) (hl : l.length ≤ 12) :
    fnS w H O (k + 1) (.ref 120) ⟨.ref a.x :: us, []⟩ g (fun r g' => r = .none ∧ ∃ g₀ f, g' = uni g₀ f ∧ Disj g₀ f ∧ SH w nm g₀ a ord (doneA sc (np, l) ns).1 sc (some (doneA sc (np, l) ns).2) po (nf + ns.length)) no2 := by
  have hul := hu.len
  refine fn_introV (fd := fd120) (RX := no2) (vs := us) (binds := fun t => [(Str.ofString "self", .ref a.x), (Str.ofString "nodes", t)]) T rfl rfl (by kernel_rfl) rfl bind120 (by walk_at "om") rfl (by decide +kernel) (fun t => locs (by kernel_rfl)) (fun L tA hA => ?_) (by kernel_rfl) (by kernel_rfl) (by kernel_rfl)
  refine tri_hide fun Q1 hQ1 => ?_
  rw [b2]
  obtain ⟨eg, hD⟩ := gset_single (o := tup us 0) hA
  rw [eg]
  generalize hf : single tA (tup us 0) = f at hD
  have hfT : f tA = some (tup us 0) := by rw [← hf]; exact if_pos rfl
  refine t_cons ?_
  repeat walk_at "st"
  refine s_getRd T (S.mono sub_uni) ?_
  repeat walk_at "st"
  simp only [Option.isSome_some, if_true]
  first | with_reducible refine ite_F (show (Value.ref a.r == Value.none) = false from rfl) ?_ | (rw [show (Value.ref a.r == Value.none) = false from rfl]; simp only [Bool.false_eq_true, if_false])
  refine t_nil ?_
  refine t_cons ?_
  repeat walk_at "st"
  refine s_getN2i T (S.mono sub_uni) ?_
  repeat walk_at "st"
  refine t_for (fun _ => by kernel_rfl) ?_
  repeat walk_at "st"
  refine t_forP (n := us.length) (P := fun j u => us[j]? = some u) (Src := fun g => IsT' H g tA us) (fun j g' m' => ∃ g₀, g' = uni g₀ f ∧ Disj g₀ f ∧ m' (Str.ofString "self") = some (.ref a.x) ∧ m' (Str.ofString "n2i") = some (.ref a.d) ∧ SH w nm g₀ a ord (doneA sc (np, l) (ns.take j)).1 sc (some (doneA sc (np, l) (ns.take j)).2) po (nf + j))
    (Starts.tuple (.inl ⟨_, 0, uni_r hD hfT, rfl, rfl⟩)) (fun j g' m' z1 => by obtain ⟨g₀, e, d, _⟩ := z1; exact .inl ⟨tup us 0, 0, (congrFun e tA).trans (uni_r d hfT), rfl, rfl⟩) ⟨g, rfl, hD, by walk_at "look", by walk_at "look", by simpa [doneA] using S⟩ (fun j u g' m' hj hu' p3 => ?_) fun g' m' ⟨g₀, e, d, m1, m2, S4⟩ => t_nil (t_nil (hQ1 _ _ _ ⟨rfl, g₀, f, e, d, ?_⟩))
  · first | refine tri_hide fun Q2 hQ2 => ?_ | skip
    refine el_eaaaa p3 fun g₀ e d m1 m2 S4 => ?_; clear p3
    subst e
    refine el_ea (hu.get hu') fun q hq hqv => ?_
    have hqm : q ∈ ns := List.mem_of_getElem? hq
    obtain ⟨hqo, hqs⟩ := hno q hqm
    have hst' := hst j q hq
    have hlen := doneA_len hsc (ns.take j) (np, l)
    have e12 : (ns.take j).length ≤ 12 := by rw [List.length_take]; walk_at "om"
    have hlen2 : (doneA sc (np, l) (ns.take j)).2.length ≤ 12 + 12 * 12 := Nat.le_trans hlen (Nat.add_le_add hl (Nat.mul_le_mul (Nat.le_refl _) e12))
    have etk : ns.take (j + 1) = ns.take j ++ [q] := by rw [List.take_add_one, hq]; rfl
    have eda : doneA sc (np, l) (ns.take (j + 1)) = doneN sc (doneA sc (np, l) (ns.take j)) q := by rw [etk]; simp [doneA, List.foldl_append]
    rw [eda] at hQ2
    generalize hp : doneA sc (np, l) (ns.take j) = p at S4 hst' hlen2 hQ2
    obtain ⟨tq, rfl⟩ := hqv
    refine t_asgN ?_
    repeat walk_at "st"
    refine hQ2 _ _ _ ?_
    refine tri_hide fun Q20 hQ20 => ?_
    repeat walk_at "st"
    refine t_dmeth (S4.mono sub_uni).dict PySem.F.slot_dict_get PySem.F.type_dict_get ?_
    repeat walk_at "st"
    refine t_dget1 T (S4.mono sub_uni).dict ?_
    rw [vat_map (α := Unit) inj, if_pos hqo]
    repeat walk_at "st"
    simp only [Option.getD_some]
    first | with_reducible refine ite_F (show (Value.ref (a.info q) == Value.none) = false from rfl) ?_ | (rw [show (Value.ref (a.info q) == Value.none) = false from rfl]; simp only [Bool.false_eq_true, if_false])
    refine t_nil ?_
    refine t_cons ?_
    repeat walk_at "st"
    refine s_getNp T (S4.mono sub_uni) hqo fun t1 => ?_
    rw [hst']
    repeat walk_at "st"
    simp only [show ((-1 : Int) != -1) = false from rfl, Bool.false_eq_true, if_false]
    refine t_nil ?_
    refine t_cons ?_
    repeat walk_at "st"
    refine tri_mono (tri.frameG (s_setNp (X := noX) (Q := fun _ g' m' => m' = _ ∧ SH w nm g' a ord (put p.1 q (-2)) sc (some p.2) po (nf + j)) T S4 hqo fun g' S' => ⟨rfl, S'⟩) d) fun _ g6 m6 p4 => ?_
    refine el_eaaa p4 fun g₆ eg6 hD6 em6 S6 => ?_; clear p4
    subst em6 eg6
    refine t_cons ?_
    refine t_for (fun _ => by kernel_rfl) ?_
    repeat walk_at "st"
    refine s_getSc T (S6.mono sub_uni) hqo ?_
    refine el_ea (S6.suc q hqo) fun vs yy1 hss => ?_
    obtain ⟨nl, hvs⟩ := yy1
    have hvl := hss.len
    have hsq := hsc q
    refine t_forP (n := vs.length) (P := fun j u => vs[j]? = some u) (Src := fun g => IsL g (a.sl q) vs) (fun i g' m' => ∃ g₀, g' = uni g₀ f ∧ Disj g₀ f ∧ m' (Str.ofString "self") = some (.ref a.x) ∧ m' (Str.ofString "n2i") = some (.ref a.d) ∧ g₀ (a.sl q) = some (lst vs nl) ∧ SH w nm g₀ a ord (((sc q).take i).foldl stepS (put p.1 q (-2), p.2)).1 sc (some (((sc q).take i).foldl stepS (put p.1 q (-2), p.2)).2) po (nf + j))
      (Starts.list ⟨nl, uni_l hvs⟩) (fun i g' m' z2 => by obtain ⟨g₀, e, d, _, _, e2, _⟩ := z2; exact ⟨nl, (congrFun e _).trans (uni_l e2)⟩) ⟨g₆, rfl, hD6, by walk_at "look", by walk_at "look", hvs, by simpa using S6⟩ (fun i u g' m' hi hui p6 => ?_) fun g' m' ⟨g₀, e, d, m1, m2, hvs, S4⟩ => t_nil ?_
    · first | refine tri_hide fun Q5 hQ5 => ?_ | skip
      obtain ⟨g₀, e, d, m1, m2, hvs, S4⟩ := p6
      subst e
      refine el_ea (hss.get hui) fun z hz hzv => ?_
      have hzo : z ∈ ord := hqs z (List.mem_of_getElem? hz)
      have etk : (sc q).take (i + 1) = (sc q).take i ++ [z] := by rw [List.take_add_one, hz]; rfl
      have eda : ((sc q).take (i + 1)).foldl stepS (put p.1 q (-2), p.2) = stepS (((sc q).take i).foldl stepS (put p.1 q (-2), p.2)) z := by rw [etk, List.foldl_append]; rfl
      rw [eda] at hQ5
      have hl2 := steps_len ((sc q).take i) (put p.1 q (-2), p.2)
      have hl3 : ((sc q).take i).length ≤ 12 := by rw [List.length_take]; walk_at "om"
      generalize hr : ((sc q).take i).foldl stepS (put p.1 q (-2), p.2) = r at S4 hl2 hQ5
      dsimp only at hl2
      refine t_asgN ?_
      repeat walk_at "st"
      refine hQ5 _ _ _ ?_
      refine tri_hide fun Q50 hQ50 => ?_
      repeat walk_at "st"
      refine s_item inj (S4.mono sub_uni) hzo hzv ?_ (fun _ => by kernel_rfl)
      repeat walk_at "st"
      refine s_getNp T (S4.mono sub_uni) hzo fun t2 => ?_
      repeat walk_at "st"
      refine tri_mono (tri.frameG (s_setNp2 (X := noX) (Q := fun _ g' m' => m' = _ ∧ SH w nm g' a ord (put r.1 z (r.1 z - 1)) sc (some r.2) po (nf + j) ∧ ∀ j ∈ ord, g' (a.sl j) = g₀ (a.sl j)) T S4 hzo fun g' S' h' => ⟨rfl, S', h'⟩) d) fun _ g7 m7 p7 => ?_
      refine el_eaaaa p7 fun g₇ eg7 hD7 em7 S7 h7 => ?_; clear p7
      subst em7 eg7
      refine t_cons ?_
      repeat walk_at "st"
      refine s_getNp T (S7.mono sub_uni) hzo fun t3 => ?_
      rw [put_self]
      repeat walk_at "st"
      by_cases hz0 : r.1 z - 1 = 0
      · first | with_reducible refine ite_T (show (r.1 z - 1 == 0) = true by simpa using hz0) ?_ | (rw [show (r.1 z - 1 == 0) = true by simpa using hz0]; simp only [if_true])
        refine t_cons ?_
        repeat walk_at "st"
        refine s_getRd T (S7.mono sub_uni) ?_
        simp only [Option.isSome_some, if_true]
        refine el_ea (S7.rd _ rfl) fun us' yy2 hus => ?_
        obtain ⟨nr, hr'⟩ := yy2
        refine t_append (items := us') ⟨nr, uni_l hr'⟩ ?_
        repeat walk_at "st"
        refine tri_mono (tri.frameG (s_appRd2 (X := noX) (Q := fun _ g' m' => m' = _ ∧ SH w nm g' a ord (put r.1 z (r.1 z - 1)) sc (some (r.2 ++ [z])) po (nf + j) ∧ ∀ j ∈ ord, g' (a.sl j) = g₇ (a.sl j)) S7 hzv (by walk_at "om") fun g' S' h' => ⟨rfl, S', h'⟩) hD7) fun _ g8 m8 p8 => ?_
        refine el_eaaaa p8 fun g₈ eg8 hD8 em8 S8 h8 => ?_; clear p8
        subst em8 eg8
        refine t_nil (t_nil (hQ50 _ _ _ ⟨g₈, rfl, hD8, by walk_at "look", by walk_at "look", (h8 q hqo).trans ((h7 q hqo).trans hvs), ?_⟩))
        unfold stepS
        dsimp only
        rw [if_pos hz0]
        exact S8
      · first | with_reducible refine ite_F (show (r.1 z - 1 == 0) = false by simpa using hz0) ?_ | (rw [show (r.1 z - 1 == 0) = false by simpa using hz0]; simp only [Bool.false_eq_true, if_false])
        refine t_nil (t_nil (hQ50 _ _ _ ⟨g₇, rfl, hD7, by walk_at "look", by walk_at "look", (h7 q hqo).trans hvs, ?_⟩))
        unfold stepS
        dsimp only
        rw [if_neg hz0]
        exact S7
    · subst e
      rw [show (sc q).take vs.length = sc q by rw [hvl]; simp] at S4
      refine t_cons ?_
      repeat walk_at "st"
      refine s_getNf T (S4.mono sub_uni) fun t4 => ?_
      repeat walk_at "st"
      refine tri_mono (tri.frameG (s_setNf (X := noX) (Q := fun _ g' m' => m' = _ ∧ SH w nm g' a ord ((sc q).foldl stepS (put p.1 q (-2), p.2)).1 sc (some ((sc q).foldl stepS (put p.1 q (-2), p.2)).2) po (nf + j + 1)) T S4 fun g' S' => ⟨rfl, S'⟩) d) fun _ g8 m8 p9 => ?_
      refine el_eaaa p9 fun g₈ eg8 hD8 em8 S8 => ?_; clear p9
      subst em8 eg8
      refine t_nil (hQ20 _ _ _ ⟨g₈, rfl, hD8, by walk_at "look", by walk_at "look", ?_⟩)
      rw [show nf + (j + 1 : Nat) = nf + j + 1 by walk_at "om"]
      exact S8
  · have e2 : ns.take us.length = ns := by rw [hul]; simp
    rw [e2, hul] at S4
    exact S4
end
noncomputable section
variable {w : World} {H : Heap} {O : OsState} {g f : GH} {nm : Nat → Str} {a : SA} {ord : List Nat} {np : Nat → Int} {sc : Nat → List Nat} {po nf : Int} {l : List Nat}
theorem f_doneX {k : Nat} {i : Nat} {v : Value} (T : Tp (KK w.params) H) (inj : ∀ i j, nm i = nm j → i = j) (S : SH w nm g a ord np sc (some l) po nf) (hv : SV nm i v) (hi : i ∈ ord) (hst : 0 ≤ np i) (hre : (reprText (nm i)).length ≤ 1000) :
    fnS w H O (k + 1) (.ref 120) ⟨[.ref a.x, v], []⟩ g no2 (fun c g' => c = .type "ValueError" ∧ ∃ f, g' = uni g f ∧ Disj g f) := by
  obtain ⟨tq, rfl⟩ := hv
  refine fn_introV (fd := fd120) (RX := fun c g' => c = .type "ValueError" ∧ ∃ f, g' = uni g f ∧ Disj g f) (vs := [.str (nm i) tq]) (binds := fun t => [(Str.ofString "self", .ref a.x), (Str.ofString "nodes", t)]) T rfl rfl (by kernel_rfl) rfl bind120 (by simp) rfl (by decide +kernel) (fun t => locs (by kernel_rfl)) (fun L tA hA => ?_) (by kernel_rfl) (by kernel_rfl) (by kernel_rfl)
  refine tri_hide fun Q1 hQ1 => ?_
  rw [b2]
  obtain ⟨eg, hD⟩ := gset_single (o := tup [.str (nm i) tq] 0) hA
  rw [eg]
  generalize hf : single tA (tup [.str (nm i) tq] 0) = f at hD
  have hfT : f tA = some (tup [.str (nm i) tq] 0) := by rw [← hf]; exact if_pos rfl
  refine t_cons ?_
  repeat walk_at "st"
  refine s_getRd T (S.mono sub_uni) ?_
  repeat walk_at "st"
  simp only [Option.isSome_some, if_true]
  first | with_reducible refine ite_F (show (Value.ref a.r == Value.none) = false from rfl) ?_ | (rw [show (Value.ref a.r == Value.none) = false from rfl]; simp only [Bool.false_eq_true, if_false])
  refine t_nil ?_
  refine t_cons ?_
  repeat walk_at "st"
  refine s_getN2i T (S.mono sub_uni) ?_
  repeat walk_at "st"
  refine t_for (fun _ => by kernel_rfl) ?_
  repeat walk_at "st"
  refine t_forX rfl (n := 1) (fun j g' m' => j = 0 ∧ g' = uni g f ∧ m' (Str.ofString "self") = some (.ref a.x) ∧ m' (Str.ofString "n2i") = some (.ref a.d))
    (Starts.tuple (items := [.str (nm i) tq]) (.inl ⟨_, 0, uni_r hD hfT, rfl, rfl⟩)) (fun j g' m' z1 => by obtain ⟨_, e, _⟩ := z1; exact .inl ⟨tup _ 0, 0, (congrFun e tA).trans (uni_r hD hfT), rfl, rfl⟩) ⟨rfl, rfl, by walk_at "look", by walk_at "look"⟩ (fun j u new g' m' hj p3 p4 _ => ?_) fun g' m' ⟨h, _⟩ => by cases h
  first | refine tri_hide fun Q2 hQ2 => ?_ | skip
  obtain ⟨hu', hnw⟩ := p3
  refine el_aaa p4 fun hj0 e m1 m2 => ?_; clear p4
  subst hj0 e hnw
  cases hu'
  refine t_asgN ?_
  repeat walk_at "st"
  refine hQ2 _ _ _ ?_
  refine tri_hide fun Q20 hQ20 => ?_
  repeat walk_at "st"
  refine t_dmeth (S.mono sub_uni).dict PySem.F.slot_dict_get PySem.F.type_dict_get ?_
  repeat walk_at "st"
  refine t_dget1 T (S.mono sub_uni).dict ?_
  rw [vat_map (α := Unit) inj, if_pos hi]
  repeat walk_at "st"
  simp only [Option.getD_some]
  first | with_reducible refine ite_F (show (Value.ref (a.info i) == Value.none) = false from rfl) ?_ | (rw [show (Value.ref (a.info i) == Value.none) = false from rfl]; simp only [Bool.false_eq_true, if_false])
  refine t_nil ?_
  refine t_cons ?_
  repeat walk_at "st"
  refine s_getNp T (S.mono sub_uni) hi fun t1 => ?_
  repeat walk_at "st"
  first | with_reducible refine ite_T (show (np i != -1) = true by simp; walk_at "om") ?_ | (rw [show (np i != -1) = true by simp; walk_at "om"]; simp only [if_true])
  refine t_cons ?_
  repeat walk_at "st"
  first | with_reducible refine ite_T (show decide ((0 : Int) ≤ np i) = true by simpa using hst) ?_ | (rw [show decide ((0 : Int) ≤ np i) = true by simpa using hst]; simp only [if_true])
  refine t_cons ?_
  refine t_raiseV (by kernel_rfl) (by kernel_rfl) ?_
  repeat walk_at "st"
  refine ⟨rfl, ?_⟩
  repeat walk_at "st"
  refine t_joinedR (by decide +kernel) (by decide +kernel) ?_
  repeat walk_at "st"
  refine ⟨nm i, tq, rfl, hre, fun y t' => ?_⟩
  repeat walk_at "st"
  exact ⟨by simp, rfl, f, rfl, hD⟩
theorem meets_boolL (l : Addr) : Meets (Builtin.«bool.__new__» ⟨[.type "bool", .ref l], []⟩) (fun _ R s => s.heap.IsList l #[] ∧ ∀ tk, R (.ok (.ret (.bool false))) { s with toks := tk }) :=
  Meets.of_wp fun prog w A R s hs => by
    obtain ⟨hp, g, d, tk, os⟩ := s
    obtain ⟨hl, h⟩ := hs
    have f1 := PySem.F.conv_sub_bool
    have key : ∀ (A' : Around) (Q : Bool → Shared → Prop) (E : Value → Shared → Prop), (∀ tk, Q false ⟨hp, g, d, tk, os⟩) → wpAny (model prog w) A' (truthy (.ref l)) Q E ⟨hp, g, d, tk, os⟩ := fun A' Q E q => wpAny_truthy_list hl (by decide) (by simpa using q _)
    repeat (any_goals (first | assumption | (with_reducible apply key; intro _) | wp_step))
    all_goals first | exact ⟨_, rfl, h _⟩ | skip
section
variable {k : Nat} {hdl : Option Value} {X : ExcP} {env : Env} {m : LM}
theorem t_boolL {l : Addr} {Q : Value → GH → LM → Prop} (hl : IsL g l []) (h : Q (.bool false) g m) : tri w H O k hdl X env (call (.type "bool") [.ref l] []) g m Q :=
  tri_val (fun A fs base s P E a R F q => callType_new PySem.F.called_bool PySem.F.newNe_bool (PySem.F.typeCall_bool_1 _) (PySem.F.newCall_bool_1 _) (fun obj => PySem.F.args_object_init_2 obj _) PySem.F.entry_bool_new (meets_boolL l) ⟨hl.at R, fun tk => ⟨rfl, q tk⟩⟩) h
theorem t_or2 {e₁ e₂ : Expr} {pos : Pos} {Q : Value → GH → LM → Prop} (h : tri w H O k hdl X env (eval e₁ env) g m fun v g₁ m₁ => tri w H O k hdl X env (truthy v) g₁ m₁ fun c g₂ m₂ => if c = true then Q v g₂ m₂ else tri w H O k hdl X env (eval e₂ env) g₂ m₂ Q) : tri w H O k hdl X env (eval (.BoolOp .Or [e₁, e₂] pos) env) g m Q := .mk fun A fs base s a R F => by
  refine BoolOp_or (wpAny_mono (h.run A fs base s a R F) (fun v s₁ ⟨g₁, m₁, R1, F1, q⟩ => wpAny_mono (q.run A fs base s₁ a R1 F1) (fun c s₂ ⟨g₂, m₂, R2, F2, q⟩ => ?_) fun _ _ x => x) fun _ _ x => x)
  cases c with
  | true => exact ⟨g₂, m₂, R2, F2, q⟩
  | false => exact BoolOp_one (q.run A fs base s₂ a R2 F2)
end
theorem f_active {k : Nat} (T : Tp (KK w.params) H) (S : SH w nm g a ord np sc (some []) po po) : fnS w H O (k + 1) (.ref 106) ⟨[.ref a.x], []⟩ g (fun r g' => r = .bool false ∧ g' = g) no2 := by
  refine fn_intro (fd := fd106) (binds := [(Str.ofString "self", .ref a.x)]) T rfl rfl (by kernel_rfl) rfl (fun s => BindsTo.of_eq (by kernel_rfl)) rfl (by decide +kernel) (locs (by kernel_rfl)) (fun L => ?_) (by kernel_rfl) (by kernel_rfl) (by kernel_rfl)
  refine tri_hide fun Q1 hQ1 => ?_
  rw [b1]
  refine t_cons ?_
  repeat walk_at "st"
  refine s_getRd T S ?_
  repeat walk_at "st"
  simp only [Option.isSome_some, if_true]
  first | with_reducible refine ite_F (show (Value.ref a.r == Value.none) = false from rfl) ?_ | (rw [show (Value.ref a.r == Value.none) = false from rfl]; simp only [Bool.false_eq_true, if_false])
  refine t_nil ?_
  refine t_cons ?_
  repeat walk_at "st"
  refine t_or2 ?_
  repeat walk_at "st"
  refine s_getNf T S fun t1 => ?_
  repeat walk_at "st"
  refine s_getPo T S fun t2 => ?_
  repeat walk_at "st"
  first | with_reducible refine ite_F (show decide (po < po) = false by simp) ?_ | (rw [show decide (po < po) = false by simp]; simp only [Bool.false_eq_true, if_false])
  repeat walk_at "st"
  refine s_getRd T S ?_
  repeat walk_at "st"
  simp only [Option.isSome_some, if_true]
  refine el_ea (S.rd [] rfl) fun us yy1 hus => ?_
  obtain ⟨nr, hr⟩ := yy1
  have : us = [] := List.eq_nil_of_length_eq_zero (by rw [hus.len]; rfl)
  subst this
  exact t_boolL ⟨nr, hr⟩ (hQ1 _ _ _ ⟨rfl, rfl⟩)
end
noncomputable section
structure PInv (ord : List Nat) (sc : Nat → List Nat) (st : List Nat) (ps : Nat → Nat) (fin : List Nat) (pend : Option Nat) : Prop where
  nd : st.Nodup
  ino : ∀ v ∈ st, v ∈ ord
  dis : ∀ v ∈ st, v ∉ fin
  chain : ∀ (j u v : Nat), st[j]? = some u → st[j + 1]? = some v → v ∈ sc u
  taken : ∀ (j u m s : Nat), st[j]? = some u → m < ps u → (sc u)[m]? = some s → s ∈ fin ∨ st[j + 1]? = some s ∨ (j + 1 = st.length ∧ pend = some s)
  finp : ∀ (k v : Nat), fin[k]? = some v → ∀ s ∈ sc v, ∃ k' : Nat, k' < k ∧ fin[k']? = some s
  pen : ∀ v, pend = some v → v ∈ ord ∧ ∀ u, st.getLast? = some u → v ∈ sc u
def Cyc (sc : Nat → List Nat) : Prop := ∃ (p : Nat → Nat) (n : Nat), 0 < n ∧ p n = p 0 ∧ ∀ i, i < n → p (i + 1) ∈ sc (p i)
def Acyc (ord : List Nat) (sc : Nat → List Nat) : Prop := ∃ r : Nat → Nat, ∀ v ∈ ord, ∀ s ∈ sc v, r s < r v
section
variable {ord : List Nat} {sc : Nat → List Nat} {st : List Nat} {ps : Nat → Nat} {fin : List Nat} {pend : Option Nat} {u v s : Nat}
theorem get_snoc {l : List Nat} {x y j : Nat} (h : (l ++ [x])[j]? = some y) : (l[j]? = some y ∧ j < l.length) ∨ (j = l.length ∧ y = x) := by
  rcases Nat.lt_trichotomy j l.length with q | q | q
  · rw [List.getElem?_append_left q] at h; exact .inl ⟨h, q⟩
  · subst q; simp at h; exact .inr ⟨rfl, h.symm⟩
  · rw [List.getElem?_eq_none (by simp; walk_at "om")] at h; cases h
theorem lt_of_get {l : List Nat} {y j : Nat} (h : l[j]? = some y) : j < l.length := (List.getElem?_eq_some_iff.mp h).1
theorem PInv.push (P : PInv ord sc st ps fin (some v)) (h1 : v ∉ fin) (h2 : v ∉ st) : PInv ord sc (st ++ [v]) (put ps v 0) fin none := by
  refine ⟨?_, fun u hu => ?_, fun u hu => ?_, fun j u w hj hw => ?_, fun j u m s hj hm hs => ?_, P.finp, fun _ h => nomatch h⟩
  · exact List.nodup_append.mpr ⟨P.nd, by simp, fun a ha b hb => by simp at hb; subst hb; exact fun q => h2 (q ▸ ha)⟩
  · rcases List.mem_append.mp hu with q | q
    · exact P.ino u q
    · simp at q; subst q; exact (P.pen _ rfl).1
  · rcases List.mem_append.mp hu with q | q
    · exact P.dis u q
    · simp at q; subst q; exact h1
  · rcases get_snoc hj with ⟨a, ha⟩ | ⟨ha, rfl⟩
    · rcases get_snoc hw with ⟨b, hb⟩ | ⟨hb, rfl⟩
      · exact P.chain j u w a b
      · refine (P.pen _ rfl).2 u ?_
        rw [List.getLast?_eq_getElem?, ← hb]; exact a
    · have := lt_of_get hw; simp at this; walk_at "om"
  · rcases get_snoc hj with ⟨a, ha⟩ | ⟨ha, rfl⟩
    · have hne : u ≠ v := fun q => h2 (q ▸ List.mem_of_getElem? a)
      rw [put_ne hne] at hm
      rcases P.taken j u m s a hm hs with q | q | ⟨q, q2⟩
      · exact .inl q
      · right; left; rw [List.getElem?_append_left (lt_of_get q)]; exact q
      · right; left; cases q2; rw [q]; simp
    · rw [put_self] at hm; exact absurd hm (Nat.not_lt_zero _)
theorem PInv.skip (P : PInv ord sc st ps fin (some v)) (h : v ∈ fin) : PInv ord sc st ps fin none :=
  ⟨P.nd, P.ino, P.dis, P.chain, fun j u m s hj hm hs => (P.taken j u m s hj hm hs).elim .inl fun q => q.elim (fun q => .inr (.inl q)) fun ⟨q, e⟩ => .inl (by cases e; exact h), P.finp, fun _ h => nomatch h⟩
theorem PInv.advance (P : PInv ord sc st ps fin none) (hu : st.getLast? = some u) (hs : (sc u)[ps u]? = some s) (ho : s ∈ ord) : PInv ord sc st (put ps u (ps u + 1)) fin (some s) := by
  rw [List.getLast?_eq_getElem?] at hu
  refine ⟨P.nd, P.ino, P.dis, P.chain, fun j u' m s' hj hm hs' => ?_, P.finp, fun v hv => ?_⟩
  · by_cases q : u' = u
    · subst q
      rw [put_self] at hm
      have hjj : j = st.length - 1 := by
        have h1 := lt_of_get hj
        have h2 := lt_of_get hu
        rw [List.getElem?_eq_getElem h1] at hj
        rw [List.getElem?_eq_getElem h2] at hu
        exact (List.getElem_inj P.nd).mp ((Option.some.inj hj).trans (Option.some.inj hu).symm)
      by_cases hmm : m = ps u'
      · subst hmm; rw [hs] at hs'; cases hs'; have := lt_of_get hj; exact .inr (.inr ⟨by walk_at "om", rfl⟩)
      · rcases P.taken j u' m s' hj (by walk_at "om") hs' with z | z | ⟨z, e⟩
        · exact .inl z
        · exact .inr (.inl z)
        · cases e
    · rw [put_ne q] at hm
      rcases P.taken j u' m s' hj hm hs' with z | z | ⟨z, e⟩
      · exact .inl z
      · exact .inr (.inl z)
      · cases e
  · cases hv
    refine ⟨ho, fun u' h' => ?_⟩
    rw [List.getLast?_eq_getElem?, hu] at h'; cases h'
    exact List.mem_of_getElem? hs
theorem PInv.pop (P : PInv ord sc (st ++ [u]) ps fin none) (h : (sc u).length ≤ ps u) : PInv ord sc st ps (fin ++ [u]) none := by
  have hn := List.nodup_append.mp P.nd
  have hun : u ∉ st := fun z => hn.2.2 u z u (by simp) rfl
  refine ⟨hn.1, fun v hv => P.ino v (List.mem_append_left _ hv), fun v hv => ?_, fun j a b ha hb => P.chain j a b (by rw [List.getElem?_append_left (lt_of_get ha)]; exact ha) (by rw [List.getElem?_append_left (lt_of_get hb)]; exact hb), fun j a m s ha hm hs => ?_, fun k v hk s hs => ?_, fun _ h => nomatch h⟩
  · have h1 := P.dis v (List.mem_append_left _ hv)
    simp only [List.mem_append, List.mem_singleton, not_or]
    exact ⟨h1, fun q => hun (q ▸ hv)⟩
  · rcases P.taken j a m s (by rw [List.getElem?_append_left (lt_of_get ha)]; exact ha) hm hs with q | q | ⟨_, q⟩
    · exact .inl (List.mem_append_left _ q)
    · rcases get_snoc q with ⟨z, _⟩ | ⟨_, rfl⟩
      · exact .inr (.inl z)
      · exact .inl (by simp)
    · cases q
  · rcases get_snoc hk with ⟨z, hz⟩ | ⟨hz, rfl⟩
    · refine el_ea (P.finp k v z s hs) fun k' h1 h2 => ?_
      exact ⟨k', h1, by rw [List.getElem?_append_left (lt_of_get h2)]; exact h2⟩
    · obtain ⟨m, hm⟩ := List.getElem?_of_mem hs
      have hml := lt_of_get hm
      rcases P.taken st.length v m s (by simp) (by walk_at "om") hm with q | q | ⟨_, q⟩
      · obtain ⟨k', hk'⟩ := List.getElem?_of_mem q
        exact ⟨k', by have := lt_of_get hk'; walk_at "om", by rw [List.getElem?_append_left (lt_of_get hk')]; exact hk'⟩
      · rw [List.getElem?_eq_none (by simp)] at q; cases q
      · cases q
theorem PInv.cyc (P : PInv ord sc st ps fin (some v)) (h : v ∈ st) : Cyc sc := by
  obtain ⟨i, hi⟩ := List.getElem?_of_mem h
  have hil := lt_of_get hi
  refine ⟨fun j => if i + j < st.length then st.getD (i + j) 0 else v, st.length - i, by walk_at "om", ?_, fun j hj => ?_⟩
  · have e : st.getD i 0 = v := by rw [List.getD_eq_getElem?_getD, hi]; rfl
    dsimp only
    rw [if_neg (by walk_at "om"), if_pos (by walk_at "om"), Nat.add_zero, e]
  · have h1 : i + j < st.length := by walk_at "om"
    dsimp only
    rw [if_pos h1]
    have g1 : st[i + j]? = some (st.getD (i + j) 0) := by rw [List.getD_eq_getElem?_getD, List.getElem?_eq_getElem h1]; rfl
    by_cases h2 : i + (j + 1) < st.length
    · rw [if_pos h2]
      refine P.chain (i + j) _ _ g1 ?_
      rw [List.getD_eq_getElem?_getD, show i + j + 1 = i + (j + 1) by walk_at "om", List.getElem?_eq_getElem h2]; rfl
    · rw [if_neg h2]
      refine (P.pen v rfl).2 _ ?_
      rw [List.getLast?_eq_getElem?, show st.length - 1 = i + j by walk_at "om"]; exact g1
theorem PInv.acyc (P : PInv ord sc st ps fin pend) (h : ∀ v ∈ ord, v ∈ fin) : Acyc ord sc := by
  have key : ∀ n v, fin.idxOf v = n → v ∈ fin → ∀ s ∈ sc v, fin.idxOf s < fin.idxOf v := fun n v _ hv s hs => by
    have hl := List.idxOf_lt_length_of_mem hv
    have hg : fin[fin.idxOf v]? = some v := by rw [List.getElem?_eq_getElem hl, List.getElem_idxOf hl]
    refine el_ea (P.finp _ v hg s hs) fun k' h1 h2 => ?_
    have : fin.idxOf s ≤ k' := by
      have h3 := lt_of_get h2
      rw [List.getElem?_eq_getElem h3] at h2
      have e : fin[k'] = s := Option.some.inj h2
      have : s ∈ fin.take (k' + 1) := by rw [← e]; exact List.mem_take_iff_getElem.mpr ⟨k', by walk_at "om", rfl⟩
      have h5 := List.idxOf_lt_length_of_mem this
      have h6 : fin.idxOf s = (fin.take (k' + 1)).idxOf s := by
        conv => lhs; rw [← List.take_append_drop (k' + 1) fin]
        rw [List.idxOf_append, if_pos this]
      rw [List.length_take] at h5
      walk_at "om"
    walk_at "om"
  exact ⟨fun v => fin.idxOf v, fun v hv s hs => key _ v rfl (h v hv) s hs⟩
theorem PInv.start (P : PInv ord sc [] ps fin none) (h : v ∈ ord) : PInv ord sc [] ps fin (some v) :=
  ⟨P.nd, P.ino, P.dis, P.chain, fun j u m s hj => by simp at hj, P.finp, fun x hx => by cases hx; exact ⟨h, fun u hu => by simp at hu⟩⟩
theorem PInv.zero : PInv ord sc [] ps [] none :=
  ⟨by simp, by simp, by simp, by simp, by simp, by simp, by simp⟩
def phi (sc : Nat → List Nat) (st : List Nat) (ps : Nat → Nat) (fin : List Nat) (i : Nat) : Nat := if i ∈ fin then 0 else if i ∈ st then (sc i).length - ps i else (sc i).length + 1
def Phi (ord : List Nat) (sc : Nat → List Nat) (st : List Nat) (ps : Nat → Nat) (fin : List Nat) : Nat := (ord.map (phi sc st ps fin)).sum
theorem sum_le {f h : Nat → Nat} : ∀ {l : List Nat}, (∀ i ∈ l, f i ≤ h i) → (l.map f).sum ≤ (l.map h).sum
  | [], _ => by simp
  | i :: l, hl => by
    have h1 := sum_le fun j hj => hl j (.tail _ hj)
    have h2 := hl i (.head _)
    simp only [List.map_cons, List.sum_cons]; walk_at "om"
theorem sum_lt {f h : Nat → Nat} {i : Nat} : ∀ {l : List Nat}, (∀ i ∈ l, f i ≤ h i) → i ∈ l → f i < h i → (l.map f).sum < (l.map h).sum
  | j :: l, hl, hi, hlt => by
    have h2 := hl j (.head _)
    simp only [List.map_cons, List.sum_cons]
    rcases List.mem_cons.mp hi with rfl | hi
    · have h1 := sum_le fun j hj => hl j (.tail _ hj)
      walk_at "om"
    · have h1 := sum_lt (fun j hj => hl j (.tail _ hj)) hi hlt
      walk_at "om"
theorem Phi_push (h0 : v ∈ ord) (h1 : v ∉ fin) (h2 : v ∉ st) : Phi ord sc (st ++ [v]) (put ps v 0) fin < Phi ord sc st ps fin := by
  have e : ∀ i, i ≠ v → phi sc (st ++ [v]) (put ps v 0) fin i = phi sc st ps fin i := fun i hi => by
    unfold phi; simp [hi, put]
  have ev : phi sc (st ++ [v]) (put ps v 0) fin v < phi sc st ps fin v := by unfold phi; simp [h1, h2, put]
  refine sum_lt (i := v) (fun i hi => ?_) h0 ev
  by_cases q : i = v
  · subst q; exact Nat.le_of_lt ev
  · rw [e i q]; exact Nat.le_refl _
theorem Phi_advance (h0 : v ∈ ord) (h1 : v ∉ fin) (h2 : v ∈ st) (h3 : ps v < (sc v).length) : Phi ord sc st (put ps v (ps v + 1)) fin < Phi ord sc st ps fin := by
  have e : ∀ i, i ≠ v → phi sc st (put ps v (ps v + 1)) fin i = phi sc st ps fin i := fun i hi => by
    unfold phi; simp [hi, put]
  have ev : phi sc st (put ps v (ps v + 1)) fin v < phi sc st ps fin v := by unfold phi; simp [h1, h2, put]; walk_at "om"
  refine sum_lt (i := v) (fun i hi => ?_) h0 ev
  by_cases q : i = v
  · subst q; exact Nat.le_of_lt ev
  · rw [e i q]; exact Nat.le_refl _
theorem Phi_pop : Phi ord sc st ps (fin ++ [u]) ≤ Phi ord sc (st ++ [u]) ps fin := by
  refine sum_le fun i _ => ?_
  unfold phi
  by_cases h1 : i ∈ fin
  · simp [h1]
  · by_cases h2 : i = u
    · simp [h2]
    · simp [h1, h2]
end
end
noncomputable section
section
variable {α β : Type} {w : World} {H : Heap} {O : OsState} {k : Nat} {hdl hd : Option Value} {X : ExcP} {env : Env} {g : GH} {m : LM} {K : Frag}
theorem t_idxLast {value slice : Expr} {l : Addr} {items : List Value} {u : Tok} {v : Value} {Q : Value → GH → LM → Prop} (hl : IsL g l (items ++ [v])) (h : Q v g m)
    (hs : subscripted slice false (.ref l) (.int (-1) u) = operate [.ref l, .int (-1) u] (getItem (.ref l) (.int (-1) u))) : tri w H O k hd X env (subscriptTail value slice (.ref l) (.int (-1) u)) g m Q :=
  tri_val (fun A fs base s P E a R F q => tail_any (hl.at R).typeIs slot_list_getitem.lookup (wpAny_getItem_list_neg (hl.at R) (by decide) (by simp; walk_at "om") (by decide) (by simp [show ((-1 : Int) + ((items.length : Int) + 1)).toNat = items.length by walk_at "om"]) (q s.toks)) hs) h
theorem t_delS {o i : Expr} {p' pos : Pos} {Q : Flow → GH → LM → Prop}
    (h : tri w H O k hdl X env (eval o env) g m fun ov g₁ m₁ => tri w H O k hdl X env (eval i env) g₁ m₁ fun iv g₂ m₂ => tri w H O k hdl X env (delItem ov iv) g₂ m₂ fun _ g₃ m₃ => Q .next g₃ m₃) : tri w H O k hdl X env (exec (.Delete [.Subscript o i p'] pos) env) g m Q := by
  refine tri_eq (arm_exec_Delete _ _ _) (tri_bind (tri_standAt (tri_bind ?_)))
  refine tri_eq (arm_deleteEach_cons _ _ _) (tri_bind ?_)
  refine tri_eq (arm_delete_Subscript o i p' env) (tri_bind (tri_mono h fun ov g₁ m₁ q => tri_bind (tri_holding (tri_mono q fun iv g₂ m₂ q => tri_bind (tri_standAt (tri_bind (tri_holding (tri_mono q fun _ g₃ m₃ q => t_release ?_))))))))
  exact tri_eq (arm_deleteEach_nil _) (tri_pure (tri_pure q))
end
section
variable {kvs : List (Str × Value)} {x y : Str} {v : Value}
theorem vat_without_self : valueAt (without kvs x) x = none := by
  unfold valueAt without
  rw [Option.map_eq_none_iff, List.find?_eq_none]
  intro z hz
  have := (List.mem_filter.mp hz).2
  simpa using this
theorem vat_without_ne (h : y ≠ x) : valueAt (without kvs x) y = valueAt kvs y := by
  unfold valueAt without
  rw [List.find?_filter]
  congr 1
  congr 1
  funext z
  by_cases q : z.1 = y
  · simp [q, h]
  · simp [q]
theorem vat_snoc : valueAt (kvs ++ [(x, v)]) y = (valueAt kvs y).or (if y = x then some v else none) := by
  unfold valueAt
  rw [List.find?_append]
  cases kvs.find? fun kv => kv.1 = y with
  | some p => rfl
  | none =>
    by_cases h : y = x
    · subst h; simp
    · simp [h, show ¬ x = y from fun z => h z.symm]
end
theorem ne_cls {g : GH} {a b : Addr} {o o' : Obj} (h1 : g a = some o) (h2 : g b = some o') (h : o.cls ≠ o'.cls) : a ≠ b := fun e => h (by rw [e, h2] at h1; cases h1; rfl)
theorem nodup_le : ∀ {l l' : List Nat}, l.Nodup → (∀ x ∈ l, x ∈ l') → l.length ≤ l'.length
  | [], _, _, _ => Nat.zero_le _
  | x :: l, l', hn, h => by
    have h1 : x ∈ l' := h x (.head _)
    have h2 := nodup_le (l := l) (l' := l'.erase x) (List.nodup_cons.mp hn).2 fun y hy => (List.mem_erase_of_ne (fun (e : y = x) => (List.nodup_cons.mp hn).1 (by rw [← e]; exact hy))).mpr (h y (.tail _ hy))
    rw [List.length_erase_of_mem h1] at h2
    have := List.length_pos_of_mem h1
    simp only [List.length_cons]; walk_at "om"
theorem IsD.cls {w : World} {g : GH} {d : Addr} {kvs : List (Str × Value)} (h : IsD w g d kvs) : ∃ o, g d = some o ∧ o.cls = .type "dict" := by
  obtain ⟨o, e, es, ep, hx, _⟩ := h
  exact ⟨o, e, hx.1⟩
theorem IsS.cls {w : World} {g : GH} {d : Addr} {S : Str → Bool} {n : Nat} (h : IsS w g d S n) : ∃ o, g d = some o ∧ o.cls = .type "set" := by
  refine el_eaa h fun o e hx _ => ?_; clear h
  exact ⟨o, e, hx.1⟩
end
noncomputable section
local macro_rules | `(tactic| walk_at "cne") => `(tactic| (show Value.type _ ≠ Value.type _; decide))
variable {w : World} {H : Heap} {O : OsState} {g gp gp' : GH} {nm : Nat → Str} {a : SA} {ord : List Nat} {np : Nat → Int} {sc : Nat → List Nat} {po nf : Int} {rdy : Option (List Nat)} {st fin : List Nat} {ps : Nat → Nat} {u v : Nat}
structure CO where
  (ls li ss dd : Addr)
  (q ia : Nat → Addr)
structure CH (w : World) (nm : Nat → Str) (g : GH) (a : SA) (ord : List Nat) (c : CO) (st : List Nat) (ps : Nat → Nat) (fin : List Nat) (gp : GH) : Prop where
  sub : Sub g gp
  fr : ∀ b ∈ [c.ls, c.li, c.ss, c.dd], g b = none
  fq : ∀ i ∈ st, g (c.ia i) = none
  stk : ∃ vs, IsL gp c.ls vs ∧ SVs nm st vs
  its : IsL gp c.li (st.map fun i => .ref (c.q i))
  qs : ∀ i ∈ st, gp (c.q i) = some (wrapO (c.ia i)) ∧ gp (c.ia i) = some (iterAt (a.sl i) (ps i))
  ij : ∀ i ∈ st, ∀ j ∈ st, c.ia i = c.ia j → i = j
  ne : c.ls ≠ c.li
  seen : ∃ S, IsS w gp c.ss S (fin.length + st.length) ∧ ∀ i, S (nm i) = decide (i ∈ fin ∨ i ∈ st)
  di : ∃ kvs, IsD w gp c.dd kvs ∧ kvs.length ≤ fin.length + st.length ∧ ∀ i, (i ∈ st → ∃ j t, valueAt kvs (nm i) = some (.int j t)) ∧ (i ∉ st → valueAt kvs (nm i) = none)
  fnd : (fin ++ st).Nodup ∧ ∀ v ∈ fin ++ st, v ∈ ord
theorem CH.cls (C : CH w nm g a ord c st ps fin gp) : (∃ o, gp c.ls = some o ∧ o.cls = .type "list") ∧ (∃ o, gp c.li = some o ∧ o.cls = .type "list") ∧ (∃ o, gp c.ss = some o ∧ o.cls = .type "set") ∧ (∃ o, gp c.dd = some o ∧ o.cls = .type "dict") := by
  refine el_ea C.stk fun vs yy1 _ => ?_
  obtain ⟨n, e⟩ := yy1
  obtain ⟨n', e'⟩ := C.its
  refine el_ea C.seen fun S hS _ => ?_
  refine el_ea C.di fun kvs hd _ => ?_
  exact ⟨⟨_, e, rfl⟩, ⟨_, e', rfl⟩, hS.cls, hd.cls⟩
theorem CH.len (C : CH w nm g a ord c st ps fin gp) : fin.length + st.length ≤ ord.length := by
  have := nodup_le C.fnd.1 C.fnd.2
  simpa using this
theorem CH.subOf (C : CH w nm g a ord c st ps fin gp) (h : ∀ b, b ∉ [c.ls, c.li, c.ss, c.dd] → ∀ o, g b = some o → gp' b = gp b) : Sub g gp' := fun b o e => by
  rw [h b (fun hb => by rw [C.fr b hb] at e; cases e) o e]
  exact C.sub b o e
theorem CH.advance {t : Nat} (C : CH w nm g a ord c st ps fin gp) (hu : u ∈ st) (ht : t = ps u + 1) : CH w nm g a ord c st (put ps u t) fin (gset gp (c.ia u) (iterAt (a.sl u) (t : Nat))) := by
  subst ht
  refine el_aaa C.cls fun yy2 yy3 yy4 yy5 => ?_
  obtain ⟨o1, e1, k1⟩ := yy2
  obtain ⟨o2, e2, k2⟩ := yy3
  obtain ⟨o3, e3, k3⟩ := yy4
  obtain ⟨o4, e4, k4⟩ := yy5
  have hi := (C.qs u hu).2
  have n1 : c.ls ≠ c.ia u := ne_cls e1 hi (by rw [k1]; walk_at "cne")
  have n2 : c.li ≠ c.ia u := ne_cls e2 hi (by rw [k2]; walk_at "cne")
  have n3 : c.ss ≠ c.ia u := ne_cls e3 hi (by rw [k3]; walk_at "cne")
  have n4 : c.dd ≠ c.ia u := ne_cls e4 hi (by rw [k4]; walk_at "cne")
  refine ⟨C.sub.put (C.fq u hu), C.fr, C.fq, ?_, C.its.ne n2, fun i hi' => ?_, C.ij, C.ne, ?_, ?_, C.fnd⟩
  · obtain ⟨vs, h1, h2⟩ := C.stk; exact ⟨vs, h1.ne n1, h2⟩
  · obtain ⟨h1, h2⟩ := C.qs i hi'
    refine ⟨(gset_ne (ne_cls h1 hi (by walk_at "cne"))).trans h1, ?_⟩
    by_cases q : i = u
    · subst q; rw [gset_self, put_self]
    · rw [put_ne q, gset_ne (fun z => q (C.ij i hi' u hu z))]; exact h2
  · obtain ⟨S, ⟨o, e, h1⟩, h2⟩ := C.seen; exact ⟨S, ⟨o, (gset_ne n3).trans e, h1⟩, h2⟩
  · obtain ⟨kvs, ⟨o, e, h1⟩, h2⟩ := C.di; exact ⟨kvs, ⟨o, (gset_ne n4).trans e, h1⟩, h2⟩
theorem CH.push {it q : Addr} (C : CH w nm g a ord c st ps fin gp) (inj : ∀ i j, nm i = nm j → i = j) (h1 : v ∉ fin) (h2 : v ∉ st) (h3 : v ∈ ord)
    {S : Str → Bool} {kvs : List (Str × Value)} (hs : ∀ i, S (nm i) = decide (i ∈ fin ∨ i ∈ st)) (hS : ∃ o, gp' c.ss = some o ∧ o.SetObjOf (strKind P0 w) (fun k' => S k' || decide (k' = nm v)) (if S (nm v) then fin.length + st.length else fin.length + st.length + 1))
    (hit : gp it = none) (hq : gp q = none) (g1 : gp' it = some (iterAt (a.sl v) 0)) (g2 : gp' q = some (wrapO it)) (g3 : IsL gp' c.li ((st ++ [v]).map fun i => .ref (put c.q v q i)))
    (hl : kvs.length ≤ fin.length + st.length) (hd : ∀ i, (i ∈ st → ∃ j t, valueAt kvs (nm i) = some (.int j t)) ∧ (i ∉ st → valueAt kvs (nm i) = none)) (g4 : ∃ o j t, gp' c.dd = some o ∧ o.IsDictOf (strKind P0 w) (stored kvs (nm v) (.int j t))) (g5 : ∃ vs, IsL gp' c.ls vs ∧ SVs nm (st ++ [v]) vs)
    (ho : ∀ b, b ∉ [c.ls, c.li, c.ss, c.dd] → ∀ o, gp b = some o → gp' b = gp b) :
    CH w nm g a ord { c with q := put c.q v q, ia := put c.ia v it } (st ++ [v]) (put ps v 0) fin gp' := by
  refine el_aaa C.cls fun yy6 yy7 yy8 yy9 => ?_
  obtain ⟨o1, e1, k1⟩ := yy6
  obtain ⟨o2, e2, k2⟩ := yy7
  obtain ⟨o3, e3, k3⟩ := yy8
  obtain ⟨o4, e4, k4⟩ := yy9
  have nin : ∀ {b : Addr} {o : Obj}, gp b = some o → o.cls ≠ .type "list" → o.cls ≠ .type "set" → o.cls ≠ .type "dict" → b ∉ [c.ls, c.li, c.ss, c.dd] := fun {b o} e z1 z2 z3 hb => by
    simp only [List.mem_cons, List.not_mem_nil, or_false] at hb
    rcases hb with rfl | rfl | rfl | rfl
    · exact z1 (by rw [e1] at e; cases e; exact k1)
    · exact z1 (by rw [e2] at e; cases e; exact k2)
    · exact z2 (by rw [e3] at e; cases e; exact k3)
    · exact z3 (by rw [e4] at e; cases e; exact k4)
  have hne : ∀ {i}, i ∈ st → i ≠ v := fun hi z => h2 (z ▸ hi)
  refine ⟨C.subOf fun b hb o e => ho b hb o (C.sub b o e), C.fr, fun i hi => ?_, g5, g3, fun i hi => ?_, fun i hi j hj => ?_, C.ne, ?_, ?_, ?_⟩
  · rcases List.mem_append.mp hi with z | z
    · dsimp only; rw [put_ne (hne z)]; exact C.fq i z
    · simp at z; subst z; dsimp only; rw [put_self]; exact C.sub.none hit
  · rcases List.mem_append.mp hi with z | z
    · obtain ⟨y1, y2⟩ := C.qs i z
      dsimp only; rw [put_ne (hne z), put_ne (hne z), put_ne (hne z)]
      exact ⟨(ho _ (nin y1 (by walk_at "cne") (by walk_at "cne") (by walk_at "cne")) _ y1).trans y1, (ho _ (nin y2 (by walk_at "cne") (by walk_at "cne") (by walk_at "cne")) _ y2).trans y2⟩
    · simp at z; subst z; dsimp only; rw [put_self, put_self, put_self]; exact ⟨g2, g1⟩
  · dsimp only
    rcases List.mem_append.mp hi with z | z <;> rcases List.mem_append.mp hj with y | y
    · rw [put_ne (hne z), put_ne (hne y)]; exact C.ij i z j y
    · simp at y; subst y; rw [put_ne (hne z), put_self]; intro e; have := (C.qs i z).2; rw [e, hit] at this; cases this
    · simp at z; subst z; rw [put_ne (hne y), put_self]; intro e; have := (C.qs j y).2; rw [← e, hit] at this; cases this
    · simp at z y; subst z y; intro; rfl
  · refine el_ea hS fun o y1 y2 => ?_; clear hS
    have : S (nm v) = false := by rw [hs]; simp [h1, h2]
    rw [this] at y2
    refine ⟨_, ⟨o, y1, by rw [List.length_append, List.length_singleton, ← Nat.add_assoc]; exact y2⟩, fun i => ?_⟩
    rw [hs]
    by_cases z : i = v
    · subst z; simp
    · have : nm i ≠ nm v := fun e => z (inj _ _ e)
      simp [this, z]
  · have hs := hd
    refine el_eeea g4 fun o j t y1 y2 => ?_; clear g4
    rw [stored_absent ((hs v).2 h2)] at y2
    refine ⟨_, ⟨o, y1, y2⟩, by simp; walk_at "om", fun i => ?_⟩
    rw [vat_snoc]
    by_cases z : i = v
    · subst z; rw [(hs i).2 h2, if_pos rfl]; exact ⟨fun _ => ⟨j, t, rfl⟩, fun y => absurd (by simp) y⟩
    · rw [if_neg (fun e => z (inj _ _ e))]
      simp only [Option.or_none, List.mem_append, List.mem_singleton, z, or_false]
      exact hs i
  · obtain ⟨y1, y2⟩ := C.fnd
    refine ⟨?_, fun x hx => ?_⟩
    · rw [← List.append_assoc]
      refine List.nodup_append.mpr ⟨y1, by simp, fun x hx y hy => ?_⟩
      simp at hy; subst hy
      intro e; subst e
      rcases List.mem_append.mp hx with z | z
      · exact h1 z
      · exact h2 z
    · rw [← List.append_assoc] at hx
      rcases List.mem_append.mp hx with z | z
      · exact y2 x z
      · simp at z; subst z; exact h3
theorem CH.pop (C : CH w nm g a ord c (st ++ [u]) ps fin gp) (inj : ∀ i j, nm i = nm j → i = j)
    (g3 : IsL gp' c.li (st.map fun i => .ref (c.q i))) {kvs : List (Str × Value)} (hl : kvs.length ≤ fin.length + (st ++ [u]).length) (hd : ∀ i, (i ∈ st ++ [u] → ∃ j t, valueAt kvs (nm i) = some (.int j t)) ∧ (i ∉ st ++ [u] → valueAt kvs (nm i) = none)) (g4 : ∃ o, gp' c.dd = some o ∧ o.IsDictOf (strKind P0 w) (without kvs (nm u))) (g5 : ∃ vs, IsL gp' c.ls vs ∧ SVs nm st vs)
    (ho : ∀ b, b ∉ [c.ls, c.li, c.dd, c.ia u] → gp' b = gp b) : CH w nm g a ord c st ps (fin ++ [u]) gp' := by
  refine el_aaa C.cls fun yy10 yy11 yy12 yy13 => ?_
  obtain ⟨o1, e1, k1⟩ := yy10
  obtain ⟨o2, e2, k2⟩ := yy11
  obtain ⟨o3, e3, k3⟩ := yy12
  obtain ⟨o4, e4, k4⟩ := yy13
  have hu : u ∈ st ++ [u] := by simp
  have hi := (C.qs u hu).2
  have sb : ∀ {i}, i ∈ st → i ∈ st ++ [u] := fun h => List.mem_append_left _ h
  have hne : ∀ {i}, i ∈ st → i ≠ u := fun h z => by
    subst z
    exact (List.nodup_append.mp (List.nodup_append.mp C.fnd.1).2.1).2.2 _ h _ (by simp) rfl
  have nin : ∀ {b : Addr} {o : Obj}, gp b = some o → o.cls ≠ .type "list" → o.cls ≠ .type "dict" → b ≠ c.ia u → b ∉ [c.ls, c.li, c.dd, c.ia u] := fun {b o} e z1 z3 z4 hb => by
    simp only [List.mem_cons, List.not_mem_nil, or_false] at hb
    rcases hb with rfl | rfl | rfl | rfl
    · exact z1 (by rw [e1] at e; cases e; exact k1)
    · exact z1 (by rw [e2] at e; cases e; exact k2)
    · exact z3 (by rw [e4] at e; cases e; exact k4)
    · exact z4 rfl
  refine ⟨fun b o e => ?_, C.fr, fun i hi' => C.fq i (sb hi'), g5, g3, fun i hi' => ?_, fun i hi j hj => C.ij i (sb hi) j (sb hj), C.ne, ?_, ?_, ?_⟩
  · rw [ho b (fun hb => ?_)]
    · exact C.sub b o e
    · simp only [List.mem_cons, List.not_mem_nil, or_false] at hb
      rcases hb with rfl | rfl | rfl | rfl
      · rw [C.fr c.ls (by simp)] at e; cases e
      · rw [C.fr c.li (by simp)] at e; cases e
      · rw [C.fr c.dd (by simp)] at e; cases e
      · rw [C.fq u hu] at e; cases e
  · obtain ⟨y1, y2⟩ := C.qs i (sb hi')
    exact ⟨(ho _ (nin y1 (by walk_at "cne") (by walk_at "cne") (ne_cls y1 hi (by walk_at "cne")))).trans y1, (ho _ (nin y2 (by walk_at "cne") (by walk_at "cne") (fun z => hne hi' (C.ij i (sb hi') u hu z)))).trans y2⟩
  · refine el_ea C.seen fun S yy14 hs => ?_
    obtain ⟨o, e, h⟩ := yy14
    have kk : o.cls = .type "set" := by rw [e3] at e; cases e; exact k3
    refine ⟨S, ⟨o, (ho _ (nin e (by rw [kk]; walk_at "cne") (by rw [kk]; walk_at "cne") (ne_cls e hi (by rw [kk]; walk_at "cne")))).trans e, ?_⟩, fun i => ?_⟩
    · rw [show (fin ++ [u]).length + st.length = fin.length + (st ++ [u]).length by simp; walk_at "om"]; exact h
    · rw [hs]; simp; ac_rfl
  · have hs := hd
    refine el_ea g4 fun o y1 y2 => ?_; clear g4
    refine ⟨_, ⟨o, y1, y2⟩, Nat.le_trans (length_without_le _ _) (by simp at hl ⊢; walk_at "om"), fun i => ?_⟩
    by_cases z : i = u
    · subst z; exact ⟨fun hi' => absurd rfl (hne hi'), fun _ => vat_without_self⟩
    · rw [vat_without_ne (fun e => z (inj _ _ e))]
      have := hs i
      simp only [List.mem_append, List.mem_singleton, z, or_false] at this
      exact this
  · rw [List.append_assoc]
    obtain ⟨y1, y2⟩ := C.fnd
    refine ⟨?_, fun x hx => y2 x (by simp only [List.mem_append, List.mem_singleton] at hx ⊢; rcases hx with z | z | z <;> simp [z])⟩
    refine (List.Perm.nodup_iff ?_).mp y1
    exact List.Perm.append_left _ List.perm_append_comm
end
noncomputable section
local macro_rules | `(tactic| walk_at "cne") => `(tactic| (show Value.type _ ≠ Value.type _; decide))
variable {w : World} {H : Heap} {O : OsState} {g : GH} {nm : Nat → Str} {a : SA} {ord : List Nat} {np : Nat → Int} {sc : Nat → List Nat} {po nf : Int} {rdy : Option (List Nat)}
theorem tri_lo {α : Type} {k : Nat} {hdl : Option Value} {X : ExcP} {env : Env} {m : LM} {K : Frag} {t : Sem α} {Q : α → GH → LM → Prop} {d : Addr} {o : Obj} (T : Tp K H) (e : g d = some o) (h : (d == sysModules) = false → tri w H O k hdl X env t g m Q) : tri w H O k hdl X env t g m Q :=
  .mk fun A fs base s aa R F => (h (R.notMods T e)).run A fs base s aa R F
theorem SVs.unsnoc {is : List Nat} {i : Nat} {vs : List Value} (h : SVs nm (is ++ [i]) vs) : ∃ us v, vs = us ++ [v] ∧ SV nm i v ∧ SVs nm is us := by
  rcases List.eq_nil_or_concat vs with rfl | ⟨us, v, rfl⟩
  · simp [SVs] at h
  · unfold SVs at h
    rw [List.concat_eq_append, List.map_append, List.map_append] at h
    have hl : (us.map unS).length = (is.map fun i => some (nm i)).length := by
      have := congrArg List.length h; simp at this; simpa using this
    obtain ⟨h1, h2⟩ := List.append_inj h hl
    exact ⟨us, v, List.concat_eq_append .., unS_some (by simpa using h2), h1⟩
def LF (a : SA) (c : CO) (m : LM) : Prop := m (Str.ofString "n2i") = some (.ref a.d) ∧ m (Str.ofString "stack") = some (.ref c.ls) ∧ m (Str.ofString "itstack") = some (.ref c.li) ∧ m (Str.ofString "seen") = some (.ref c.ss) ∧ m (Str.ofString "node2stacki") = some (.ref c.dd)
def CRes (w : World) (g : GH) (ord : List Nat) (sc : Nat → List Nat) (r : Value) (g' : GH) : Prop := Sub g g' ∧ ((r = .none ∧ Acyc ord sc) ∨ (∃ D vs, r = .ref D ∧ IsL g' D vs ∧ vs ≠ [] ∧ vs.length ≤ 1000 ∧ Cyc sc))
def CMid (w : World) (nm : Nat → Str) (g : GH) (a : SA) (ord : List Nat) (sc : Nat → List Nat) (N : Nat) (done : List Nat) (i : Nat) (n : Nat) (g' : GH) (m' : LM) : Prop :=
  ∃ c st ps fin, LF a c m' ∧ PInv ord sc st ps fin none ∧ CH w nm g a ord c st ps fin g' ∧ n = st.length ∧ Phi ord sc st ps fin ≤ N ∧ (∀ x ∈ done, x ∈ fin) ∧ (i ∈ fin ∨ i ∈ st)
def CTop (w : World) (nm : Nat → Str) (g : GH) (a : SA) (ord : List Nat) (sc : Nat → List Nat) (done : List Nat) (i : Nat) (n : Nat) (g' : GH) (m' : LM) : Prop :=
  ∃ c st ps fin u t, LF a c m' ∧ m' (Str.ofString "node") = some (.str (nm u) t) ∧ PInv ord sc st ps fin (some u) ∧ CH w nm g a ord c st ps fin g' ∧ n = Phi ord sc st ps fin ∧ (∀ x ∈ done, x ∈ fin) ∧ (i ∈ fin ∨ i ∈ st ∨ u = i)
noncomputable def stAt (l : List Stmt) (i : Nat) : Stmt := (l[i]?).getD noSt
noncomputable def forB : Stmt → List Stmt
  | .For _ _ b _ _ => b
  | _ => []
noncomputable def whB : Stmt → List Stmt
  | .While _ b _ _ => b
  | _ => []
noncomputable def ifB : Stmt → List Stmt
  | .If _ b _ _ => b
  | _ => []
noncomputable def ifE : Stmt → List Stmt
  | .If _ _ b _ => b
  | _ => []
noncomputable def cWh : Stmt := stAt (forB (stAt (fBody (mAt 6 8)) 5)) 1
noncomputable def cIf : Stmt := stAt (whB cWh) 0
noncomputable def cIn : Stmt := stAt (whB cWh) 1
noncomputable abbrev cEnv (L : Addr) : Env := callEnv fd127 L 127
abbrev CPost1 (w : World) (nm : Nat → Str) (g : GH) (a : SA) (ord : List Nat) (sc : Nat → List Nat) (n : Nat) (done : List Nat) (i : Nat) : Flow → GH → LM → Prop := fun f g2 m2 => match f with | .next => ∃ n', CMid w nm g a ord sc n done i n' g2 m2 | .ret v => CRes w g ord sc v g2 | _ => False
section
variable {L : Addr} {k n i u : Nat} {t : Tok} {st fin done : List Nat} {ps : Nat → Nat} {c : CO} {g1 : GH} {m : LM}
theorem c_push (T : Tp (KK w.params) H) (inj : ∀ i j, nm i = nm j → i = j) (S : SH w nm g a ord np sc rdy po nf) (hle : ord.length ≤ 500) (hm : LF a c m) (m6 : m (Str.ofString "node") = some (.str (nm u) t)) (P : PInv ord sc st ps fin (some u)) (C : CH w nm g a ord c st ps fin g1) (hn : n = Phi ord sc st ps fin) (hf : ∀ x ∈ done, x ∈ fin) (hi : i ∈ fin ∨ i ∈ st ∨ u = i) (hseen : u ∉ fin ∧ u ∉ st) :
    tri w H O k none noX (cEnv L) (execs (ifE cIf) (cEnv L)) g1 m (CPost1 w nm g a ord sc n done i) := by
  refine el_aaaa hm fun m1 m2 m3 m4 m5 => ?_; clear hm
  have hCl := C.len
  refine el_ea C.seen fun Sx hS hs => ?_
  have huo : u ∈ ord := (P.pen u rfl).1
  refine el_aaa C.cls fun yy1 yy2 yy3 yy4 => ?_
  obtain ⟨o1, e1, k1⟩ := yy1
  obtain ⟨o2, e2, k2⟩ := yy2
  obtain ⟨o3, e3, k3⟩ := yy3
  obtain ⟨o4, e4, k4⟩ := yy4
  have S1 := S.mono C.sub
  refine t_cons ?_
  repeat walk_at "st"
  refine t_smeth hS (by walk_at "om") ?_
  repeat walk_at "st"
  refine t_sadd hS (by walk_at "om") fun os hos => ?_
  have S2 : Sub g (gset g1 c.ss os) := C.sub.put (C.fr c.ss (by simp))
  repeat walk_at "st"
  refine el_ea C.stk fun vs hvs hsv => ?_
  have hvl := hsv.len
  refine el_ea (S.suc u huo) fun lv hlv hls => ?_
  have d1 : c.ls ≠ c.ss := ne_cls e1 e3 (by rw [k1, k3]; walk_at "cne")
  have d2 : c.li ≠ c.ss := ne_cls e2 e3 (by rw [k2, k3]; walk_at "cne")
  have d3 : c.dd ≠ c.ss := ne_cls e4 e3 (by rw [k4, k3]; walk_at "cne")
  have d4 : c.dd ≠ c.li := ne_cls e4 e2 (by rw [k4, k2]; walk_at "cne")
  have d5 : c.dd ≠ c.ls := ne_cls e4 e1 (by rw [k4, k1]; walk_at "cne")
  refine t_append (items := st.map fun i => .ref (c.q i)) (C.its.ne d2) ?_
  repeat walk_at "st"
  refine s_item inj (S.mono S2) huo ⟨t, rfl⟩ ?_ (fun _ => by kernel_rfl)
  repeat walk_at "st"
  refine s_getSc T (S.mono S2) huo ?_
  repeat walk_at "st"
  refine t_iterL (items := lv) (by obtain ⟨n, e⟩ := hlv; exact ⟨n, S2 _ _ e⟩) ?_
  intro it hit
  repeat walk_at "st"
  refine t_nextA (i := 0) gset_self fun q hq => ?_
  have n1 : ∀ {b o}, g1 b = some o → b ≠ it := fun {b o} e z => by
    subst z
    by_cases y : b = c.ss
    · rw [y, gset_self] at hit; cases hit
    · rw [gset_ne y, e] at hit; cases hit
  have hit1 : g1 it = none := by rw [gset_ne (n1 e3).symm] at hit; exact hit
  have hqi : q ≠ it := fun z => by rw [z, gset_self] at hq; cases hq
  rw [gset_ne hqi] at hq
  have n2 : ∀ {b o}, g1 b = some o → b ≠ q := fun {b o} e z => by
    subst z
    by_cases y : b = c.ss
    · rw [y, gset_self] at hq; cases hq
    · rw [gset_ne y, e] at hq; cases hq
  have hq1 : g1 q = none := by rw [gset_ne (n2 e3).symm] at hq; exact hq
  have dl : c.ls ≠ c.li := C.ne
  repeat walk_at "st"
  refine t_app (ys := st.map fun i => .ref (c.q i)) (((C.its.ne d2).ne (n1 e2)).ne (n2 e2)) (by rw [List.length_map]; walk_at "om") fun e5 => ?_
  repeat walk_at "st"
  refine t_stS (by kernel_rfl) (by kernel_rfl) ?_
  have hL : IsL (gset (gset (gset (gset g1 c.ss os) it (iterAt (a.sl u) 0)) q (wrapO it)) c.li (lst ((st.map fun i => .ref (c.q i)) ++ [Value.ref q]) e5)) c.ls vs := (((hvs.ne d1).ne (n1 e1)).ne (n2 e1)).ne dl
  have hvl2 : vs.length ≤ 100000 := by walk_at "om"
  repeat walk_at "st"
  refine t_lenL' hL hvl2 fun t7 => ?_
  repeat walk_at "st"
  refine el_eaa C.di fun kvs hd2 hkl hkv => ?_
  refine t_dset (kvs := kvs) ((((hd2.ne d3).ne (n1 e4)).ne (n2 e4)).ne d4) (by walk_at "om") fun o6 ho6 => ?_
  repeat walk_at "st"
  refine t_append (items := vs) (hL.ne d5.symm) ?_
  repeat walk_at "st"
  refine t_app (ys := vs) (hL.ne d5.symm) (by walk_at "om") fun e8 => t_nil ?_
  have d6 : c.ss ≠ c.li := d2.symm
  refine ⟨_, { c with q := put c.q u q, ia := put c.ia u it }, st ++ [u], put ps u 0, fin, ⟨m1, m2, m3, m4, m5⟩, P.push hseen.1 hseen.2, C.push inj hseen.1 hseen.2 huo hs ⟨os, ?_, hos⟩ hit1 hq1 ?_ ?_ ?_ hkl hkv ⟨o6, _, _, ?_, ho6⟩ ?_ ?_, rfl, ?_, hf, ?_⟩
  · rw [gset_ne d1.symm, gset_ne d3.symm, gset_ne d6, gset_ne (n2 e3), gset_ne (n1 e3), gset_self]
  · rw [gset_ne (n1 e1).symm, gset_ne (n1 e4).symm, gset_ne (n1 e2).symm, gset_ne hqi.symm, gset_self]
  · rw [gset_ne (n2 e1).symm, gset_ne (n2 e4).symm, gset_ne (n2 e2).symm, gset_self]
  · refine ⟨e5, ?_⟩
    rw [gset_ne dl.symm, gset_ne d4.symm, gset_self]
    have e9 : (st ++ [u]).map (fun i => Value.ref (put c.q u q i)) = st.map (fun i => Value.ref (c.q i)) ++ [Value.ref q] := by
      rw [List.map_append, List.map_cons, List.map_nil, put_self]
      congr 1
      exact List.map_congr_left fun j hj => by rw [put_ne (fun (z : j = u) => hseen.2 (by rw [← z]; exact hj))]
    rw [e9]
  · rw [gset_ne d5, gset_self]
  · exact ⟨_, ⟨e8, gset_self⟩, hsv.snoc ⟨t, rfl⟩⟩
  · intro b hb o hbo
    simp only [List.mem_cons, List.not_mem_nil, or_false, not_or] at hb
    refine el_aaa hb fun z1 z2 z3 z4 => ?_; clear hb
    rw [gset_ne z1, gset_ne z4, gset_ne z2, gset_ne (n2 hbo), gset_ne (n1 hbo), gset_ne z3]
  · rw [hn]; exact Nat.le_of_lt (Phi_push huo hseen.1 hseen.2)
  · rcases hi with z | z | z
    · exact .inl z
    · exact .inr (List.mem_append_left _ z)
    · subst z; simp
theorem c_ret (T : Tp (KK w.params) H) (hle : ord.length ≤ 500) (hm : LF a c m) (m6 : m (Str.ofString "node") = some (.str (nm u) t)) (P : PInv ord sc st ps fin (some u)) (C : CH w nm g a ord c st ps fin g1) (hus : u ∈ st) :
    tri w H O k none noX (cEnv L) (execs (ifB (stAt (ifB cIf) 0)) (cEnv L)) g1 m (CPost1 w nm g a ord sc n done i) := by
  refine el_aaaa hm fun m1 m2 m3 m4 m5 => ?_; clear hm
  have hCl := C.len
  refine el_eaa C.di fun kvs hd2 hl hkv => ?_
  refine el_ee ((hkv u).1 hus) fun jj tj e => ?_
  refine t_cons (t_ret (t_bin (t_slice ?_)))
  repeat walk_at "st"
  refine t_dget hd2 e ?_ (by kernel_rfl)
  refine t_part0 (t_part0 ?_)
  refine el_ea C.stk fun vs hvs hsv => ?_
  have hvl := hsv.len
  refine t_slL (ops := fun i => [i, .ref c.ls]) (.inl hvs) (.int _ _) .none .none (by simp) (by walk_at "om") (fun _ => by kernel_rfl) (fun _ => by kernel_rfl) fun D hD => ?_
  refine t_list ?_
  repeat walk_at "st"
  refine ⟨by simp, fun E hE => ?_⟩
  have hED : D ≠ E := fun z => by rw [← z, gset_self] at hE; cases hE
  refine t_addL (.inl ⟨0, by rw [gset_ne hED, gset_self]⟩) (.inl ⟨0, gset_self⟩) ?_ fun F hF => ?_
  · rw [kms_pick_eq]
    unfold kms_pick
    simp only [List.length_take, List.length_drop, List.length_singleton]
    exact Nat.le_trans (Nat.succ_le_succ (Nat.le_trans (Nat.min_le_right _ _) (Nat.sub_le _ _))) (by omega)
  · refine ⟨((C.sub.put (C.sub.none hD)).put ?_).put ?_, .inr ⟨F, _, rfl, ⟨0, gset_self⟩, by simp, ?_, P.cyc hus⟩⟩
    · rw [gset_ne (fun z => hED z.symm)] at hE; exact C.sub.none hE
    · have q1 : F ≠ E := fun z => by rw [z, gset_self] at hF; cases hF
      rw [gset_ne q1] at hF
      have q2 : F ≠ D := fun z => by rw [z, gset_self] at hF; cases hF
      rw [gset_ne q2] at hF
      exact C.sub.none hF
    · rw [kms_pick_eq]
      unfold kms_pick
      simp only [List.length_take, List.length_drop, List.length_singleton, List.length_append]
      walk_at "om"
theorem c_first (T : Tp (KK w.params) H) (inj : ∀ i j, nm i = nm j → i = j) (S : SH w nm g a ord np sc rdy po nf) (hle : ord.length ≤ 500) (hm : LF a c m) (m6 : m (Str.ofString "node") = some (.str (nm u) t)) (P : PInv ord sc st ps fin (some u)) (C : CH w nm g a ord c st ps fin g1) (hn : n = Phi ord sc st ps fin) (hf : ∀ x ∈ done, x ∈ fin) (hi : i ∈ fin ∨ i ∈ st ∨ u = i) :
    tri w H O k none noX (cEnv L) (exec cIf (cEnv L)) g1 m (CPost1 w nm g a ord sc n done i) := by
  refine el_aaaa (id hm) fun m1 m2 m3 m4 m5 => ?_
  have hCl := C.len
  refine el_ea C.seen fun Sx hS hs => ?_
  refine t_if ?_
  repeat walk_at "st"
  refine t_sin hS (by walk_at "om") ?_
  repeat walk_at "st"
  rw [hs]
  by_cases hseen : u ∈ fin ∨ u ∈ st
  · simp only [hseen, decide_true, if_true]
    refine el_eaa C.di fun kvs hd2 hl hkv => ?_
    refine t_cons ?_
    repeat walk_at "st"
    refine t_din T hd2 ?_
    repeat walk_at "st"
    by_cases hus : u ∈ st
    · refine el_ee ((hkv u).1 hus) fun jj tj e => ?_
      rw [e]
      simp only [Option.isSome_some, if_true]
      refine tri_mono (c_ret (n := n) (i := i) (done := done) T hle hm m6 P C hus) fun f g2 m2 q => ?_
      cases f with
      | next => exact t_nil q
      | _ => exact q
    · rw [(hkv u).2 hus]
      simp only [Option.isSome_none, Bool.false_eq_true, if_false]
      refine t_nil (t_nil ⟨_, c, st, ps, fin, hm, P.skip (hseen.resolve_right hus), C, rfl, Nat.le_of_eq hn.symm, hf, ?_⟩)
      rcases hi with z | z | z
      · exact .inl z
      · exact .inr z
      · subst z; exact .inl (hseen.resolve_right hus)
  · simp only [hseen, decide_false, Bool.false_eq_true, if_false]
    simp only [not_or] at hseen
    exact c_push T inj S hle hm m6 P C hn hf hi hseen
theorem keeps_W {M : Model} {h : Heap} {q it : Addr} (ho : h.get? q = some (wrapO it)) : ∃ k, (k = Keeper.frame ∨ k = Keeper.machine ∨ k = Keeper.boundFrame) ∧ Looks M h (keeperOf (.ref q)) k :=
  ⟨.machine, .inr (.inl rfl), by
    unfold keeperOf
    exact (Looks.ld ho).andThen .now⟩
theorem t_callW {fe : Expr} {pos : Pos} {hd : Option Value} {X : ExcP} {env : Env} {Q : Value → GH → LM → Prop} (he : eval (.Call fe [] [] pos) env = (do callWith pos (← eval fe env) [] (backTo pos (starEach [] env)) []))
    (h : tri w H O k hd X env (eval fe env) g m fun f g₁ m₁ => ∃ q it, f = .ref q ∧ g₁ q = some (wrapO it) ∧ tri w H O k hd X env (call (.ref q) [] []) g₁ m₁ Q) : tri w H O k hd X env (eval (.Call fe [] [] pos) env) g m Q := by
  refine tri_eq he (tri_bind (tri_mono h fun f g₁ m₁ p2 => ?_))
  refine el_eeaa p2 fun q it e1 e2 h2 => ?_; clear p2
  subst e1
  refine .mk fun A fs base s a R F => ?_
  refine callWith_of (P := fun h => h.get? q = some (wrapO it)) (by rfl) (fun h x => keeps_W x) ?_
  exact (t_evalArgs (f := .ref q) (es := []) (pos := pos) (Q := fun a g₂ m₂ => g₂ q = some (wrapO it) ∧ tri w H O k hd X env (call (.ref q) ([] ++ a.pos) a.kw) g₂ m₂ Q) (by rfl) (tri_pure ⟨e2, h2⟩)).run A fs base s a R F |> fun z => wpAny_mono z (fun x s' z1 => by obtain ⟨g', m', R', F', q1, q2⟩ := z1; exact ⟨R'.kg _ _ q1, q2.run A fs base s' a R' F'⟩) fun _ _ e => e
abbrev CPost2 (w : World) (nm : Nat → Str) (g : GH) (a : SA) (ord : List Nat) (sc : Nat → List Nat) (N : Nat) (done : List Nat) (i n : Nat) : Flow → GH → LM → Prop := fun f g2 m2 => match f with | .next => ∃ n', n' < n ∧ CMid w nm g a ord sc N done i n' g2 m2 | .brk => ∃ n1, n1 < N ∧ CTop w nm g a ord sc done i n1 g2 m2 | _ => False
theorem c_try (T : Tp (KK w.params) H) (inj : ∀ i j, nm i = nm j → i = j) (S : SH w nm g a ord np sc rdy po nf) (hle : ord.length ≤ 500) (hin : ∀ v ∈ ord, ∀ s ∈ sc v, s ∈ ord) (hm : LF a c m) (P : PInv ord sc (st ++ [u]) ps fin none) (C : CH w nm g a ord c (st ++ [u]) ps fin g1) (hN : Phi ord sc (st ++ [u]) ps fin ≤ n) (hf : ∀ x ∈ done, x ∈ fin) (hi : i ∈ fin ∨ i ∈ st ++ [u]) :
    tri w H O k none noX (cEnv L) (exec (stAt (whB cIn) 0) (cEnv L)) g1 m (CPost2 w nm g a ord sc n done i (st.length + 1)) := by
  refine el_aaaa (id hm) fun m1 m2 m3 m4 m5 => ?_
  have hCl := C.len
  have huo : u ∈ ord := P.ino u (by simp)
  have hqs := C.qs u (by simp)
  have hits := C.its
  rw [List.map_append, List.map_cons, List.map_nil] at hits
  refine el_ea (S.suc u huo) fun lv hlv hls => ?_
  have hlv1 : IsL g1 (a.sl u) lv := by obtain ⟨n, e⟩ := hlv; exact ⟨n, C.sub _ _ e⟩
  have hlen := hls.len
  refine t_try (P := fun c' g2 m2 => c' = .type "StopIteration" ∧ g2 = gset g1 (c.ia u) { cls := .type "list_iterator", data := .fields #[.none, .int (ps u) 0] } ∧ m2 = m ∧ (sc u).length ≤ ps u) rfl rfl ?_ fun c' e g2 m2' p1 => ?_
  · refine t_cons ?_
    repeat walk_at "st"
    refine t_callW (by kernel_rfl) ?_
    repeat walk_at "st"
    refine t_idxLast hits ?_ (by kernel_rfl)
    refine ⟨c.q u, c.ia u, rfl, hqs.1, ?_⟩
    by_cases hlt : ps u < (sc u).length
    · have hlv2 : ps u < lv.length := by walk_at "om"
      refine el_ea (hls.get (List.getElem?_eq_getElem hlv2)) fun z hz hzv => ?_
      refine t_nextV hqs.1 hqs.2 hlv1 (List.getElem?_eq_getElem hlv2) ?_
      obtain ⟨tz, ez⟩ := hzv
      rw [ez]
      repeat walk_at "st"
      have hzs : (sc u)[ps u]? = some z := hz
      have hzm : z ∈ sc u := List.mem_of_getElem? hzs
      have hu2 : (st ++ [u]).getLast? = some u := by simp
      refine ⟨_, Nat.lt_of_lt_of_le (Phi_advance huo (P.dis u (by simp)) (by simp) hlt) hN, c, st ++ [u], put ps u (ps u + 1), fin, z, tz, ⟨by walk_at "look", by walk_at "look", by walk_at "look", by walk_at "look", by walk_at "look"⟩, by walk_at "look", P.advance hu2 hzs (hin u huo z hzm), C.advance (by simp) rfl, rfl, hf, ?_⟩
      rcases hi with y | y
      · exact .inl y
      · exact .inr (.inl y)
    · refine t_nextX hqs.1 hqs.2 hlv1 (List.getElem?_eq_none (by walk_at "om")) ⟨rfl, rfl, rfl, by walk_at "om"⟩
  · refine el_aaa p1 fun hc hg hm2 hl2 => ?_; clear p1
    subst hc hg hm2
    repeat walk_at "st"
    refine ⟨fun A s ea oe Qb E he hg ho hc hq => by subst he; exact match_stop ho hc hq, ?_⟩
    refine t_cons ?_
    refine t_delS ?_
    repeat walk_at "st"
    refine el_ea C.stk fun vs hvs hsv => ?_
    refine el_eeaa hsv.unsnoc fun us v yy5 yy6 hus => ?_
    obtain rfl := yy5
    obtain ⟨tv, rfl⟩ := yy6
    have hul := hus.len
    refine el_aaa C.cls fun yy7 yy8 yy9 yy10 => ?_
    obtain ⟨o1, e1, k1⟩ := yy7
    obtain ⟨o2, e2, k2⟩ := yy8
    obtain ⟨o3, e3, k3⟩ := yy9
    obtain ⟨o4, e4, k4⟩ := yy10
    refine el_eaa C.di fun kvs hd2 hkl hkv => ?_
    have d1 : c.ls ≠ c.ia u := ne_cls e1 hqs.2 (by rw [k1]; walk_at "cne")
    have d2 : c.li ≠ c.ia u := ne_cls e2 hqs.2 (by rw [k2]; walk_at "cne")
    have d3 : c.dd ≠ c.ia u := ne_cls e4 hqs.2 (by rw [k4]; walk_at "cne")
    have d4 : c.dd ≠ c.li := ne_cls e4 e2 (by rw [k4, k2]; walk_at "cne")
    have d5 : c.dd ≠ c.ls := ne_cls e4 e1 (by rw [k4, k1]; walk_at "cne")
    have dl : c.ls ≠ c.li := C.ne
    simp only [List.length_append, List.length_singleton] at hCl hkl
    refine t_lmeth (hvs.ne d1) PySem.F.slot_list_pop PySem.F.type_list_pop ?_
    repeat walk_at "st"
    refine t_pop (hvs.ne d1) (by walk_at "om") fun e5 => ?_
    have hv : (valueAt kvs (nm u)).isSome = true := by obtain ⟨j, t, q⟩ := (hkv u).1 (by simp); rw [q]; rfl
    refine t_ddel ((hd2.ne d3).ne d5) hv (by walk_at "om") fun o6 ho6 => ?_
    refine t_cons ?_
    repeat walk_at "st"
    refine t_lmeth (((hits.ne d2).ne dl.symm).ne d4.symm) PySem.F.slot_list_pop PySem.F.type_list_pop ?_
    repeat walk_at "st"
    refine t_pop (((hits.ne d2).ne dl.symm).ne d4.symm) (by rw [List.length_map]; walk_at "om") fun e7 => t_nil ?_
    refine ⟨st.length, Nat.lt_succ_self _, c, st, ps, fin ++ [u], hm, P.pop hl2, C.pop inj ⟨e7, gset_self⟩ (by simp only [List.length_append, List.length_singleton]; walk_at "om") hkv ⟨o6, by rw [gset_ne d4, gset_self], ho6⟩ ⟨us, ⟨e5, by rw [gset_ne dl, gset_ne d5.symm, gset_self]⟩, hus⟩ (fun b hb => ?_), rfl, Nat.le_trans Phi_pop hN, fun x hx => List.mem_append_left _ (hf x hx), ?_⟩
    · simp only [List.mem_cons, List.not_mem_nil, or_false, not_or] at hb
      refine el_aaa hb fun z1 z2 z3 z4 => ?_; clear hb
      rw [gset_ne z2, gset_ne z3, gset_ne z1, gset_ne z4]
    · rcases hi with z | z
      · exact .inl (List.mem_append_left _ z)
      · rcases List.mem_append.mp z with z | z
        · exact .inr z
        · exact .inl (List.mem_append_right _ z)
abbrev CPost3 (w : World) (nm : Nat → Str) (g : GH) (a : SA) (ord : List Nat) (sc : Nat → List Nat) (N : Nat) (done : List Nat) (i : Nat) : Flow → GH → LM → Prop := fun f g2 m2 => match f with | .next => ∃ n1, n1 < N ∧ CTop w nm g a ord sc done i n1 g2 m2 | .brk => ∃ c ps fin, LF a c m2 ∧ PInv ord sc [] ps fin none ∧ CH w nm g a ord c [] ps fin g2 ∧ (∀ x ∈ done, x ∈ fin) ∧ i ∈ fin | _ => False
theorem c_inner (T : Tp (KK w.params) H) (inj : ∀ i j, nm i = nm j → i = j) (S : SH w nm g a ord np sc rdy po nf) (hle : ord.length ≤ 500) (hin : ∀ v ∈ ord, ∀ s ∈ sc v, s ∈ ord) (h : ∃ n', CMid w nm g a ord sc n done i n' g1 m) :
    tri w H O k none noX (cEnv L) (exec cIn (cEnv L)) g1 m (CPost3 w nm g a ord sc n done i) := by
  obtain ⟨n', h⟩ := h
  refine t_while (CMid w nm g a ord sc n done i) n' h fun n2 g2 m' p2 => ?_
  first | refine tri_hide fun Q1 hQ1 => ?_ | skip
  obtain ⟨c, st, ps, fin, hm, P, C, hn2, hN, hf, hi⟩ := p2
  refine el_aaaa (id hm) fun m1 m2 m3 m4 m5 => ?_
  have hCl := C.len
  refine el_ea C.stk fun vs hvs hsv => ?_
  have hvl := hsv.len
  refine t_test rfl ?_
  repeat walk_at "st"
  refine t_truL (.inl hvs) (by walk_at "om") ?_
  rcases List.eq_nil_or_concat st with rfl | ⟨st', u, rfl⟩
  · have : vs = [] := List.eq_nil_of_length_eq_zero (by rw [hvl]; rfl)
    subst this
    simp only [List.isEmpty_nil, Bool.not_true, Bool.false_eq_true, if_false]
    refine hQ1 _ _ _ ?_
    refine tri_hide fun Q10 hQ10 => ?_
    refine t_cons ?_
    repeat walk_at "st"
    exact (hQ10 _ _ _ ⟨c, ps, fin, hm, P, C, hf, hi.resolve_right (by simp)⟩)
  · rw [List.concat_eq_append] at *
    have hne : vs.isEmpty = false := by
      cases vs with
      | nil => simp at hvl
      | cons => rfl
    rw [hne]
    simp only [Bool.not_false, if_true]
    refine hQ1 _ _ _ ?_
    refine tri_hide fun Q10 hQ10 => ?_
    refine t_cons (tri_mono (c_try T inj S hle hin hm P C hN hf hi) fun f g3 m3 q => ?_)
    cases f with
    | next =>
      refine el_ea q fun n3 h3 h4 => ?_; clear q
      exact t_nil (hQ10 _ _ _ ⟨n3, by rw [hn2]; simpa using h3, h4⟩)
    | brk => exact hQ10 _ _ _ q
    | cont => exact q.elim
    | ret v => exact q.elim
end
set_option maxHeartbeats 4000000 in
theorem f_cyc {k : Nat} (T : Tp (KK w.params) H) (inj : ∀ i j, nm i = nm j → i = j) (S : SH w nm g a ord np sc rdy po nf) (hle : ord.length ≤ 500) (hin : ∀ v ∈ ord, ∀ s ∈ sc v, s ∈ ord) :
    fnS w H O (k + 1) (.ref 127) ⟨[.ref a.x], []⟩ g (CRes w g ord sc) no2 := by
  refine fn_intro (fd := fd127) (binds := [(Str.ofString "self", .ref a.x)]) T rfl rfl (by kernel_rfl) rfl (fun s => BindsTo.of_eq (by kernel_rfl)) rfl (by decide +kernel) (locs (by kernel_rfl)) (fun L => ?_) (by kernel_rfl) (by kernel_rfl) (by kernel_rfl)
  rw [b1]
  refine el_ea S.dict fun od ed hd => ?_
  refine tri_lo T ed fun lo => ?_
  refine t_cons ?_
  repeat walk_at "st"
  refine s_getN2i T S ?_
  repeat walk_at "st"
  refine t_list ?_
  repeat walk_at "st"
  refine ⟨by simp, fun ls hls => ?_⟩
  repeat walk_at "st"
  refine t_list ?_
  repeat walk_at "st"
  refine ⟨by simp, fun li hli => ?_⟩
  repeat walk_at "st"
  refine t_setnew fun ss os hss cs hos => ?_
  repeat walk_at "st"
  refine t_dnew fun dd o2 hdd ho2 => ?_
  repeat walk_at "st"
  have n1 : ls ≠ li := fun e => by rw [← e, gset_self] at hli; cases hli
  have n2 : ls ≠ ss := fun e => by rw [← e, gset_ne n1, gset_self] at hss; cases hss
  have n3 : li ≠ ss := fun e => by rw [← e, gset_self] at hss; cases hss
  have n4 : ls ≠ dd := fun e => by rw [← e, gset_ne n2, gset_ne n1, gset_self] at hdd; cases hdd
  have n5 : li ≠ dd := fun e => by rw [← e, gset_ne n3, gset_self] at hdd; cases hdd
  have n6 : ss ≠ dd := fun e => by rw [← e, gset_self] at hdd; cases hdd
  have f2 : g li = none := by rw [gset_ne n1.symm] at hli; exact hli
  have f3 : g ss = none := by rw [gset_ne n3.symm, gset_ne n2.symm] at hss; exact hss
  have f4 : g dd = none := by rw [gset_ne n6.symm, gset_ne n5.symm, gset_ne n4.symm] at hdd; exact hdd
  have C0 : CH w nm g a ord ⟨ls, li, ss, dd, fun _ => 0, fun _ => 0⟩ [] (fun _ => 0) [] (gset (gset (gset (gset g ls (lst [] 0)) li (lst [] 0)) ss os) dd o2) := by
    refine ⟨(((sub_new hls).put f2).put f3).put f4, fun b hb => ?_, by simp, ⟨[], ⟨0, by rw [gset_ne n4, gset_ne n2, gset_ne n1, gset_self]⟩, rfl⟩, ⟨0, by dsimp only; rw [gset_ne n5, gset_ne n3, gset_self]; rfl⟩, by simp, by simp, n1, ⟨_, ⟨os, by dsimp only; rw [gset_ne n6, gset_self], hos⟩, by simp⟩, ⟨_, ⟨o2, gset_self, ho2⟩, by simp, fun i => ⟨by simp, fun _ => rfl⟩⟩, by simp⟩
    simp only [List.mem_cons, List.not_mem_nil, or_false] at hb
    rcases hb with rfl | rfl | rfl | rfl <;> assumption
  refine t_for (fun _ => by kernel_rfl) ?_
  repeat walk_at "st"
  refine t_forP (n := (ord.map fun i => (nm i, Value.ref (a.info i))).length) (P := DKeys w (ord.map fun i => (nm i, Value.ref (a.info i)))) (Src := fun g => g a.d = some od) (fun j g' m' => ∃ c ps fin, LF a c m' ∧ PInv ord sc [] ps fin none ∧ CH w nm g a ord c [] ps fin g' ∧ ∀ x ∈ ord.take j, x ∈ fin)
    (Starts.keys (C0.sub _ _ ed) hd lo) (fun j g' m' z2 => by obtain ⟨c, ps, fin, _, _, C, _⟩ := z2; exact C.sub _ _ ed) ⟨_, _, _, ⟨by walk_at "look", by walk_at "look", by walk_at "look", by walk_at "look", by walk_at "look"⟩, PInv.zero, C0, by simp⟩ (fun j v g' m' hj y1 y2 => ?_) fun g' m' y3 => ?_
  · refine tri_hide fun Q4 hQ4 => ?_
    refine el_eeea y1 fun kk x t hk hv => ?_; clear y1
    refine el_eeeaaa y2 fun c ps fin hm P C hf => ?_; clear y2
    rw [List.getElem?_map] at hk
    cases hi : ord[j]? with
    | none => rw [hi] at hk; cases hk
    | some i =>
    rw [hi] at hk
    cases hk
    subst hv
    have hio : i ∈ ord := List.mem_of_getElem? hi
    have etk : ord.take (j + 1) = ord.take j ++ [i] := by rw [List.take_add_one, hi]; rfl
    have hCl := C.len
    refine el_aaaa hm fun m1 m2 m3 m4 m5 => ?_; clear hm
    refine t_asgN ?_
    repeat walk_at "st"
    refine hQ4 _ _ _ ?_
    refine tri_hide fun Q40 hQ40 => ?_
    repeat walk_at "st"
    refine el_ea C.seen fun Sx hS hs => ?_
    refine t_sin hS (by walk_at "om") ?_
    repeat walk_at "st"
    rw [hs]
    by_cases hif : i ∈ fin
    · simp only [hif, true_or, decide_true, if_true]
      repeat walk_at "st"
      refine hQ40 _ _ _ ⟨c, ps, fin, ⟨by walk_at "look", by walk_at "look", by walk_at "look", by walk_at "look", by walk_at "look"⟩, P, C, fun x hx => ?_⟩
      rw [etk] at hx
      rcases List.mem_append.mp hx with z | z
      · exact hf x z
      · simp at z; subst z; exact hif
    simp only [hif, List.not_mem_nil, or_self, decide_false, Bool.false_eq_true, if_false]
    refine t_nil ?_
    refine t_cons ?_
    refine t_while (CTop w nm g a ord sc (ord.take j) i) (Phi ord sc [] ps fin) ⟨c, [], ps, fin, i, t, ⟨by walk_at "look", by walk_at "look", by walk_at "look", by walk_at "look", by walk_at "look"⟩, by walk_at "look", P.start hio, C, rfl, hf, .inr (.inr rfl)⟩ fun n g1 m1 y4 => ?_
    obtain ⟨c, st, ps, fin, u, t, ⟨m1, m2, m3, m4, m5⟩, m6, P, C, hn, hf, hi⟩ := y4
    refine t_test rfl ?_
    repeat walk_at "st"
    first | with_reducible refine ite_t ?_ | simp only [if_true]
    refine tri_hide fun Q7 hQ7 => ?_
    refine t_cons (tri_mono (c_first (n := n) (i := i) (done := ord.take j) T inj S hle ⟨m1, m2, m3, m4, m5⟩ m6 P C hn hf hi) fun f g2 m2 q => ?_)
    cases f with
    | brk => exact q.elim
    | cont => exact q.elim
    | ret v => exact hQ7 _ _ _ (hQ40 _ _ _ q)
    | next =>
      refine t_cons (tri_mono (c_inner T inj S hle hin q) fun f g3 m3 q => ?_)
      cases f with
      | cont => exact q.elim
      | ret v => exact q.elim
      | next => exact t_nil (hQ7 _ _ _ q)
      | brk =>
        obtain ⟨c, ps, fin, hm, P, C, hf, hi⟩ := q
        refine hQ7 _ _ _ (t_nil (hQ40 _ _ _ ⟨c, ps, fin, hm, P, C, fun x hx => ?_⟩))
        rw [etk] at hx
        rcases List.mem_append.mp hx with z | z
        · exact hf x z
        · simp at z; subst z; exact hi
  · refine el_eeeaaa y3 fun c ps fin hm P C hf => ?_; clear y3
    refine t_nil ?_
    refine t_cons ?_
    repeat walk_at "st"
    refine ⟨C.sub, .inl ⟨rfl, P.acyc fun v hv => hf v ?_⟩⟩
    rw [List.length_map, List.take_length]; exact hv
end
noncomputable section
variable {w : World} {H : Heap} {O : OsState} {g : GH} {nm : Nat → Str} {a : SA} {ord : List Nat} {np : Nat → Int} {sc : Nat → List Nat} {po nf : Int} {rdy : Option (List Nat)}
def prepSt (w : World) (nm : Nat → Str) (a : SA) (ord : List Nat) (np : Nat → Int) (sc : Nat → List Nat) (po nf : Int) (g' : GH) : Prop := ∃ a' : SA, a'.x = a.x ∧ SH w nm g' a' ord np sc (some (ord.filter fun i => np i == 0)) po nf
theorem f_prep {k : Nat} (T : Tp (KK w.params) H) (inj : ∀ i j, nm i = nm j → i = j) (S : SH w nm g a ord np sc none po nf) (hle : ord.length ≤ 500) (hin : ∀ v ∈ ord, ∀ s ∈ sc v, s ∈ ord) :
    fnS w H O (k + 2) (.ref 92) ⟨[.ref a.x], []⟩ g (fun r g' => r = .none ∧ prepSt w nm a ord np sc po nf g' ∧ Acyc ord sc) (fun c g' => c = .ref 55 ∧ prepSt w nm a ord np sc po nf g' ∧ Cyc sc) := by
  refine fn_introX (fd := fd92) (binds := [(Str.ofString "self", .ref a.x)]) T rfl rfl (by kernel_rfl) rfl (fun s => BindsTo.of_eq (by kernel_rfl)) rfl (by decide +kernel) (locs (by kernel_rfl)) (fun L => ?_) (by kernel_rfl) (by kernel_rfl) (by kernel_rfl)
  refine tri_hide fun Q1 hQ1 => ?_
  rw [b1]
  refine t_cons ?_
  repeat walk_at "st"
  refine s_getRd T S ?_
  repeat walk_at "st"
  simp only [Option.isSome_none, Bool.false_eq_true, if_false]
  first | with_reducible refine ite_F (show (!(Value.none == Value.none)) = false from rfl) ?_ | (rw [show (!(Value.none == Value.none)) = false from rfl]; simp only [Bool.false_eq_true, if_false])
  refine t_nil ?_
  refine t_cons ?_
  repeat walk_at "st"
  refine t_lc (by kernel_rfl) (fun _ => by kernel_rfl) ?_
  repeat walk_at "st"
  refine s_getN2i T S ?_
  repeat walk_at "st"
  refine t_dmeth S.dict PySem.F.slot_dict_values PySem.F.type_dict_values ?_
  repeat walk_at "st"
  refine t_dvalues T S.dict fun dv hdv => ?_
  have S1 := S.other hdv (o := { cls := .type "dict_values", data := .fields #[.ref a.d] })
  generalize hg1 : gset g dv { cls := .type "dict_values", data := .fields #[.ref a.d] } = g1 at S1
  have e1 : g1 dv = some { cls := .type "dict_values", data := .fields #[.ref a.d] } := by rw [← hg1, gset_self]
  refine el_ea S1.dict fun od ed hd => ?_
  refine compAt_1 T (n := (ord.map fun i => (nm i, Value.ref (a.info i))).length) (Src := fun g => g a.d = some od) (fun j ys g' m' => g' = g1 ∧ SVs nm ((ord.take j).filter fun i => np i == 0) ys) (by kernel_rfl) (Starts.values ed hd e1) (by rw [List.length_map]; walk_at "om")
    (fun i ys g m h => h.1 ▸ ed) (fun g D o h hD => by rw [gset_ne (fun z => by rw [z, hD] at h; cases h)]; exact h) (fun mc _ => ⟨rfl, rfl⟩) (fun C j v new ys g' m' hj p5 p6 hf => ?_) fun D ys g' m' e p3 hD => ?_
  · first | refine tri_hide fun Q4 hQ4 => ?_ | skip
    obtain ⟨⟨kk, hk⟩, hnew⟩ := p5
    obtain ⟨hg', hys⟩ := p6
    subst hg' hnew
    rw [List.getElem?_map] at hk
    cases hi : ord[j]? with
    | none => rw [hi] at hk; cases hk
    | some i =>
    rw [hi] at hk
    cases hk
    have hio : i ∈ ord := List.mem_of_getElem? hi
    have etk : ord.take (j + 1) = ord.take j ++ [i] := by rw [List.take_add_one, hi]; rfl
    refine t_asgN (t_store (by kernel_rfl) ?_)
    refine hQ4 _ _ _ ?_
    refine t_tests1 ?_
    repeat walk_at "st"
    refine s_getNp T S1 hio fun t1 => ?_
    repeat walk_at "st"
    by_cases hz : np i = 0
    · simp only [hz, beq_self_eq_true, if_true]
      repeat walk_at "st"
      refine el_eeaa (S1.nod i hio) fun v t h1 h2 h3 => ?_
      refine n_get0 T h2 h3 rfl (by obtain ⟨t, rfl⟩ := h1; rfl) ⟨rfl, ?_⟩
      rw [etk, List.filter_append]
      simp only [List.filter_cons, hz, beq_self_eq_true, if_true, List.filter_nil]
      exact hys.snoc h1
    · have hz' : (np i == 0) = false := by simpa using hz
      simp only [hz', Bool.false_eq_true, if_false]
      refine ⟨rfl, ?_⟩
      rw [etk, List.filter_append]
      simp only [List.filter_cons, hz', Bool.false_eq_true, if_false, List.filter_nil, List.append_nil]
      exact hys
  · first | refine tri_hide fun Q2 hQ2 => ?_ | skip
    obtain ⟨hg', hys⟩ := p3
    subst hg'
    rw [List.length_map, List.take_length] at hys
    have S2 : SH w nm (gset g' D (lst ys e)) a ord np sc none po nf := S1.other hD
    have hD1 : D ≠ a.d := fun z => by rw [z, ed] at hD; cases hD
    have hD2 : ∀ i ∈ ord, D ≠ a.sl i := fun i hi z => by
      refine el_ea (S1.suc i hi) fun vs yy1 _ => ?_
      obtain ⟨n, q⟩ := yy1
      rw [z, q] at hD; cases hD
    repeat walk_at "st"
    refine hQ2 _ _ _ ?_
    refine s_setRd T S2 ⟨e, gset_self⟩ hys ⟨hD1, hD2⟩ fun g3 S3 => ?_
    refine t_cons ?_
    repeat walk_at "st"
    refine s_meth (f := 127) T S3 (by kernel_rfl) (by kernel_rfl) (by kernel_rfl) (fun _ _ _ _ _ => rfl) rfl ?_
    repeat walk_at "st"
    refine tri_call (f_cyc (k := k) (a := { a with r := D }) T inj S3 hle hin) fun r g4 p7 => ?_
    obtain ⟨hsub, hr⟩ := p7
    have S4 := S3.mono hsub
    repeat walk_at "st"
    refine t_test rfl ?_
    repeat walk_at "st"
    rcases hr with ⟨rfl, hA⟩ | ⟨D', vs', rfl, hD', hne, hvl, hC⟩
    · refine t_tnone ?_
      first | with_reducible refine ite_f ?_ | simp only [Bool.false_eq_true, if_false]
      exact t_nil (t_nil (hQ1 _ _ _ ⟨rfl, ⟨{ a with r := D }, rfl, S4⟩, hA⟩))
    · refine t_truL (.inl hD') (by walk_at "om") ?_
      have : vs'.isEmpty = false := by cases vs' with | nil => exact absurd rfl hne | cons => rfl
      rw [this]
      simp only [Bool.not_false, if_true]
      refine t_cons ?_
      refine t_raiseO (C := 55) T (ex55 _) PySem.F.excBase_ValueError (by kernel_rfl) (by kernel_rfl) ?_
      repeat walk_at "st"
      refine ⟨rfl, ?_⟩
      repeat walk_at "st"
      exact ⟨by simp, rfl, ⟨{ a with r := D }, rfl, S4⟩, hC⟩
end
noncomputable section
section
variable {w : World} {H : Heap} {O : OsState} {k : Nat} {hdl : Option Value} {X : ExcP} {env : Env} {g : GH} {m : LM}
theorem t_smethod {x : Str} {t : Tok} {name : Str} {id : String} {pl : Sem Bool} {Q : Value × List Value → GH → LM → Prop} (slot : Slot "str" name id) (hty : typeOf (.builtin id) = pure (.type "method_descriptor")) (h : Q (.builtin id, [.str x t]) g m) : tri w H O k hdl X env (getMethod (.str x t) name pl) g m Q :=
  tri_val (fun A fs base s P E a R F q => getMethod_builtin rfl PySem.F.plainAttrs_str slot hty (fun a' ea => nomatch ea) (q s.toks)) h
end
end
noncomputable section
variable {w : World} {H : Heap} {O : OsState} {g : GH}
theorem tri_hgH {α : Type} {k : Nat} {hdl : Option Value} {X : ExcP} {env : Env} {m : LM} {t : Sem α} {Q : α → GH → LM → Prop} (h : (∀ a o, H.get? a = some o → g a = none) → tri w H O k hdl X env t g m Q) : tri w H O k hdl X env t g m Q :=
  .mk fun A fs base s aa R F => (h (fun a o e => R.dj _ _ (R.top a o e).1)).run A fs base s aa R F
theorem gdel_back {e it : Addr} {o o' : Obj} (h1 : g it = none) (h2 : g e = none) : gdel (gset (gset g it o) e o') [e, it] = g := by
  funext b
  unfold gdel gset
  by_cases q : b = e
  · subst q; simp [h2]
  · by_cases q2 : b = it
    · subst q2; simp [h1]
    · simp [q, q2]
theorem find_at {α : Type} {p : α → Bool} : ∀ {l : List α} {j : Nat} {x : α}, (∀ (q : Nat), q < j → ∀ y, l[q]? = some y → p y = false) → l[j]? = some x → p x = true → l.find? p = some x
  | [], j, x, _, h, _ => by simp at h
  | y :: l, 0, x, _, h, hx => by simp at h; subst h; simp [hx]
  | y :: l, j + 1, x, h0, h, hx => by
    have h1 := h0 0 (by walk_at "om") y rfl
    rw [List.find?_cons, h1]
    exact find_at (j := j) (fun q hq z hz => h0 (q + 1) (by walk_at "om") z (by simpa using hz)) (by simpa using h) hx
theorem find_no {α : Type} {p : α → Bool} {l : List α} (h : ∀ (q : Nat) (y : α), l[q]? = some y → p y = false) : l.find? p = none := by
  rw [List.find?_eq_none]
  intro x hx
  obtain ⟨q, hq⟩ := List.getElem?_of_mem hx
  simp [h q x hq]
def fmRow : Nat → List (Int × Str)
  | 0 => [(40960, Str.ofString "l"), (49152, Str.ofString "s"), (32768, Str.ofString "-"), (24576, Str.ofString "b"), (16384, Str.ofString "d"), (8192, Str.ofString "c"), (4096, Str.ofString "p")]
  | 1 => [(256, Str.ofString "r")]
  | 2 => [(128, Str.ofString "w")]
  | 3 => [(2112, Str.ofString "s"), (2048, Str.ofString "S"), (64, Str.ofString "x")]
  | 4 => [(32, Str.ofString "r")]
  | 5 => [(16, Str.ofString "w")]
  | 6 => [(1032, Str.ofString "s"), (1024, Str.ofString "S"), (8, Str.ofString "x")]
  | 7 => [(4, Str.ofString "r")]
  | 8 => [(2, Str.ofString "w")]
  | 9 => [(513, Str.ofString "t"), (512, Str.ofString "T"), (1, Str.ofString "x")]
  | _ => []
def fmHit (i : Nat) (md : Int) (p : Int × Str) : Bool := if i = 0 then Builtin.bitAnd md 61440 == p.1 else Builtin.bitAnd md p.1 == p.1
def fmCh (md : Int) (i : Nat) : Str := match (fmRow i).find? (fmHit i md) with
  | some p => p.2
  | none => if i = 0 then Str.ofString "?" else Str.ofString "-"
def fmS (md : Int) : Str := Txt.join Str.empty ((List.range 10).map (fmCh md))
theorem fmRow_len : ∀ (i : Nat) (p : Int × Str), p ∈ fmRow i → p.2.length = 1
  | 0 => by decide +kernel
  | 1 => by decide +kernel
  | 2 => by decide +kernel
  | 3 => by decide +kernel
  | 4 => by decide +kernel
  | 5 => by decide +kernel
  | 6 => by decide +kernel
  | 7 => by decide +kernel
  | 8 => by decide +kernel
  | 9 => by decide +kernel
  | n + 10 => fun p hp => nomatch hp
theorem fmCh_len (md : Int) (i : Nat) : (fmCh md i).length = 1 := by
  unfold fmCh
  cases h : (fmRow i).find? (fmHit i md) with
  | some p => exact fmRow_len i p (List.mem_of_find?_eq_some h)
  | none => dsimp only; split <;> rfl
theorem topT {K : Frag} {a : Addr} {items : List Value} (T : Tp K H) (h : K.lookup a = some (tup items 0)) : IsT' H g a items := .inr ⟨_, T.X _ _ h, rfl, _, rfl⟩
def fmItems : List Value := [.ref 170, .ref 172, .ref 174, .ref 178, .ref 180, .ref 182, .ref 186, .ref 188, .ref 190, .ref 194]
def pairAt (H : Heap) (u : Value) (p : Int × Str) : Prop := ∃ pa t t', u = .ref pa ∧ IsTup H pa #[.int p.1 t, .str p.2 t']
def pairsAt (H : Heap) : List Value → List (Int × Str) → Prop
  | [], [] => True
  | u :: us, p :: ps => pairAt H u p ∧ pairsAt H us ps
  | _, _ => False
theorem pairsAt.len : ∀ {us : List Value} {ps : List (Int × Str)}, pairsAt H us ps → us.length = ps.length
  | [], [], _ => rfl
  | u :: us, p :: ps, h => by simp [h.2.len]
  | [], _ :: _, h => h.elim
  | _ :: _, [], h => h.elim
theorem pairsAt.get : ∀ {us : List Value} {ps : List (Int × Str)} {j : Nat} {u : Value}, pairsAt H us ps → us[j]? = some u → ∃ p, ps[j]? = some p ∧ pairAt H u p
  | u :: us, p :: ps, 0, v, h, e => by simp at e; subst e; exact ⟨p, rfl, h.1⟩
  | u :: us, p :: ps, j + 1, v, h, e => by
    refine el_ea (pairsAt.get (j := j) h.2 (by simpa using e)) fun q h1 h2 => ?_
    exact ⟨q, by simpa using h1, h2⟩
  | [], [], j, v, _, e => by simp at e
  | [], _ :: _, _, _, h, _ => h.elim
  | _ :: _, [], _, _, h, _ => h.elim
theorem pairsAt.cons {u : Value} {us : List Value} {p : Int × Str} {ps : List (Int × Str)} (h1 : pairAt H u p) (h2 : pairsAt H us ps) : pairsAt H (u :: us) (p :: ps) := ⟨h1, h2⟩
theorem fm_pair {K : Frag} {pa : Addr} {b : Int} {c : Str} {t t' : Tok} (T : Tp K H) (h : K.lookup pa = some (tup [.int b t, .str c t'] 0)) : pairAt H (.ref pa) (b, c) := ⟨pa, t, t', rfl, _, T.X _ _ h, rfl, _, rfl⟩
theorem fm_at (T : Tp (KK w.params) H) {i : Nat} {v : Value} (h : fmItems[i]? = some v) : ∃ ta us, v = .ref ta ∧ IsTup H ta us.toArray ∧ pairsAt H us (fmRow i) := by
  have hi := (List.getElem?_eq_some_iff.mp h).1
  have hi : i < 10 := hi
  match i, hi with
  | 0, _ => cases h; exact ⟨170, [.ref 163, .ref 164, .ref 165, .ref 166, .ref 167, .ref 168, .ref 169], rfl, ⟨_, T.X _ (tup [.ref 163, .ref 164, .ref 165, .ref 166, .ref 167, .ref 168, .ref 169] 0) rfl, rfl, _, rfl⟩, (.cons (fm_pair T rfl) (.cons (fm_pair T rfl) (.cons (fm_pair T rfl) (.cons (fm_pair T rfl) (.cons (fm_pair T rfl) (.cons (fm_pair T rfl) (.cons (fm_pair T rfl) trivial)))))))⟩
  | 1, _ => cases h; exact ⟨172, [.ref 171], rfl, ⟨_, T.X _ (tup [.ref 171] 0) rfl, rfl, _, rfl⟩, (.cons (fm_pair T rfl) trivial)⟩
  | 2, _ => cases h; exact ⟨174, [.ref 173], rfl, ⟨_, T.X _ (tup [.ref 173] 0) rfl, rfl, _, rfl⟩, (.cons (fm_pair T rfl) trivial)⟩
  | 3, _ => cases h; exact ⟨178, [.ref 175, .ref 176, .ref 177], rfl, ⟨_, T.X _ (tup [.ref 175, .ref 176, .ref 177] 0) rfl, rfl, _, rfl⟩, (.cons (fm_pair T rfl) (.cons (fm_pair T rfl) (.cons (fm_pair T rfl) trivial)))⟩
  | 4, _ => cases h; exact ⟨180, [.ref 179], rfl, ⟨_, T.X _ (tup [.ref 179] 0) rfl, rfl, _, rfl⟩, (.cons (fm_pair T rfl) trivial)⟩
  | 5, _ => cases h; exact ⟨182, [.ref 181], rfl, ⟨_, T.X _ (tup [.ref 181] 0) rfl, rfl, _, rfl⟩, (.cons (fm_pair T rfl) trivial)⟩
  | 6, _ => cases h; exact ⟨186, [.ref 183, .ref 184, .ref 185], rfl, ⟨_, T.X _ (tup [.ref 183, .ref 184, .ref 185] 0) rfl, rfl, _, rfl⟩, (.cons (fm_pair T rfl) (.cons (fm_pair T rfl) (.cons (fm_pair T rfl) trivial)))⟩
  | 7, _ => cases h; exact ⟨188, [.ref 187], rfl, ⟨_, T.X _ (tup [.ref 187] 0) rfl, rfl, _, rfl⟩, (.cons (fm_pair T rfl) trivial)⟩
  | 8, _ => cases h; exact ⟨190, [.ref 189], rfl, ⟨_, T.X _ (tup [.ref 189] 0) rfl, rfl, _, rfl⟩, (.cons (fm_pair T rfl) trivial)⟩
  | 9, _ => cases h; exact ⟨194, [.ref 191, .ref 192, .ref 193], rfl, ⟨_, T.X _ (tup [.ref 191, .ref 192, .ref 193] 0) rfl, rfl, _, rfl⟩, (.cons (fm_pair T rfl) (.cons (fm_pair T rfl) (.cons (fm_pair T rfl) trivial)))⟩
section
variable {L D : Addr} {k i j : Nat} {md : Int} {t : Tok} {g' : GH} {m : LM} {v : Value}
noncomputable def fmFor : Stmt := stAt (fBody (sAt 31)) 1
noncomputable def fmIn : Stmt := stAt (forB fmFor) 0
noncomputable abbrev fmEnv (L : Addr) : Env := callEnv fd202 L 202
def FmJ (g : GH) (D : Addr) (md : Int) (t : Tok) (i : Nat) (g' : GH) (m' : LM) : Prop := Sub g g' ∧ m' (Str.ofString "perm") = some (.ref D) ∧ m' (Str.ofString "mode") = some (.int md t) ∧ ∃ vs, IsL g' D vs ∧ StrsAre vs ((List.range i).map (fmCh md))
theorem StrsAre.snoc {vs : List Value} {ys : List Str} {y : Str} {t : Tok} (h : StrsAre vs ys) : StrsAre (vs ++ [.str y t]) (ys ++ [y]) := by
  induction h with
  | nil => exact .cons _ _ .nil
  | cons y t h ih => exact .cons _ _ ih
theorem StrsAre.len {vs : List Value} {ys : List Str} (h : StrsAre vs ys) : vs.length = ys.length := by
  induction h with
  | nil => rfl
  | cons y t h ih => simp [ih]
theorem fm_inner (T : Tp (KK w.params) H) {ta : Addr} {us : List Value} {ti : Tok} (hi : i < 10) (hta : IsTup H ta us.toArray) (hp : pairsAt H us (fmRow i)) (hD : g D = none) (hJ : FmJ g D md t i g' m) (m1 : m (Str.ofString "index") = some (.int i ti)) (m2 : m (Str.ofString "table") = some (.ref ta)) :
    tri w H O (k + 1) none noX (fmEnv L) (exec fmIn (fmEnv L)) g' m fun f g2 m2 => match f with | .next => FmJ g D md t (i + 1) g2 m2 | _ => False := by
  refine tri_hide fun Q1 hQ1 => ?_
  have hpl := hp.len
  refine t_for (fun _ => by kernel_rfl) ?_
  repeat walk_at "st"
  have er : List.range (i + 1) = List.range i ++ [i] := List.range_succ
  refine t_forP (n := us.length) (P := fun j u => us[j]? = some u) (Src := fun g => IsT' H g ta us) (fun jj g2 m2 => FmJ g D md t i g2 m2 ∧ m2 (Str.ofString "index") = some (.int i ti) ∧ ∀ (q : Nat), q < jj → ∀ y, (fmRow i)[q]? = some y → fmHit i md y = false)
    (Starts.tuple (.inr hta)) (fun _ _ _ _ => .inr hta) ⟨hJ, m1, fun q hq => absurd hq (Nat.not_lt_zero q)⟩ (fun jj u g2 m2 hj hu p5 => ?_) fun g2 m2 p3 => ?_
  · first | refine tri_hide fun Q4 hQ4 => ?_ | skip
    refine el_aa p5 fun yy1 h6 h7 => ?_; clear p5
    obtain ⟨h1, h2, h3, vs, h4, h5⟩ := yy1
    obtain ⟨⟨b, c⟩, hbc, pa, tb, tc, rfl, hpa⟩ := hp.get hu
    have hvl := StrsAre.len h5
    simp only [List.length_map, List.length_range] at hvl
    refine t_two (.inr hpa) ?_
    repeat walk_at "st"
    have fin : ∀ e, fmHit i md (b, c) = true → FmJ g D md t (i + 1) (gset g2 D (lst (vs ++ [.str c tc]) e)) (mset (mset m2 (Str.ofString "bit") (.int b tb)) (Str.ofString "char") (.str c tc)) := fun e hh => by
      refine ⟨h1.put hD, by walk_at "look", by walk_at "look", _, ⟨e, gset_self⟩, ?_⟩
      rw [er, List.map_append, List.map_singleton]
      have : fmCh md i = c := by unfold fmCh; rw [find_at h7 hbc hh]
      rw [this]
      exact StrsAre.snoc h5
    have nx : fmHit i md (b, c) = false → ∀ (q : Nat), q < jj + 1 → ∀ y, (fmRow i)[q]? = some y → fmHit i md y = false := fun hh q hq y hy => by
      by_cases z : q = jj
      · subst z; rw [hbc] at hy; cases hy; exact hh
      · exact h7 q (by walk_at "om") y hy
    refine hQ4 _ _ _ ?_
    refine tri_hide fun Q40 hQ40 => ?_
    repeat walk_at "st"
    by_cases h0 : i = 0
    · have hz : ((i : Int) == 0) = true := by subst h0; rfl
      first | with_reducible refine ite_T hz ?_ | (rw [hz]; simp only [if_true])
      refine t_cons ?_
      repeat walk_at "st"
      refine tri_call (f_S_IFMT (k := k) T) fun v g3 p6 => ?_
      refine el_ae p6 fun e3 t3 e4 => ?_; clear p6
      subst e3 e4
      repeat walk_at "st"
      cases hh : fmHit i md (b, c) with
      | true =>
        have hh' := hh
        unfold fmHit at hh'
        rw [if_pos h0] at hh'
        dsimp only at hh'
        first | with_reducible refine ite_T hh' ?_ | (rw [hh']; simp only [if_true])
        refine t_cons ?_
        repeat walk_at "st"
        refine t_append h4 ?_
        repeat walk_at "st"
        refine t_app h4 (by walk_at "om") fun e => ?_
        refine t_cons ?_
        repeat walk_at "st"
        exact hQ40 _ _ _ (hQ1 _ _ _ (fin e hh))
      | false =>
        have hh' := hh
        unfold fmHit at hh'
        rw [if_pos h0] at hh'
        dsimp only at hh'
        first | with_reducible refine ite_F hh' ?_ | (rw [hh']; simp only [Bool.false_eq_true, if_false])
        exact t_nil (t_nil (t_nil (hQ40 _ _ _ ⟨⟨h1, by walk_at "look", by walk_at "look", vs, h4, h5⟩, by walk_at "look", nx hh⟩)))
    · have hz : ((i : Int) == 0) = false := by simpa using h0
      first | with_reducible refine ite_F hz ?_ | (rw [hz]; simp only [Bool.false_eq_true, if_false])
      refine t_cons ?_
      repeat walk_at "st"
      cases hh : fmHit i md (b, c) with
      | true =>
        have hh' := hh
        unfold fmHit at hh'
        rw [if_neg h0] at hh'
        dsimp only at hh'
        first | with_reducible refine ite_T hh' ?_ | (rw [hh']; simp only [if_true])
        refine t_cons ?_
        repeat walk_at "st"
        refine t_append h4 ?_
        repeat walk_at "st"
        refine t_app h4 (by walk_at "om") fun e => ?_
        refine t_cons ?_
        repeat walk_at "st"
        exact hQ40 _ _ _ (hQ1 _ _ _ (fin e hh))
      | false =>
        have hh' := hh
        unfold fmHit at hh'
        rw [if_neg h0] at hh'
        dsimp only at hh'
        first | with_reducible refine ite_F hh' ?_ | (rw [hh']; simp only [Bool.false_eq_true, if_false])
        exact t_nil (t_nil (t_nil (hQ40 _ _ _ ⟨⟨h1, by walk_at "look", by walk_at "look", vs, h4, h5⟩, by walk_at "look", nx hh⟩)))
  · first | refine tri_hide fun Q2 hQ2 => ?_ | skip
    refine el_aa p3 fun yy4 h6 h7 => ?_; clear p3
    obtain ⟨h1, h2, h3, vs, h4, h5⟩ := yy4
    have hvl := StrsAre.len h5
    simp only [List.length_map, List.length_range] at hvl
    have hno : (fmRow i).find? (fmHit i md) = none := find_no fun q y hq => h7 q (by rw [hpl]; exact (List.getElem?_eq_some_iff.mp hq).1) y hq
    have fin : ∀ e t', FmJ g D md t (i + 1) (gset g2 D (lst (vs ++ [.str (if i = 0 then Str.ofString "?" else Str.ofString "-") t']) e)) m2 := fun e t' => by
      refine ⟨h1.put hD, h2, h3, _, ⟨e, gset_self⟩, ?_⟩
      rw [er, List.map_append, List.map_singleton]
      have : fmCh md i = (if i = 0 then Str.ofString "?" else Str.ofString "-") := by unfold fmCh; rw [hno]
      rw [this]
      exact StrsAre.snoc h5
    refine t_cons ?_
    repeat walk_at "st"
    by_cases h0 : i = 0
    · have hz : ((i : Int) == 0) = true := by subst h0; rfl
      first | with_reducible refine ite_T hz ?_ | (rw [hz]; simp only [if_true])
      refine t_cons ?_
      repeat walk_at "st"
      refine t_append h4 ?_
      repeat walk_at "st"
      refine t_app h4 (by walk_at "om") fun e => ?_
      refine t_nil (t_nil ?_)
      have := fin e
      simp only [if_pos h0] at this
      refine hQ2 _ _ _ ?_
      refine hQ1 _ _ _ ?_
      exact this _
    · have hz : ((i : Int) == 0) = false := by simpa using h0
      first | with_reducible refine ite_F hz ?_ | (rw [hz]; simp only [Bool.false_eq_true, if_false])
      refine t_cons ?_
      repeat walk_at "st"
      refine t_append h4 ?_
      repeat walk_at "st"
      refine t_app h4 (by walk_at "om") fun e => ?_
      refine t_nil (t_nil ?_)
      have := fin e
      simp only [if_neg h0] at this
      refine hQ2 _ _ _ ?_
      refine hQ1 _ _ _ ?_
      exact this _
end
theorem f_filemode {k : Nat} {md : Int} {t : Tok} (T : Tp (KK w.params) H) : fnS w H O (k + 2) (.ref 202) ⟨[.int md t], []⟩ g (fun v g' => Sub g g' ∧ ∃ t', v = .str (fmS md) t') no2 := by
  refine fn_intro (fd := fd202) (binds := [(Str.ofString "mode", .int md t)]) T rfl rfl (by kernel_rfl) rfl (fun s => BindsTo.of_eq (by kernel_rfl)) rfl (by decide +kernel) (locs (by kernel_rfl)) (fun L => ?_) (by kernel_rfl) (by kernel_rfl) (by kernel_rfl)
  refine tri_hide fun Q1 hQ1 => ?_
  rw [b1]
  refine t_cons ?_
  repeat walk_at "st"
  refine t_list ?_
  repeat walk_at "st"
  refine ⟨by simp, fun D hD => ?_⟩
  repeat walk_at "st"
  refine t_for (fun _ => by kernel_rfl) ?_
  repeat walk_at "st"
  have hl : IsT' H (gset g D (lst [] 0)) 195 fmItems := topT T rfl
  refine t_enumT hl fun it e hit he hne => ?_
  have hie : e ≠ it := hne
  refine tri_hgH fun hgH => ?_
  refine t_forS (fun i g' m' => FmJ g D md t i g' m') (Starts.enumT (items := fmItems) gset_self (by rw [gset_ne hie.symm, gset_self]) (topT T rfl) hgH) (fun i g' m' _ => topT T rfl) ?_ (fun i v new g' m' hi p5 hJ hnew => ?_) fun g' m' p3 => ?_
  · rw [gdel_back hit he]
    exact ⟨(sub_refl).put hD, by walk_at "look", by walk_at "look", [], ⟨0, gset_self⟩, .nil⟩
  · first | refine tri_hide fun Q4 hQ4 => ?_ | skip
    obtain ⟨TT, o, vals, n, e1, e2, e3, e4, tx, x, e5, e6⟩ := p5
    subst e1 e2
    have hi : i < 10 := hi
    refine el_eeaa (fm_at T e5) fun ta us yy5 hta hp => ?_
    obtain rfl := yy5
    obtain ⟨h1, h2, h3, vs, h4, h5⟩ := hJ
    have hT := hnew (TT, o) rfl
    have hDT : D ≠ TT := fun z => by obtain ⟨n, q⟩ := h4; rw [z, hT] at q; cases q
    refine t_two (.inl ⟨o, n, gset_self, e3, by rw [e4, e6]⟩) ?_
    repeat walk_at "st"
    refine hQ4 _ _ _ ?_
    refine tri_hide fun Q40 hQ40 => ?_
    repeat walk_at "st"
    refine tri_mono (fm_inner (k := k) (t := t) T hi hta hp hD ⟨fun a o' q => by show gset g' TT o a = _; rw [gset_ne (fun z => by rw [z, h1.none hT] at q; cases q)]; exact h1 a o' q, by walk_at "look", by walk_at "look", vs, h4.ne hDT, h5⟩ (by walk_at "look") (by walk_at "look")) fun f g2 m2 q => ?_
    cases f with
    | next => exact t_nil (hQ40 _ _ _ q)
    | _ => exact q.elim
  · first | refine tri_hide fun Q2 hQ2 => ?_ | skip
    obtain ⟨h1, h2, h3, vs, h4, h5⟩ := p3
    refine t_nil ?_
    refine hQ2 _ _ _ ?_
    refine tri_hide fun Q20 hQ20 => ?_
    refine t_cons ?_
    repeat walk_at "st"
    refine t_smethod PySem.F.slot_str_join PySem.F.type_str_join ?_
    repeat walk_at "st"
    refine t_join (.inl h4) h5 ?_ fun n => ?_
    · have e : ((List.range fmItems.length).map (fmCh md)).map (·.length) = (List.range 10).map (fun _ => 1) := by
        rw [List.map_map]; exact List.map_congr_left fun j _ => fmCh_len md j
      rw [e, show (Str.ofString "").length = 0 from rfl, Nat.mul_zero]
      decide +kernel
    · exact (hQ20 _ _ _ (hQ1 _ _ _ ⟨h1, n, rfl⟩))
end
noncomputable section
variable {w : World} {H : Heap} {O : OsState} {g : GH}
def rdI (k0 : Nat) (r v l : Nat → Nat) : Nat → Int
  | 0 => (k0 : Int) * 4096
  | p + 1 => rdI k0 r v l p + ((((r p : Int) * 4 + (v p : Int) * 2) + Int.fmod (l p) 2) * 8 ^ ((2 : Int) - p).toNat + Int.fdiv (l p) 2 * Int.fdiv 2048 (2 ^ (p : Int).toNat))
abbrev occ1 (x y : Str) (i : Nat) : Prop := ∃ rest, Builtin.Str.occurrences x y 0 x.length 1 = i :: rest
def rdL (p : Nat) : Str := if p = 2 then Str.ofString "-xTt" else Str.ofString "-xSs"
structure Reads (x : Str) (k0 : Nat) (r v l : Nat → Nat) : Prop where
  len : x.length = 10
  h0 : occ1 (Str.ofString "?pc?d?b?-?l?s") (Txt.item x 0) k0
  hr : ∀ p : Nat, p < 3 → occ1 (Str.ofString "-r") (Txt.item x (1 + 3 * p)) (r p)
  hv : ∀ p : Nat, p < 3 → occ1 (Str.ofString "-w") (Txt.item x (2 + 3 * p)) (v p)
  hl : ∀ p : Nat, p < 3 → occ1 (rdL p) (Txt.item x (3 + 3 * p)) (l p) ∧ l p < 4
section
variable {k : Nat} {hdl : Option Value} {X : ExcP} {env : Env} {m : LM}
theorem t_mulc {a b : Int} {t u : Tok} {Q : Value → GH → LM → Prop} (hb : Builtin.Int.intBits b ≤ 64) (h : ∀ n, Q (.int (a * b) n) g m) : tri w H O k hdl X env (binaryOp .Mult (.int a t) (.int b u)) g m Q := t_mul (.of_right hb) h
theorem t_divc {a b : Int} {t u : Tok} {Q : Value → GH → LM → Prop} (hb : b ≠ 0) (hb2 : b.natAbs.log2 < 9000) (h : ∀ n, Q (.int (a.fdiv b) n) g m) : tri w H O k hdl X env (binaryOp .FloorDiv (.int a t) (.int b u)) g m Q := t_div hb (PyProof.noPylong_of_log2 hb2) h
end
theorem rd_hit {i : Nat} (hi : i < 3) (ta tb tc : Tok) : ∃ tt, [Value.str (Str.ofString "-xSs") ta, .str (Str.ofString "-xSs") tb, .str (Str.ofString "-xTt") tc][(i : Int).toNat]? = some (.str (rdL i) tt) := by
  match i, hi with
  | 0, _ => exact ⟨ta, rfl⟩
  | 1, _ => exact ⟨tb, rfl⟩
  | 2, _ => exact ⟨tc, rfl⟩
theorem rd_b1 {i : Nat} (hi : i < 3) : Builtin.Int.intBits (8 ^ ((2 : Int) - i).toNat) ≤ 64 := by
  match i, hi with
  | 0, _ => decide +kernel
  | 1, _ => decide +kernel
  | 2, _ => decide +kernel
theorem rd_b2 {i : Nat} (hi : i < 3) : Builtin.Int.intBits (Int.fdiv 2048 (2 ^ (i : Int).toNat)) ≤ 64 := by
  match i, hi with
  | 0, _ => decide +kernel
  | 1, _ => decide +kernel
  | 2, _ => decide +kernel
theorem rd_fit {i : Nat} (hi : i < 3) (c : Nat) (hc : c ≤ 3) : fitsSsize ((c : Int) + 3 * i) = true := by
  match i, hi, c, hc with
  | 0, _, 0, _ => decide +kernel
  | 0, _, 1, _ => decide +kernel
  | 0, _, 2, _ => decide +kernel
  | 0, _, 3, _ => decide +kernel
  | 1, _, 0, _ => decide +kernel
  | 1, _, 1, _ => decide +kernel
  | 1, _, 2, _ => decide +kernel
  | 1, _, 3, _ => decide +kernel
  | 2, _, 0, _ => decide +kernel
  | 2, _, 1, _ => decide +kernel
  | 2, _, 2, _ => decide +kernel
  | 2, _, 3, _ => decide +kernel
noncomputable abbrev rdEnv (L : Addr) : Env := callEnv fd214 L 214
set_option maxHeartbeats 4000000 in
theorem rd_turn {k : Nat} {x : Str} {t tv t4 : Tok} {k0 i : Nat} {r v l : Nat → Nat} {L : Addr} {g' : GH} {m' : LM} (T : Tp (KK w.params) H) (hx : Reads x k0 r v l) (hi : i < 3) (h1 : Sub g g') (h2 : m' (Str.ofString "signs") = some (.str x t)) (h3 : m' (Str.ofString "mode") = some (.int (rdI k0 r v l i) t4)) (h4 : m' (Str.ofString "part") = some (.int i tv)) :
    tri w H O k none noX (rdEnv L) (execs (forB (stAt (fBody (sAt 34)) 1)) (rdEnv L)) g' m' fun f g2 m2 => match f with | .next => Sub g g2 ∧ m2 (Str.ofString "signs") = some (.str x t) ∧ ∃ t', m2 (Str.ofString "mode") = some (.int (rdI k0 r v l (i + 1)) t') | _ => False := by
  refine tri_hide fun Q1 hQ1 => ?_
  have hlen := hx.len
  refine t_cons ?_
  repeat walk_at "st"
  have hf := rd_fit hi
  refine t_smethod PySem.F.slot_str_index PySem.F.type_str_index ?_
  repeat walk_at "st"
  refine t_mul (.of_left (by decide +kernel)) fun t5 => ?_
  repeat walk_at "st"
  refine t_idxS (hf 1 (by walk_at "om")) (by walk_at "om") (by walk_at "om") (fun t1 => ?_) (by kernel_rfl) (fun _ => by kernel_rfl)
  repeat walk_at "st"
  obtain ⟨_, e1⟩ := hx.hr i hi
  refine t_sindex e1 fun t2 => ?_
  repeat walk_at "st"
  refine t_mulc (by decide +kernel) fun t3 => ?_
  repeat walk_at "st"
  refine t_smethod PySem.F.slot_str_index PySem.F.type_str_index ?_
  repeat walk_at "st"
  refine t_mul (.of_left (by decide +kernel)) fun t5 => ?_
  repeat walk_at "st"
  refine t_idxS (hf 2 (by walk_at "om")) (by walk_at "om") (by walk_at "om") (fun t1 => ?_) (by kernel_rfl) (fun _ => by kernel_rfl)
  repeat walk_at "st"
  obtain ⟨_, e2⟩ := hx.hv i hi
  refine t_sindex e2 fun t2 => ?_
  repeat walk_at "st"
  refine t_mulc (by decide +kernel) fun t3 => ?_
  repeat walk_at "st"
  refine t_tuple ?_
  repeat walk_at "st"
  refine ⟨by simp, fun D hD => ?_⟩
  repeat walk_at "st"
  obtain ⟨⟨_, e3⟩, hl4⟩ := hx.hl i hi
  rename_i ta tb tc _
  obtain ⟨tt, hit⟩ := rd_hit hi ta tb tc
  refine t_idxT ⟨_, 0, gset_self, rfl, rfl⟩ (by omega) (by omega) hit ?_ (by kernel_rfl)
  repeat walk_at "st"
  refine t_smethod PySem.F.slot_str_index PySem.F.type_str_index ?_
  repeat walk_at "st"
  refine t_mul (.of_left (by decide +kernel)) fun t5 => ?_
  repeat walk_at "st"
  refine t_idxS (hf 3 (by walk_at "om")) (by walk_at "om") (by walk_at "om") (fun t1 => ?_) (by kernel_rfl) (fun _ => by kernel_rfl)
  repeat walk_at "st"
  refine t_sindex e3 fun t2 => ?_
  repeat walk_at "st"
  refine t_loadloc (by kernel_rfl) (by walk_at "look") ?_
  repeat walk_at "st"
  refine t_pow (b := (2 : Int) - i) (by walk_at "om") (by walk_at "om") (by decide +kernel) fun t6 => ?_
  refine t_mul (.of_right (rd_b1 hi)) fun t7 => ?_
  repeat walk_at "st"
  refine t_divc (by decide) (by decide +kernel) fun t8 => ?_
  repeat walk_at "st"
  refine t_shr (by walk_at "om") fun t9 => ?_
  refine t_mul (.of_right (rd_b2 hi)) fun t10 => ?_
  repeat walk_at "st"
  rename_i tz
  refine (hQ1 _ _ _ ⟨h1.put (h1.none hD), by walk_at "look", tz, ?_⟩)
  rw [rdI]
  walk_at "look"
set_option maxHeartbeats 4000000 in
theorem f_read {k : Nat} {x : Str} {t : Tok} {k0 : Nat} {r v l : Nat → Nat} (T : Tp (KK w.params) H) (hx : Reads x k0 r v l) : fnS w H O (k + 1) (.ref 214) ⟨[.str x t], []⟩ g (fun y g' => Sub g g' ∧ ∃ t', y = .int (rdI k0 r v l 3) t') no2 := by
  refine fn_intro (fd := fd214) (binds := [(Str.ofString "signs", .str x t)]) T rfl rfl (by kernel_rfl) rfl (fun s => BindsTo.of_eq (by kernel_rfl)) rfl (by decide +kernel) (locs (by kernel_rfl)) (fun L => ?_) (by kernel_rfl) (by kernel_rfl) (by kernel_rfl)
  refine tri_hide fun Q1 hQ1 => ?_
  rw [b1]
  have hlen := hx.len
  refine t_cons ?_
  repeat walk_at "st"
  refine t_smethod PySem.F.slot_str_index PySem.F.type_str_index ?_
  repeat walk_at "st"
  refine t_idxS (by decide +kernel) (by walk_at "om") (by walk_at "om") (fun t1 => ?_) (by kernel_rfl) (fun _ => by kernel_rfl)
  repeat walk_at "st"
  obtain ⟨_, h0⟩ := hx.h0
  refine t_sindex h0 fun t2 => ?_
  repeat walk_at "st"
  refine t_mulc (by decide +kernel) fun t3 => ?_
  repeat walk_at "st"
  refine t_for (fun _ => by kernel_rfl) ?_
  repeat walk_at "st"
  refine t_range (n := 3) rfl fun rr oo hrr hR => ?_
  refine t_forP (fun i g' m' => Sub g g' ∧ m' (Str.ofString "signs") = some (.str x t) ∧ ∃ t', m' (Str.ofString "mode") = some (.int (rdI k0 r v l i) t')) (Starts.range (hR _ gset_self) (by decide)) (fun _ _ _ _ => trivial) ⟨sub_refl.put hrr, by walk_at "look", t3, by unfold rdI; walk_at "look"⟩ (fun i vv g' m' hi p5 p6 => ?_) fun g' m' p3 => ?_
  · first | refine tri_hide fun Q4 hQ4 => ?_ | skip
    obtain ⟨tv, hv⟩ := p5
    obtain ⟨h1, h2, t4, h3⟩ := p6
    subst hv
    refine t_asgN ?_
    refine t_sto (by kernel_rfl) (by kernel_rfl) ?_
    refine hQ4 _ _ _ ?_
    refine tri_mono (rd_turn (t := t) (i := i) T hx hi h1 (by walk_at "look") (by walk_at "look") (by walk_at "look")) fun f g2 m2 q => ?_
    cases f with
    | next => exact q
    | _ => exact q.elim
  · first | refine tri_hide fun Q2 hQ2 => ?_ | skip
    obtain ⟨h1, h2, t4, h3⟩ := p3
    refine t_nil ?_
    refine hQ2 _ _ _ ?_
    refine tri_hide fun Q20 hQ20 => ?_
    refine t_cons ?_
    repeat walk_at "st"
    exact (hQ20 _ _ _ (hQ1 _ _ _ ⟨h1, t4, rfl⟩))
end
noncomputable section
variable {w : World} {H : Heap} {O : OsState} {g : GH} {nm : Nat → Str} {a : SA} {ord : List Nat} {np : Nat → Int} {sc : Nat → List Nat} {po nf : Int} {l : List Nat}
theorem f_refused {k : Nat} {i : Nat} {v : Value} (T : Tp (KK w.params) H) (inj : ∀ i j, nm i = nm j → i = j) (S : SH w nm g a ord np sc (some l) po nf) (hv : SV nm i v) (hi : i ∈ ord) (hst : 0 ≤ np i) (hre : (reprText (nm i)).length ≤ 1000) :
    fnS w H O (k + 2) (.ref 221) ⟨[.ref a.x, v], []⟩ g (fun r g' => r = .bool true ∧ Sub g g') no2 := by
  refine fn_intro (fd := fd221) (binds := [(Str.ofString "sorter", .ref a.x), (Str.ofString "name", v)]) T rfl rfl (by kernel_rfl) rfl (fun s => BindsTo.of_eq (by kernel_rfl)) rfl (by decide +kernel) (locs (by kernel_rfl)) (fun L => ?_) (by kernel_rfl) (by kernel_rfl) (by kernel_rfl)
  refine tri_hide fun Q1 hQ1 => ?_
  rw [b2]
  refine t_cons ?_
  refine t_try (P := fun c' g2 m2 => c' = .type "ValueError" ∧ Sub g g2) rfl rfl ?_ fun c' e g2 m2' p2 => ?_
  · refine t_cons ?_
    repeat walk_at "st"
    refine s_meth (f := 120) T S (by kernel_rfl) (by kernel_rfl) (by kernel_rfl) (fun _ _ _ _ _ => rfl) rfl ?_
    repeat walk_at "st"
    refine tri_callX (f_doneX (k := k) T inj S hv hi hst hre) (fun _ _ h => h.elim) fun c g' z1 => by obtain ⟨h1, f, h2, h3⟩ := z1; exact ⟨h1, h2 ▸ sub_uni⟩
  · obtain ⟨hc, hg⟩ := p2
    subst hc
    repeat walk_at "st"
    refine ⟨fun A s ea oe Qb E he hg ho hc hq => by subst he; exact match_value ho hc hq, ?_⟩
    refine t_cons ?_
    repeat walk_at "st"
    exact (hQ1 _ _ _ ⟨rfl, hg⟩)
end
noncomputable section
variable {w : World} {H : Heap} {O : OsState} {g : GH}
def IL (g : GH) (a : Addr) (n : Nat) (f : Nat → Nat) : Prop := ∃ vs, IsL g a vs ∧ vs.length = n ∧ ∀ i, i < n → ∃ t, vs[i]? = some (.int (f i : Nat) t)
theorem fdiv_nat (a b : Nat) : Int.fdiv (a : Int) (b : Int) = ((a / b : Nat) : Int) := by
  rw [Int.fdiv_eq_ediv_of_nonneg _ (Int.natCast_nonneg _)]; rfl
theorem fmod_nat (a b : Nat) : Int.fmod (a : Int) (b : Int) = ((a % b : Nat) : Int) := by
  rw [Int.fmod_eq_emod_of_nonneg _ (Int.natCast_nonneg _)]; rfl
def itr (tg : Nat → Nat) : Nat → Nat → Nat
  | 0, p => p
  | t + 1, p => tg (itr tg t p)
def goes (n : Nat) (md tg : Nat → Nat) (p t : Nat) : Prop := itr tg t p < n ∧ md (itr tg t p) / 4096 = 10 ∧ t ≤ n
def FarAt (n : Nat) (md tg : Nat → Nat) (p t : Nat) : Prop := (∀ s, s < t → goes n md tg p s) ∧ ¬ goes n md tg p t
section
variable {L am at' : Addr} {k n p : Nat} {md tg : Nat → Nat} {tp : Tok}
noncomputable abbrev fwEnv (L : Addr) : Env := callEnv fd233 L 233
def FwJ (am at' : Addr) (n : Nat) (md tg : Nat → Nat) (p : Nat) (g : GH) (c : Nat) (g' : GH) (m' : LM) : Prop := g' = g ∧ m' (Str.ofString "modes") = some (.ref am) ∧ m' (Str.ofString "targets") = some (.ref at') ∧ ∃ t ts tf, c = n + 2 - t ∧ m' (Str.ofString "spot") = some (.int (itr tg t p : Nat) ts) ∧ m' (Str.ofString "far") = some (.int (t : Nat) tf) ∧ ∀ s, s < t → goes n md tg p s
theorem FwJ.zero {ts tf : Tok} {m : LM} (h1 : m (Str.ofString "modes") = some (.ref am)) (h2 : m (Str.ofString "targets") = some (.ref at')) (h3 : m (Str.ofString "spot") = some (.int (p : Nat) ts)) (h4 : m (Str.ofString "far") = some (.int 0 tf)) : FwJ am at' n md tg p g (n + 2) g m := ⟨rfl, h1, h2, 0, ts, tf, rfl, h3, h4, fun s hs => absurd hs (Nat.not_lt_zero s)⟩
set_option maxHeartbeats 1000000 in
theorem f_follow (T : Tp (KK w.params) H) (hm : IL g am n md) (ht : IL g at' n tg) (hn : n ≤ 100) : fnS w H O (k + 1) (.ref 233) ⟨[.ref am, .ref at', .int (p : Nat) tp], []⟩ g (fun r g' => ∃ D t t1 t2, r = .ref D ∧ g D = none ∧ g' = gset g D (tup [.int (itr tg t p : Nat) t1, .int (t : Nat) t2] 0) ∧ FarAt n md tg p t) no2 := by
  refine fn_intro (fd := fd233) (binds := [(Str.ofString "modes", .ref am), (Str.ofString "targets", .ref at'), (Str.ofString "place", .int (p : Nat) tp)]) T rfl rfl (by kernel_rfl) rfl (fun s => BindsTo.of_eq (by kernel_rfl)) rfl (by decide +kernel) (locs (by kernel_rfl)) (fun L => ?_) (by kernel_rfl) (by kernel_rfl) (by kernel_rfl)
  refine tri_hide fun Q1 hQ1 => ?_
  rw [b3]
  obtain ⟨vm, hvm, hlm, hm⟩ := hm
  obtain ⟨vt, hvt, hlt, ht⟩ := ht
  refine t_cons ?_
  repeat walk_at "st"
  refine tri_mono (Q := fun f g2 m2 => match f with | .next => g2 = g ∧ ∃ t ts tf, m2 (Str.ofString "spot") = some (.int (itr tg t p : Nat) ts) ∧ m2 (Str.ofString "far") = some (.int (t : Nat) tf) ∧ FarAt n md tg p t | _ => False) (t_while (FwJ am at' n md tg p g) (n + 2) (FwJ.zero (by walk_at "look") (by walk_at "look") (by walk_at "look") (by walk_at "look")) fun c g' m' p4 => ?_) fun f g2 m2 q => ?_
  · first | refine tri_hide fun Q3 hQ3 => ?_ | skip
    obtain ⟨eg, m1, m2, t, ts, tf, hc, m3, m4, hs⟩ := p4
    subst eg
    have hvml : vm.length ≤ 100000 := by walk_at "om"
    have htn : t ≤ n + 1 := by
      by_cases q : t ≤ n + 1
      · exact q
      · have := (hs (n + 1) (by walk_at "om")).2.2; walk_at "om"
    repeat walk_at "st"
    refine t_lenL' hvm hvml fun t7 => ?_
    repeat walk_at "st"
    rw [hlm]
    by_cases c1 : itr tg t p < n
    · first | with_reducible refine ite_T (show decide ((itr tg t p : Int) < (n : Int)) = true by simpa using c1) ?_ | (rw [show decide ((itr tg t p : Int) < (n : Int)) = true by simpa using c1]; simp only [if_true])
      repeat walk_at "st"
      obtain ⟨t8, e8⟩ := hm _ c1
      refine t_idxL hvm (by walk_at "om") (by walk_at "om") (by simpa using e8) ?_ (by kernel_rfl)
      repeat walk_at "st"
      refine t_divc (by decide) (by decide +kernel) fun t9 => ?_
      repeat walk_at "st"
      rw [show Int.fdiv (md (itr tg t p) : Int) 4096 = ((md (itr tg t p) / 4096 : Nat) : Int) from fdiv_nat _ 4096]
      by_cases c2 : md (itr tg t p) / 4096 = 10
      · first | with_reducible refine ite_T (show (((md (itr tg t p) / 4096 : Nat) : Int) == 10) = true by rw [c2]; rfl) ?_ | (rw [show (((md (itr tg t p) / 4096 : Nat) : Int) == 10) = true by rw [c2]; rfl]; simp only [if_true])
        repeat walk_at "st"
        refine t_lenL' hvm hvml fun t7 => ?_
        repeat walk_at "st"
        rw [hlm]
        by_cases c3 : t ≤ n
        · first | with_reducible refine ite_T (show decide ((t : Int) ≤ (n : Int)) = true by simpa using c3) ?_ | (rw [show decide ((t : Int) ≤ (n : Int)) = true by simpa using c3]; simp only [if_true])
          repeat walk_at "st"
          refine hQ3 _ _ _ ?_
          first | with_reducible refine ite_t ?_ | simp only [if_true]
          refine tri_hide fun Q30 hQ30 => ?_
          repeat walk_at "st"
          obtain ⟨t10, e10⟩ := ht _ c1
          refine t_idxL hvt (by walk_at "om") (by walk_at "om") (by simpa using e10) ?_ (by kernel_rfl)
          repeat walk_at "st"
          refine t_loadloc (by kernel_rfl) (by walk_at "look") ?_
          repeat walk_at "st"
          rename_i tz
          refine (hQ30 _ _ _ ⟨n + 1 - t, by walk_at "om", rfl, by walk_at "look", by walk_at "look", t + 1, t10, tz, (Nat.add_sub_add_right (n + 1) 1 t).symm, by show _ = some (Value.int (tg (itr tg t p) : Nat) t10); walk_at "look", by show _ = some (Value.int ((t : Int) + 1) tz); walk_at "look", fun s hs' => ?_⟩)
          by_cases q : s = t
          · subst q; exact ⟨c1, c2, c3⟩
          · exact hs s (by walk_at "om")
        · first | with_reducible refine ite_F (show decide ((t : Int) ≤ (n : Int)) = false by simpa using c3) ?_ | (rw [show decide ((t : Int) ≤ (n : Int)) = false by simpa using c3]; simp only [Bool.false_eq_true, if_false])
          refine hQ3 _ _ _ ?_
          first | with_reducible refine ite_f ?_ | simp only [Bool.false_eq_true, if_false]
          exact t_nil ⟨rfl, t, ts, tf, m3, m4, hs, fun h => c3 h.2.2⟩
      · first | with_reducible refine ite_F (show (((md (itr tg t p) / 4096 : Nat) : Int) == 10) = false by simpa using (by walk_at "om" : ¬ ((md (itr tg t p) / 4096 : Nat) : Int) = 10)) ?_ | (rw [show (((md (itr tg t p) / 4096 : Nat) : Int) == 10) = false by simpa using (by walk_at "om" : ¬ ((md (itr tg t p) / 4096 : Nat) : Int) = 10)]; simp only [Bool.false_eq_true, if_false])
        refine hQ3 _ _ _ ?_
        first | with_reducible refine ite_f ?_ | simp only [Bool.false_eq_true, if_false]
        exact t_nil ⟨rfl, t, ts, tf, m3, m4, hs, fun h => c2 h.2.1⟩
    · first | with_reducible refine ite_F (show decide ((itr tg t p : Int) < (n : Int)) = false by simpa using c1) ?_ | (rw [show decide ((itr tg t p : Int) < (n : Int)) = false by simpa using c1]; simp only [Bool.false_eq_true, if_false])
      refine hQ3 _ _ _ ?_
      first | with_reducible refine ite_f ?_ | simp only [Bool.false_eq_true, if_false]
      exact t_nil ⟨rfl, t, ts, tf, m3, m4, hs, fun h => c1 h.1⟩
  · first | refine tri_hide fun Q2 hQ2 => ?_ | skip
    cases f with
    | next =>
      obtain ⟨rfl, t, ts, tf, m3, m4, hF⟩ := q
      refine t_cons ?_
      repeat walk_at "st"
      refine t_tuple ?_
      repeat walk_at "st"
      exact ⟨by simp, fun D hD => (hQ1 _ _ _ ⟨D, t, _, _, rfl, hD, rfl, hF⟩)⟩
    | _ => exact q.elim
end
end
noncomputable section
variable {w : World} {H : Heap} {O : OsState} {g : GH}
theorem kinds {names : List (Str × NameKind)} {binds : List (Str × Value)} (h : (binds.map (·.1)).all (fun x => names.lookup x == some .local || names.lookup x == some .cell) = true) : ∀ x ∈ binds, names.lookup x.1 = some .local ∨ names.lookup x.1 = some .cell := fun x hx => by
  have := List.all_eq_true.mp h x.1 (List.mem_map.mpr ⟨x, hx, rfl⟩)
  simpa using this
theorem IntsAre.snoc {vs : List Value} {ns : List Int} {i : Int} {t : Tok} (h : IntsAre vs ns) : IntsAre (vs ++ [.int i t]) (ns ++ [i]) := by
  induction h with
  | nil => exact .cons _ _ .nil
  | cons n t h ih => exact .cons _ _ ih
theorem IL.of {a : Addr} {vs : List Value} {ns : List Int} (h : IsL g a vs) (hi : IntsAre vs ns) (h0 : ∀ i ∈ ns, 0 ≤ i) : IL g a ns.length fun i => (ns.getD i 0).toNat := by
  refine ⟨vs, h, hi.length, fun i hin => ?_⟩
  obtain ⟨t, ht⟩ := hi.get i (ns[i]) (List.getElem?_eq_getElem hin)
  refine ⟨t, ?_⟩
  dsimp only
  rw [ht, List.getD_eq_getElem?_getD, List.getElem?_eq_getElem hin]
  have := h0 _ (List.getElem_mem hin)
  simp [Int.toNat_of_nonneg this]
theorem CAgree.get {scope : Scope} {env : Env} {m mc : LM} {x : Str} (h : CAgree scope env m mc) (hk : ((clGo env scope.names []).lookup x).isSome = true) : mc x = m x := by
  obtain ⟨c, e⟩ := Option.isSome_iff_exists.mp hk
  exact h x c e
noncomputable abbrev wdEnv (L : Addr) : Env := callEnvC fd207 L 207
theorem f_words {k : Nat} {sa : Addr} {vs : List Value} {ns : List Int} (T : Tp (KK w.params) H) (hs : IsLA H g sa vs) (hi : IntsAre vs ns) (hn : ns.length ≤ 63) : fnS w H O (k + 1) (.ref 207) ⟨[.ref sa], []⟩ g (fun r g' => Sub g g' ∧ ∃ D n W, r = .ref D ∧ 4 ≤ n ∧ n ≤ 10 ∧ IL g' D n W ∧ ∀ i, i < n → W i < 1000003) no2 := by
  refine fn_introC (fd := fd207) (binds := [(Str.ofString "script", .ref sa)]) T rfl rfl (by kernel_rfl) rfl (by kernel_rfl) rfl (kinds (by kernel_rfl)) (by decide +kernel) (fun L => ?_) (by kernel_rfl) (by kernel_rfl) (by kernel_rfl)
  refine tri_hide fun Q1 hQ1 => ?_
  rw [b1]
  have hvl : vs.length = ns.length := hi.length
  refine t_cons ?_
  refine t_lcuse (by kernel_rfl) (by kernel_rfl) (fun _ => by kernel_rfl) ?_
  repeat walk_at "st"
  refine t_lenL hs (by walk_at "om") fun t1 => ?_
  repeat walk_at "st"
  refine t_min2 fun t2 => ?_
  repeat walk_at "st"
  have emin : (if (6 : Int) < (vs.length : Int) then 6 else (vs.length : Int)) = ((min vs.length 6 : Nat) : Int) := by split <;> walk_at "om"
  refine t_range emin fun rr oo hrr hR => ?_
  refine compAt_1 T (n := min vs.length 6) (Src := fun _ => True) (fun i ys g' m' => Sub g g' ∧ (∃ ms : List Int, ms.length = i ∧ IntsAre ys ms) ∧ m' (Str.ofString "script") = some (.ref sa)) (by kernel_rfl) (Starts.range (hR _ gset_self) (by walk_at "om")) (by walk_at "om")
    (fun i ys g m h => trivial) (fun g D o h hD => trivial) (fun mc hmc => ⟨sub_new hrr, ⟨[], rfl, .nil⟩, ?_⟩) (fun C i v new ys g' m' hj p4 p5 hf => ?_) fun D ys g' m' e p2 hD => ?_
  · exact (hmc.get (by kernel_rfl)).trans (by walk_at "look")
  · first | refine tri_hide fun Q3 hQ3 => ?_ | skip
    obtain ⟨⟨tv, hv⟩, hnew⟩ := p4
    refine el_aa p5 fun h1 yy1 h4 => ?_; clear p5
    obtain ⟨ms, h2, h3⟩ := yy1
    subst hv hnew
    have hs' : IsLA H g' sa vs := hs.imp (fun z1 => by obtain ⟨n, e⟩ := z1; exact ⟨n, h1 _ _ e⟩) id
    refine t_asgN (t_store (by kernel_rfl) ?_)
    refine hQ3 _ _ _ ?_
    refine t_tests0 ?_
    first | with_reducible refine ite_t ?_ | simp only [if_true]
    refine tri_hide fun Q30 hQ30 => ?_
    repeat walk_at "st"
    refine t_lc (by kernel_rfl) (fun _ => by kernel_rfl) ?_
    repeat walk_at "st"
    refine t_slL (ops := fun i => [.ref sa, i]) hs' (.int _ _) (.int _ _) (.int _ _) (by decide) (by walk_at "om") (fun _ => by kernel_rfl) (fun _ => by kernel_rfl) fun D hD => ?_
    have hpick := IntsAre.pick hi (some (i : Int)) (some 36) (some 6)
    have hpl : (slicePick vs.toArray (some (i : Int)) (some 36) (some 6)).toList.length ≤ 63 := by
      have := slicePick_size_le vs.toArray (some (i : Int)) (some 36) (some 6)
      have h2 : vs.toArray.size = vs.length := by simp
      rw [Array.length_toList]; walk_at "om"
    generalize (slicePick vs.toArray (some (i : Int)) (some 36) (some 6)).toList = us at hpick hpl
    refine compAt_1 T (n := us.length) (Src := fun g => IsL g D us) (fun j zs g2 m2 => g2 = gset (gnew g' none) D (lst us 0) ∧ ∃ ms : List Int, IntsAre zs ms) (by kernel_rfl) (Starts.list ⟨0, gset_self⟩) (by walk_at "om")
      (fun i ys g m h => h.1 ▸ ⟨0, gset_self⟩) (fun g E o h hE => h.ne (fun z => by obtain ⟨n, q⟩ := h; rw [z, hE] at q; cases q)) (fun mc hmc => ⟨rfl, [], .nil⟩) (fun C2 j v new zs g2 m2 hj2 p9 p10 hf => ?_) fun E zs g2 m2 e2 p7 hE => ?_
    · first | refine tri_hide fun Q8 hQ8 => ?_ | skip
      obtain ⟨hv2, hnew2⟩ := p9
      refine el_ae p10 fun h5 ms2 h6 => ?_; clear p10
      subst h5 hnew2
      obtain ⟨z, hz⟩ : ∃ z, (pickNums ns (some (i : Int)) (some 36) (some 6))[j]? = some z := ⟨_, List.getElem?_eq_getElem (by rw [← hpick.length]; exact hj2)⟩
      obtain ⟨tz, hz2⟩ := hpick.get j z hz
      rw [hv2] at hz2
      cases hz2
      refine t_asgN (t_store (by kernel_rfl) ?_)
      refine hQ8 _ _ _ ?_
      refine t_tests0 ?_
      first | with_reducible refine ite_t ?_ | simp only [if_true]
      refine tri_hide fun Q80 hQ80 => ?_
      repeat walk_at "st"
      exact (hQ80 _ _ _ ⟨rfl, _, IntsAre.snoc h6⟩)
    · first | refine tri_hide fun Q6 hQ6 => ?_ | skip
      refine el_ae p7 fun h5 ms2 h6 => ?_; clear p7
      subst h5
      repeat walk_at "st"
      refine hQ6 _ _ _ ?_
      refine t_sum (.inl ⟨e2, gset_self⟩) h6 fun t9 => ?_
      refine (hQ30 _ _ _ ⟨(h1.put (h1.none hD)).put ?_, ⟨ms ++ [ms2.sum], by simp [h2], IntsAre.snoc h3⟩, by walk_at "look"⟩)
      have : D ≠ E := fun z => by rw [z, gset_self] at hE; cases hE
      rw [gset_ne this.symm] at hE
      exact h1.none hE
  · refine el_aa p2 fun h1 yy2 h4 => ?_; clear p2
    obtain ⟨ms, h2, h3⟩ := yy2
    unfold useQ
    dsimp only
    refine t_all1 (t_asgN ?_)
    repeat walk_at "st"
    refine t_lc (by kernel_rfl) (fun _ => by kernel_rfl) ?_
    repeat walk_at "st"
    refine t_list ?_
    repeat walk_at "st"
    refine ⟨by simp, fun E hE => ?_⟩
    have hDE : D ≠ E := fun z => by rw [← z, gset_self] at hE; cases hE
    rename_i ta tb tc td
    have hyl : ys.length = ms.length := h3.length
    refine t_addL (xs := ys) (ys := [.int 1 ta, .int 4 tb, .int 11 tc, .int 3 td]) (.inl ⟨e, by rw [gset_ne hDE, gset_self]⟩) (.inl ⟨0, gset_self⟩) (by simp; walk_at "om") fun F hF => ?_
    have hi4 : IntsAre (ys ++ [.int 1 ta, .int 4 tb, .int 11 tc, .int 3 td]) (ms ++ [1, 4, 11, 3]) := by
      have := IntsAre.snoc (t := td) (i := 3) (IntsAre.snoc (t := tc) (i := 11) (IntsAre.snoc (t := tb) (i := 4) (IntsAre.snoc (t := ta) (i := 1) h3)))
      simpa using this
    repeat walk_at "st"
    refine t_enumL (items := ys ++ [.int 1 ta, .int 4 tb, .int 11 tc, .int 3 td]) ⟨0, gset_self⟩ fun it en hit hen hne => ?_
    generalize hus : ys ++ [Value.int 1 ta, .int 4 tb, .int 11 tc, .int 3 td] = us at *
    have hul : us.length = ms.length + 4 := by rw [← hus]; simp; exact hyl
    generalize hms : ms ++ [1, 4, 11, 3] = ms4 at hi4
    have hml : ms4.length = ms.length + 4 := by rw [← hms]; simp
    generalize hg4 : gset (gset (gset g' D (lst ys e)) E (lst [Value.int 1 ta, .int 4 tb, .int 11 tc, .int 3 td] 0)) F (lst us 0) = g4 at *
    have hF4 : IsL g4 F us := ⟨0, by rw [← hg4, gset_self]⟩
    have hS4 : Sub g g4 := by
      rw [← hg4]
      refine ((h1.put (h1.none hD)).put ?_).put ?_
      · rw [gset_ne hDE.symm] at hE; exact h1.none hE
      · have q1 : F ≠ E := fun z => by rw [z, gset_self] at hF; cases hF
        rw [gset_ne q1] at hF
        have q2 : F ≠ D := fun z => by rw [z, gset_self] at hF; cases hF
        rw [gset_ne q2] at hF
        exact h1.none hF
    refine compAt_1 T (Src := fun g => IsL g F us) (fun j zs g2 m2 => Sub g g2 ∧ IsL g2 F us ∧ ∃ ns2 : List Int, ns2.length = j ∧ IntsAre zs ns2 ∧ ∀ z ∈ ns2, 0 ≤ z ∧ z < 1000003) (by kernel_rfl) (Starts.enumL (items := us) gset_self (by rw [gset_ne hne.symm, gset_self]) ((hF4.ne (fun z => by obtain ⟨n, q⟩ := hF4; rw [z, hit] at q; cases q)).ne (fun z => by obtain ⟨n, q⟩ := hF4; rw [z, hen] at q; cases q))) (by walk_at "om")
      (fun i ys g m h => h.2.1) (fun g G o h hG => h.ne (fun z => by obtain ⟨n, q⟩ := h; rw [z, hG] at q; cases q)) (fun mc hmc => ?_) (fun C2 j v new zs g2 m2 hj2 p13 p14 hf => ?_) fun G zs g2 m2 e2 p11 hG => ?_
    · first | refine tri_hide fun Q15 hQ15 => ?_ | skip
      rw [gdel_back hit hen]
      exact ⟨hS4, hF4, [], rfl, .nil, by simp⟩
    · first | refine tri_hide fun Q12 hQ12 => ?_ | skip
      obtain ⟨TT, o, vals, nn, e1, e2, e3, e4, tx, x, e5, e6⟩ := p13
      obtain ⟨h5, h6, ns2, h7, h8, h9⟩ := p14
      subst e1 e2
      have hT := hf (TT, o) rfl
      obtain ⟨z, hz⟩ : ∃ z, ms4[j]? = some z := ⟨_, List.getElem?_eq_getElem (by rw [hml, ← hul]; exact hj2)⟩
      obtain ⟨tz, hz2⟩ := hi4.get j z hz
      rw [e5] at hz2
      cases hz2
      refine t_two (.inl ⟨o, nn, gset_self, e3, by rw [e4, e6]⟩) (t_store (by kernel_rfl) (t_store (by kernel_rfl) ?_))
      refine hQ12 _ _ _ ?_
      refine t_tests0 ?_
      first | with_reducible refine ite_t ?_ | simp only [if_true]
      refine tri_hide fun Q120 hQ120 => ?_
      repeat walk_at "st"
      refine t_mulc (by decide +kernel) fun t5 => ?_
      repeat walk_at "st"
      refine t_mul (.of_left (by decide +kernel)) fun t6 => ?_
      repeat walk_at "st"
      refine (hQ120 _ _ _ ⟨h5.put (h5.none hT), h6.ne (fun z => by obtain ⟨n, q⟩ := h6; rw [z, hT] at q; cases q), ns2 ++ [_], by simp [h7], IntsAre.snoc h8, fun y hy => ?_⟩)
      rcases List.mem_append.mp hy with hy | hy
      · exact h9 y hy
      · rw [List.mem_singleton.mp hy, Int.fmod_eq_emod_of_nonneg _ (by decide)]
        exact ⟨Int.emod_nonneg _ (by decide), Int.emod_lt_of_pos _ (by decide)⟩
    · obtain ⟨h5, h6, ns2, h7, h8, h9⟩ := p11
      unfold useQ
      refine (hQ1 _ _ _ ⟨h5.put (h5.none hG), G, ns2.length, _, rfl, by walk_at "om", by walk_at "om", IL.of ⟨e2, gset_self⟩ h8 fun i hi => (h9 i hi).1, fun i hi => ?_⟩)
      have := h9 (ns2.getD i 0) (by rw [List.getD_eq_getElem?_getD, List.getElem?_eq_getElem hi]; exact List.getElem_mem hi)
      walk_at "om"
end
noncomputable section
variable {w : World} {H : Heap} {O : OsState} {g : GH}
theorem IsL.sub {g g' : GH} {a : Addr} {vs : List Value} (h : IsL g a vs) (s : Sub g g') : IsL g' a vs := by obtain ⟨n, e⟩ := h; exact ⟨n, s _ _ e⟩
theorem IsT.sub {g g' : GH} {a : Addr} {vs : List Value} (h : IsT g a vs) (s : Sub g g') : IsT g' a vs := by obtain ⟨o, n, e, c, d⟩ := h; exact ⟨o, n, s _ _ e, c, d⟩
theorem IL.sub {g g' : GH} {a : Addr} {n : Nat} {f : Nat → Nat} (h : IL g a n f) (s : Sub g g') : IL g' a n f := by obtain ⟨vs, h1, h2⟩ := h; exact ⟨vs, h1.sub s, h2⟩
def NLi (g : GH) (a : Addr) (l : List Nat) : Prop := ∃ vs, IsL g a vs ∧ IntsAre vs (l.map fun i => ((i : Nat) : Int))
theorem NLi.sub {g g' : GH} {a : Addr} {l : List Nat} (h : NLi g a l) (s : Sub g g') : NLi g' a l := by obtain ⟨vs, h1, h2⟩ := h; exact ⟨vs, h1.sub s, h2⟩
theorem IntsAre.nat {vs : List Value} {l : List Nat} {j : Nat} {v : Value} (h : IntsAre vs (l.map fun i => ((i : Nat) : Int))) (hv : vs[j]? = some v) : ∃ i t, l[j]? = some i ∧ v = .int (i : Nat) t := by
  have hj : j < l.length := by
    have := (List.getElem?_eq_some_iff.mp hv).1
    have h2 := h.length
    simp at h2; walk_at "om"
  obtain ⟨t, ht⟩ := h.get j (l[j] : Nat) (by simp [hj])
  rw [hv] at ht
  cases ht
  exact ⟨l[j], t, by simp [hj], rfl⟩
theorem IntsAre.nsnoc {vs : List Value} {l : List Nat} {i : Nat} {t : Tok} (h : IntsAre vs (l.map fun i => ((i : Nat) : Int))) : IntsAre (vs ++ [.int (i : Nat) t]) ((l ++ [i]).map fun i => ((i : Nat) : Int)) := by
  rw [List.map_append]; exact IntsAre.snoc h
theorem IntsAre.nlen {vs : List Value} {l : List Nat} (h : IntsAre vs (l.map fun i => ((i : Nat) : Int))) : vs.length = l.length := by have := h.length; simpa using this
structure TB (nm : Nat → Str) (n : Nat) (md tg : Nat → Nat) (L : List Nat) (an am ta la : Addr) (g : GH) : Prop where
  nl : ∃ vs, IsL g an vs ∧ SVs nm (List.range (n + 1)) vs
  md : IL g am n md
  tg : IL g ta n tg
  ls : NLi g la L
theorem TB.sub {nm : Nat → Str} {n : Nat} {md tg : Nat → Nat} {L : List Nat} {an am ta la : Addr} {g g' : GH} (h : TB nm n md tg L an am ta la g) (s : Sub g g') : TB nm n md tg L an am ta la g' := ⟨by obtain ⟨vs, h1, h2⟩ := h.nl; exact ⟨vs, h1.sub s, h2⟩, h.md.sub s, h.tg.sub s, h.ls.sub s⟩
structure TF (n : Nat) (an am ta la : Addr) (m : LM) : Prop where
  nm : m (Str.ofString "names") = some (.ref an)
  md : m (Str.ofString "modes") = some (.ref am)
  tg : m (Str.ofString "targets") = some (.ref ta)
  ls : m (Str.ofString "listed") = some (.ref la)
  ct : ∃ t, m (Str.ofString "count") = some (.int (n : Nat) t)
def WayAt (n : Nat) (md tg : Nat → Nat) (g : GH) (e : Nat) (v : Value) : Prop := ∃ W t t1 t2, v = .ref W ∧ IsT g W [.int (itr tg t e : Nat) t1, .int (t : Nat) t2] ∧ FarAt n md tg e t
theorem WayAt.sub {n : Nat} {md tg : Nat → Nat} {g g' : GH} {e : Nat} {v : Value} (h : WayAt n md tg g e v) (s : Sub g g') : WayAt n md tg g' e v := by obtain ⟨W, t, t1, t2, h1, h2, h3⟩ := h; exact ⟨W, t, t1, t2, h1, h2.sub s, h3⟩
def WL (n : Nat) (md tg : Nat → Nat) (g : GH) (a : Addr) : Prop := ∃ vs, IsL g a vs ∧ vs.length = n + 1 ∧ ∀ e v, vs[e]? = some v → WayAt n md tg g e v
theorem WL.sub {n : Nat} {md tg : Nat → Nat} {g g' : GH} {a : Addr} (h : WL n md tg g a) (s : Sub g g') : WL n md tg g' a := by obtain ⟨vs, h1, h2, h3⟩ := h; exact ⟨vs, h1.sub s, h2, fun e v hv => (h3 e v hv).sub s⟩
section
variable {L0 an am ta la wa ka na : Addr} {k n : Nat} {nm : Nat → Str} {md tg : Nat → Nat} {L : List Nat} {m : LM}
noncomputable abbrev tdEnv (L : Addr) : Env := callEnvC fd238 L 238
abbrev sN (s : String) : Str := Str.ofString s
theorem td_ways (T : Tp (KK w.params) H) (hn : n ≤ 10) (B : TB nm n md tg L an am ta la g) (F : TF n an am ta la m) :
    tri w H O (k + 1) none noX (tdEnv L0) (exec (stAt (fBody (sAt 38)) 1) (tdEnv L0)) g m fun f g2 m2 => f = .next ∧ Sub g g2 ∧ ∃ D, m2 = mset m (sN "ways") (.ref D) ∧ WL n md tg g2 D := by
  refine tri_hide fun Q1 hQ1 => ?_
  obtain ⟨tc, hct⟩ := F.ct
  have f1 := F.md
  have f2 := F.tg
  refine t_assignN (by kernel_rfl) ?_
  refine t_lc (by kernel_rfl) (fun _ => by kernel_rfl) ?_
  repeat walk_at "st"
  refine t_range (n := n + 1) (by walk_at "om") fun rr oo hrr hR => ?_
  refine compAt_1 T (n := n + 1) (Src := fun _ => True) (fun i ys g' m' => Sub g g' ∧ (ys.length = i ∧ ∀ e v, ys[e]? = some v → WayAt n md tg g' e v) ∧ m' (sN "modes") = some (.ref am) ∧ m' (sN "targets") = some (.ref ta)) (by kernel_rfl) (Starts.range (hR _ gset_self) (by walk_at "om")) (by walk_at "om")
    (fun i ys g m h => trivial) (fun g D o h hD => trivial) (fun mc hmc => ⟨sub_new hrr, ⟨rfl, fun e v h => by simp at h⟩, (hmc.get (by kernel_rfl)).trans f1, (hmc.get (by kernel_rfl)).trans f2⟩) (fun C i v new ys g' m' hj p4 p5 hf => ?_) fun D ys g' m' e p2 hD => ?_
  · first | refine tri_hide fun Q3 hQ3 => ?_ | skip
    obtain ⟨⟨tv, hv⟩, hnew⟩ := p4
    refine el_aaa p5 fun h1 yy1 h4 h5 => ?_; clear p5
    obtain ⟨h2, h3⟩ := yy1
    subst hv hnew
    refine t_asgN (t_store (by kernel_rfl) ?_)
    refine hQ3 _ _ _ ?_
    refine t_tests0 ?_
    first | with_reducible refine ite_t ?_ | simp only [if_true]
    refine tri_hide fun Q30 hQ30 => ?_
    repeat walk_at "st"
    refine tri_call (f_follow (k := k) T (B.md.sub h1) (B.tg.sub h1) (by walk_at "om")) fun r g2 p6 => ?_
    obtain ⟨D, t, t1, t2, hr, hD, hg, hF⟩ := p6
    subst hr hg
    have hs : Sub g' (gset g' D (tup [.int (itr tg t i : Nat) t1, .int (t : Nat) t2] 0)) := sub_new hD
    refine (hQ30 _ _ _ ⟨sub_trans h1 hs, ⟨by simp [h2], fun e v hv => ?_⟩, by walk_at "look", by walk_at "look"⟩)
    rcases Nat.lt_trichotomy e ys.length with q | q | q
    · rw [List.getElem?_append_left q] at hv; exact (h3 e v hv).sub hs
    · subst q
      simp at hv
      subst hv
      rw [h2]
      exact ⟨D, t, t1, t2, rfl, ⟨_, 0, gset_self, rfl, rfl⟩, hF⟩
    · rw [List.getElem?_eq_none (by simp; walk_at "om")] at hv; cases hv
  · refine el_aaa p2 fun h1 yy2 h4 h5 => ?_; clear p2
    obtain ⟨h2, h3⟩ := yy2
    unfold useQ
    dsimp only
    repeat walk_at "st"
    exact (hQ1 _ _ _ ⟨rfl, h1.put (h1.none hD), D, rfl, ys, ⟨e, gset_self⟩, h2, fun e v hv => (h3 e v hv).sub (sub_new hD)⟩)
end
end
noncomputable section
variable {w : World} {H : Heap} {O : OsState} {g g0 : GH}
def Agr (xs : List Str) (m m' : LM) : Prop := ∀ x, xs.contains x = false → m' x = m x
theorem Agr.refl {xs : List Str} {m : LM} : Agr xs m m := fun _ _ => rfl
theorem Agr.set {xs : List Str} {m m' : LM} {x : Str} {v : Value} (h : Agr xs m m') (hx : xs.contains x = true) : Agr xs m (mset m' x v) := fun y hy => by
  have : y ≠ x := fun e => by rw [e, hx] at hy; cases hy
  exact (mset_ne this).trans (h y hy)
theorem TF.agr {n : Nat} {an am ta la : Addr} {m m' : LM} {xs : List Str} (F : TF n an am ta la m) (h : Agr xs m m') (hx : xs.any (fun x => x == sN "names" || x == sN "modes" || x == sN "targets" || x == sN "listed" || x == sN "count") = false) : TF n an am ta la m' := by
  have key : ∀ y, (y == sN "names" || y == sN "modes" || y == sN "targets" || y == sN "listed" || y == sN "count") = true → xs.contains y = false := fun y hy => by
    cases q : xs.contains y with
    | false => rfl
    | true =>
      have := List.any_eq_false.mp hx y (by simpa using q)
      exact absurd hy this
  exact ⟨(h _ (key _ (by decide +kernel))).trans F.nm, (h _ (key _ (by decide +kernel))).trans F.md, (h _ (key _ (by decide +kernel))).trans F.tg, (h _ (key _ (by decide +kernel))).trans F.ls, by obtain ⟨t, e⟩ := F.ct; exact ⟨t, (h _ (key _ (by decide +kernel))).trans e⟩⟩
def lkOf (md : Nat → Nat) (p : Nat) : Bool := md p / 4096 == 10
theorem ints_of {vs : List Value} {ns : List Int} (h : IntsAre vs ns) : kf_ints vs = true := by
  induction h with
  | nil => rfl
  | cons n t h ih => exact ih
theorem any_of {vs : List Value} {l : List Nat} (h : IntsAre vs (l.map fun i => ((i : Nat) : Int))) (x : Nat) : vs.any (isInt (x : Int)) = decide (x ∈ l) := by
  induction l generalizing vs with
  | nil => cases h; rfl
  | cons a l ih =>
    cases h with
    | cons n t h =>
      rw [List.any_cons, ih h]
      have : isInt (x : Int) (Value.int (a : Int) t) = decide (x = a) := by
        unfold isInt
        by_cases q : x = a
        · subst q; simp
        · simp [q]; walk_at "om"
      rw [this]
      simp [List.mem_cons, Bool.decide_or]
section
variable {L0 an am ta la wa ka na : Addr} {k n : Nat} {nm : Nat → Str} {md tg : Nat → Nat} {L : List Nat} {m : LM}
theorem td_links (T : Tp (KK w.params) H) (hn : n ≤ 10) (hL : ∀ p ∈ L, p < n) (hLl : L.length ≤ 10) (B : TB nm n md tg L an am ta la g) (F : TF n an am ta la m) :
    tri w H O (k + 1) none noX (tdEnv L0) (exec (stAt (fBody (sAt 38)) 2) (tdEnv L0)) g m fun f g2 m2 => f = .next ∧ Sub g g2 ∧ ∃ D, m2 = mset m (sN "links") (.ref D) ∧ NLi g2 D (L.filter (lkOf md)) := by
  refine tri_hide fun Q1 hQ1 => ?_
  have f1 := F.md
  have f2 := F.ls
  refine el_ea B.ls fun vl hvl hil => ?_
  refine el_eaa B.md fun vm hvm hml hm => ?_
  have hll := IntsAre.nlen hil
  refine t_assignN (by kernel_rfl) ?_
  refine t_lc (by kernel_rfl) (fun _ => by kernel_rfl) ?_
  repeat walk_at "st"
  refine compAt_1 T (n := vl.length) (Src := fun g => IsL g la vl) (fun i ys g' m' => g' = g ∧ IntsAre ys (((L.take i).filter (lkOf md)).map fun i => ((i : Nat) : Int)) ∧ m' (sN "modes") = some (.ref am)) (by kernel_rfl) (Starts.list hvl) (by walk_at "om")
    (fun i ys g m h => h.1 ▸ hvl) (fun g D o h hD => h.ne (fun z => by obtain ⟨n, q⟩ := h; rw [z, hD] at q; cases q)) (fun mc hmc => ⟨rfl, .nil, (hmc.get (by kernel_rfl)).trans f1⟩) (fun C i v new ys g' m' hj p3 p4 hf => ?_) fun D ys g' m' e p2 hD => ?_
  · obtain ⟨hv, hnew⟩ := p3
    refine el_aa p4 fun h1 h3 h4 => ?_; clear p4
    subst h1 hnew
    refine el_eea (IntsAre.nat hil hv) fun p tp hp yy1 => ?_
    obtain rfl := yy1
    have hpn := hL p (List.mem_of_getElem? hp)
    have etk : L.take (i + 1) = L.take i ++ [p] := by rw [List.take_add_one, hp]; rfl
    refine t_asgN (t_store (by kernel_rfl) ?_)
    refine t_tests1 ?_
    repeat walk_at "st"
    obtain ⟨t8, e8⟩ := hm p hpn
    refine t_idxL hvm (by walk_at "om") (by walk_at "om") (by simpa using e8) ?_ (by kernel_rfl)
    repeat walk_at "st"
    refine t_divc (by decide) (by decide +kernel) fun t9 => ?_
    repeat walk_at "st"
    rw [show Int.fdiv (md p : Int) 4096 = ((md p / 4096 : Nat) : Int) from fdiv_nat _ 4096]
    have hb : (((md p / 4096 : Nat) : Int) == 10) = lkOf md p := by
      unfold lkOf
      rw [Bool.eq_iff_iff]; simp only [beq_iff_eq]; walk_at "om"
    rw [hb]
    cases hk : lkOf md p
    · first | with_reducible refine ite_f ?_ | simp only [Bool.false_eq_true, if_false]
      refine ⟨rfl, ?_, by walk_at "look"⟩
      rw [etk, List.filter_append]; simpa [hk] using h3
    · first | with_reducible refine ite_t ?_ | simp only [if_true]
      repeat walk_at "st"
      refine ⟨rfl, ?_, by walk_at "look"⟩
      rw [etk, List.filter_append]
      simp only [List.filter_cons, hk, if_true, List.filter_nil]
      exact IntsAre.nsnoc h3
  · refine el_aa p2 fun h1 h3 h4 => ?_; clear p2
    subst h1
    unfold useQ
    dsimp only
    repeat walk_at "st"
    refine (hQ1 _ _ _ ⟨rfl, sub_new hD, D, rfl, ys, ⟨e, gset_self⟩, ?_⟩)
    rw [show L.take vl.length = L by rw [hll]; simp] at h3
    exact h3
theorem gp_links {lk : Nat → Bool} {p : Nat} (hnd : L.Nodup) (hp : p ∈ L) : ((L.filter lk).filter fun l => l == p).map tg = gp lk tg p := by
  have h1 : (L.filter fun l => l == p) = [p] := by
    induction L with
    | nil => cases hp
    | cons a L ih =>
      obtain ⟨h2, h3⟩ := List.nodup_cons.mp hnd
      by_cases q : a = p
      · subst q
        rw [List.filter_cons, if_pos (by simp)]
        congr 1
        rw [List.filter_eq_nil_iff]
        intro x hx hh
        exact h2 (by rw [← (by simpa using hh : x = a)]; exact hx)
      · rw [List.filter_cons, if_neg (by simpa using q)]
        rcases List.mem_cons.mp hp with e | e
        · exact absurd e.symm q
        · exact ih h3 e
  rw [List.filter_filter]
  have h2 : (L.filter fun l => (l == p) && lk l) = (L.filter fun l => l == p).filter lk := by rw [List.filter_filter]; congr 1; funext x; exact Bool.and_comm _ _
  rw [h2, h1]
  unfold gp
  cases h : lk p <;> simp [List.filter_cons, h]
theorem addn_fold_len : ∀ (l o : List Nat), (l.foldl addn o).length ≤ o.length + l.length
  | [], o => by simp
  | a :: l, o => by
    have h1 := addn_fold_len l (addn o a)
    have h2 := @addn_len o a
    simp only [List.foldl_cons, List.length_cons]; walk_at "om"
theorem td_one (T : Tp (KK w.params) H) {o : List Nat} {p : Nat} {tp : Tok} (hn : n ≤ 10) (hL : ∀ p ∈ L, p < n) (hnd : L.Nodup) (hLl : L.length ≤ 10) (hp : p ∈ L) (ho : o.length ≤ 100) (B : TB nm n md tg L an am ta la g0) (F : TF n an am ta la m) (hs : Sub g0 g) (hk : NLi g0 ka (L.filter (lkOf md))) (hna : g0 na = none) (hno : NLi g na o)
    (m1 : m (sN "place") = some (.int (p : Nat) tp)) (m2 : m (sN "links") = some (.ref ka)) (m3 : m (sN "named") = some (.ref na)) :
    tri w H O (k + 1) none noX (tdEnv L0) (exec (stAt (forB (stAt (fBody (sAt 38)) 4)) 0) (tdEnv L0)) g m fun f g2 m2 => f = .next ∧ Sub g0 g2 ∧ Agr [sN "each"] m m2 ∧ NLi g2 na (addp o p (gp (lkOf md) tg p)) := by
  refine tri_hide fun Q1 hQ1 => ?_
  have f1 := F.tg
  refine el_ea hk fun vk hvk hik => ?_; clear hk
  refine el_eaa B.tg fun vt hvt htl ht => ?_
  have hkl := IntsAre.nlen hik
  have hkl2 : (L.filter (lkOf md)).length ≤ 10 := Nat.le_trans (List.length_filter_le _ _) hLl
  have hvk1 := hvk.sub hs
  refine t_for (fun _ => by kernel_rfl) ?_
  repeat walk_at "st"
  refine t_list ?_
  repeat walk_at "st"
  refine ⟨by simp, fun D hD => ?_⟩
  refine t_lc (by kernel_rfl) (fun _ => by kernel_rfl) ?_
  repeat walk_at "st"
  generalize hg1 : gset g D (lst [Value.int (p : Nat) tp] 0) = g1
  have hsg1 : Sub g g1 := hg1 ▸ sub_new hD
  have hD1 : IsL g1 D [Value.int (p : Nat) tp] := ⟨0, by rw [← hg1, gset_self]⟩
  have hvk2 := hvk1.sub hsg1
  have hvt2 := (hvt.sub hs).sub hsg1
  refine compAt_1 T (n := vk.length) (Src := fun g => IsL g ka vk) (fun i ys g' m' => g' = g1 ∧ IntsAre ys (((((L.filter (lkOf md)).take i).filter fun l => l == p).map tg).map fun i => ((i : Nat) : Int)) ∧ m' (sN "targets") = some (.ref ta) ∧ m' (sN "place") = some (.int (p : Nat) tp)) (by kernel_rfl) (Starts.list hvk2) (by walk_at "om")
    (fun i ys g m h => h.1 ▸ hvk2) (fun g D o h hD => h.ne (fun z => by obtain ⟨n, q⟩ := h; rw [z, hD] at q; cases q)) (fun mc hmc => ⟨rfl, .nil, (hmc.get (by kernel_rfl)).trans f1, (hmc.get (by kernel_rfl)).trans m1⟩) (fun C i v new ys g' m' hj p3 p4 hf => ?_) fun E ys g' m' e p2 hE => ?_
  · obtain ⟨hv, hnew⟩ := p3
    refine el_aaa p4 fun h1 h3 h4 h5 => ?_; clear p4
    subst h1 hnew
    refine el_eea (IntsAre.nat hik hv) fun q tq hq yy2 => ?_
    obtain rfl := yy2
    have hqn := hL q (List.mem_filter.mp (List.mem_of_getElem? hq)).1
    have etk : (L.filter (lkOf md)).take (i + 1) = (L.filter (lkOf md)).take i ++ [q] := by rw [List.take_add_one, hq]; rfl
    refine t_asgN (t_store (by kernel_rfl) ?_)
    refine t_tests1 ?_
    repeat walk_at "st"
    have hb : ((q : Int) == (p : Int)) = (q == p) := by rw [Bool.eq_iff_iff]; simp only [beq_iff_eq]; walk_at "om"
    rw [hb]
    rw [etk, List.filter_append, List.map_append]
    cases hqp : (q == p)
    · first | with_reducible refine ite_f ?_ | simp only [Bool.false_eq_true, if_false]
      refine ⟨rfl, ?_, by walk_at "look", by walk_at "look"⟩
      simpa [hqp] using h3
    · first | with_reducible refine ite_t ?_ | simp only [if_true]
      repeat walk_at "st"
      obtain ⟨t8, e8⟩ := ht q hqn
      refine t_idxL hvt2 (by walk_at "om") (by walk_at "om") (by simpa using e8) ?_ (by kernel_rfl)
      refine ⟨rfl, ?_, by walk_at "look", by walk_at "look"⟩
      simp only [List.filter_cons, hqp, if_true, List.filter_nil, List.map_cons, List.map_nil]
      exact IntsAre.nsnoc h3
  · refine el_aaa p2 fun h1 h3 h4 h5 => ?_; clear p2
    subst h1
    rw [show (L.filter (lkOf md)).take vk.length = L.filter (lkOf md) by rw [hkl]; simp, gp_links hnd hp] at h3
    unfold useQ
    dsimp only
    have hyl : ys.length ≤ 1 := by rw [IntsAre.nlen h3]; exact gp_len
    have hDE : D ≠ E := fun z => by obtain ⟨n, q⟩ := hD1; rw [z, hE] at q; cases q
    refine t_addL (.inl (hD1.ne hDE)) (.inl ⟨e, gset_self⟩) (by simp; walk_at "om") fun G hG => ?_
    have hiG : IntsAre ([Value.int (p : Nat) tp] ++ ys) ((p :: gp (lkOf md) tg p).map fun i => ((i : Nat) : Int)) := .cons _ _ h3
    generalize [Value.int (p : Nat) tp] ++ ys = us at hiG
    have hul := IntsAre.nlen hiG
    have hsub2 : Sub g (gset (gset g' E (lst ys e)) G (lst us 0)) := (hsg1.put (hsg1.none hE)).put (by
      have : G ≠ E := fun z => by rw [z, gset_self] at hG; cases hG
      rw [gset_ne this] at hG; exact hsg1.none hG)
    generalize hg2 : gset (gset g' E (lst ys e)) G (lst us 0) = g2 at *
    have hGl : IsL g2 G us := ⟨0, by rw [← hg2, gset_self]⟩
    have hno2 := hno.sub hsub2
    have hGn : G ≠ na := fun z => by
      refine el_ea hno fun vs yy3 _ => ?_; clear hno
      obtain ⟨n, q⟩ := yy3
      have := hsub2
      rw [← hg2] at this
      have hGnone : gset g' E (lst ys e) G = none := hG
      have q2 : g' na = some (lst vs n) := hsg1 _ _ q
      have : E ≠ na := fun z => by rw [z, q2] at hE; cases hE
      rw [z, gset_ne this.symm, q2] at hGnone; cases hGnone
    refine t_forP (n := us.length) (P := fun j u => us[j]? = some u) (Src := fun g => IsL g G us) (fun j g' m' => Sub g0 g' ∧ Agr [sN "each"] m m' ∧ IsL g' G us ∧ NLi g' na (((p :: gp (lkOf md) tg p).take j).foldl addn o)) (Starts.list hGl) (fun _ _ _ h => h.2.2.1) ⟨sub_trans hs hsub2, Agr.refl, hGl, hno2⟩ (fun j u g' m' hj hu p6 => ?_) fun g' m' ⟨h1, h2, h3', h4'⟩ => t_nil (hQ1 _ _ _ ⟨rfl, h1, h2, ?_⟩)
    · refine el_aaa p6 fun h1 h2 h3' h4' => ?_; clear p6
      refine el_eea (IntsAre.nat hiG hu) fun q tq hq yy4 => ?_
      obtain rfl := yy4
      have etk : (p :: gp (lkOf md) tg p).take (j + 1) = (p :: gp (lkOf md) tg p).take j ++ [q] := by rw [List.take_add_one, hq]; rfl
      rw [etk, List.foldl_append]
      simp only [List.foldl_cons, List.foldl_nil]
      have hb2 := addn_fold_len (List.take j (p :: gp (lkOf md) tg p)) o
      have hb3 : (List.take j (p :: gp (lkOf md) tg p)).length ≤ 2 := by
        rw [List.length_take, List.length_cons]
        have := @gp_len (lkOf md) tg p
        walk_at "om"
      generalize (List.take j (p :: gp (lkOf md) tg p)).foldl addn o = o2 at h4' hb2
      have m3' : m' (sN "named") = some (.ref na) := (h2 _ (by decide +kernel)).trans m3
      refine el_ea h4' fun vo yy5 hio => ?_; clear h4'
      obtain ⟨no, hvo⟩ := yy5
      refine t_asgN ?_
      repeat walk_at "st"
      refine t_inL hvo (ints_of hio) (by rw [any_of hio]) ?_
      repeat walk_at "st"
      by_cases hmem : q ∈ o2
      · simp only [hmem, decide_true, Bool.not_true, Bool.false_eq_true, if_false]
        refine t_nil (t_nil ⟨h1, h2.set (by decide +kernel), h3', ?_⟩)
        unfold addn
        rw [if_pos hmem]
        exact ⟨vo, ⟨no, hvo⟩, hio⟩
      · simp only [hmem, decide_false, Bool.not_false, if_true]
        refine t_cons ?_
        repeat walk_at "st"
        refine t_append ⟨no, hvo⟩ ?_
        repeat walk_at "st"
        refine t_app ⟨no, hvo⟩ ?_ fun e9 => t_nil (t_nil ⟨h1.put hna, h2.set (by decide +kernel), h3'.ne hGn, ?_⟩)
        · rw [IntsAre.nlen hio]; walk_at "om"
        · unfold addn
          rw [if_neg hmem]
          exact ⟨_, ⟨e9, gset_self⟩, IntsAre.nsnoc hio⟩
    · rw [hul, List.take_length] at h4'
      have : addp o p (gp (lkOf md) tg p) = (p :: gp (lkOf md) tg p).foldl addn o := by
        unfold gp
        cases lkOf md p <;> rfl
      rw [this]; exact h4'
end
end
noncomputable section
variable {w : World} {H : Heap} {O : OsState} {g g0 : GH}
def farOk (n : Nat) (md : Nat → Nat) (e : Nat) : Bool := !(decide (e < n) && lkOf md e)
theorem FarAt.zero {n : Nat} {md tg : Nat → Nat} {e t : Nat} (h : FarAt n md tg e t) : ((t : Int) == 0) = farOk n md e := by
  unfold farOk lkOf
  have h2 := h.2
  have h1 := h.1 0
  have e0 : itr tg 0 e = e := rfl
  rw [Bool.eq_iff_iff]
  simp only [beq_iff_eq, Bool.not_eq_true', Bool.and_eq_false_iff, decide_eq_false_iff_not, beq_eq_false_iff_ne]
  constructor
  · intro ht
    have : t = 0 := by walk_at "om"
    subst this
    unfold goes at h2
    rw [e0] at h2
    by_cases q : e < n
    · exact .inr fun z => h2 ⟨q, z, Nat.zero_le _⟩
    · exact .inl q
  · intro hz
    by_cases q : t = 0
    · subst q; rfl
    · have := h1 (by walk_at "om")
      unfold goes at this
      rw [e0] at this
      rcases hz with z | z
      · exact absurd this.1 z
      · exact absurd this.2.1 z
section
variable {L0 an am ta la wa ka na : Addr} {k n : Nat} {nm : Nat → Str} {md tg : Nat → Nat} {L : List Nat} {m : LM}
theorem td_named (T : Tp (KK w.params) H) (hn : n ≤ 10) (hL : ∀ p ∈ L, p < n) (hnd : L.Nodup) (hLl : L.length ≤ 10) (B : TB nm n md tg L an am ta la g0) (F : TF n an am ta la m) (hs : Sub g0 g) (hk : NLi g0 ka (L.filter (lkOf md))) (hna : g0 na = none) (hno : NLi g na [])
    (m2 : m (sN "links") = some (.ref ka)) (m3 : m (sN "named") = some (.ref na)) :
    tri w H O (k + 1) none noX (tdEnv L0) (exec (stAt (fBody (sAt 38)) 4) (tdEnv L0)) g m fun f g2 m2 => f = .next ∧ Sub g0 g2 ∧ Agr [sN "place", sN "each"] m m2 ∧ NLi g2 na (ordL (lkOf md) tg L) := by
  refine tri_hide fun Q1 hQ1 => ?_
  have f1 := F.ls
  refine el_ea B.ls fun vl hvl hil => ?_
  have hll := IntsAre.nlen hil
  refine t_for (fun _ => by kernel_rfl) ?_
  repeat walk_at "st"
  refine t_forP (n := vl.length) (P := fun j u => vl[j]? = some u) (Src := fun g => IsL g la vl) (fun j g' m' => Sub g0 g' ∧ Agr [sN "place", sN "each"] m m' ∧ NLi g' na (ordL (lkOf md) tg (L.take j))) (Starts.list (hvl.sub hs)) (fun _ _ _ h => hvl.sub h.1) ⟨hs, Agr.refl, hno⟩ (fun j u g' m' hj hu p3 => ?_) fun g' m' ⟨h1, h2, h3⟩ => t_nil (hQ1 _ _ _ ⟨rfl, h1, h2, ?_⟩)
  · first | refine tri_hide fun Q2 hQ2 => ?_ | skip
    refine el_aa p3 fun h1 h2 h3 => ?_; clear p3
    refine el_eea (IntsAre.nat hil hu) fun p tp hp yy1 => ?_
    obtain rfl := yy1
    have hpL := List.mem_of_getElem? hp
    have etk : L.take (j + 1) = L.take j ++ [p] := by rw [List.take_add_one, hp]; rfl
    refine t_asgN ?_
    refine t_sto (by kernel_rfl) (by kernel_rfl) ?_
    have hA : Agr [sN "place", sN "each"] m (mset m' (sN "place") (.int (p : Nat) tp)) := h2.set (by decide +kernel)
    have hol : (ordL (lkOf md) tg (L.take j)).length ≤ 100 := by
      have := @ordL_len (lkOf md) tg (L.take j)
      have h9 : (L.take j).length ≤ 10 := by rw [List.length_take]; walk_at "om"
      walk_at "om"
    refine hQ2 _ _ _ ?_
    refine t_cons (tri_mono (td_one (k := k) T hn hL hnd hLl hpL hol B (F.agr hA (by decide +kernel)) h1 hk hna h3 (by walk_at "look") ((hA _ (by decide +kernel)).trans m2) ((hA _ (by decide +kernel)).trans m3)) fun f g2 m2 p4 => ?_)
    refine el_aaa p4 fun q1 q2 q3 q4 => ?_; clear p4
    subst q1
    refine t_nil ⟨q2, fun x hx => ?_, ?_⟩
    · have : ([sN "each"] : List Str).contains x = false := by
        simp only [List.contains_cons, List.contains_nil, Bool.or_false, Bool.or_eq_false_iff] at hx ⊢
        exact hx.2
      exact (q3 x this).trans (hA x hx)
    · rw [etk, ordL_snoc]; exact q4
  · rw [show L.take vl.length = L by rw [hll]; simp] at h3
    exact h3
theorem td_level (T : Tp (KK w.params) H) {o : List Nat} (hn : n ≤ 10) (ho : o.length ≤ 100) (hon : ∀ e ∈ o, e ≤ n) (hw : WL n md tg g wa) (hno : NLi g na o) (m1 : m (sN "named") = some (.ref na)) (m2 : m (sN "ways") = some (.ref wa)) :
    tri w H O (k + 1) none noX (tdEnv L0) (exec (stAt (fBody (sAt 38)) 5) (tdEnv L0)) g m fun f g2 m2 => f = .next ∧ Sub g g2 ∧ ∃ D, m2 = mset m (sN "level") (.ref D) ∧ NLi g2 D (o.filter (farOk n md)) := by
  refine tri_hide fun Q1 hQ1 => ?_
  refine el_ea hno fun vo hvo hio => ?_; clear hno
  refine el_eaa hw fun vw hvw hwl hwa => ?_; clear hw
  have hol := IntsAre.nlen hio
  refine t_lcuse (by kernel_rfl) (by kernel_rfl) (fun _ => by kernel_rfl) ?_
  repeat walk_at "st"
  refine compAt_1 T (n := vo.length) (Src := fun g => IsL g na vo) (fun i ys g' m' => g' = g ∧ IntsAre ys (((o.take i).filter (farOk n md)).map fun i => ((i : Nat) : Int)) ∧ m' (sN "ways") = some (.ref wa)) (by kernel_rfl) (Starts.list hvo) (by walk_at "om")
    (fun i ys g m h => h.1 ▸ hvo) (fun g D o h hD => h.ne (fun z => by obtain ⟨n, q⟩ := h; rw [z, hD] at q; cases q)) (fun mc hmc => ⟨rfl, .nil, (hmc.get (by kernel_rfl)).trans m2⟩) (fun C i v new ys g' m' hj p5 p6 hf => ?_) fun D ys g' m' e p3 hD => ?_
  · first | refine tri_hide fun Q4 hQ4 => ?_ | skip
    obtain ⟨hv, hnew⟩ := p5
    refine el_aa p6 fun h1 h3 h4 => ?_; clear p6
    subst h1 hnew
    refine el_eea (IntsAre.nat hio hv) fun p tp hp yy2 => ?_
    obtain rfl := yy2
    have hpn := hon p (List.mem_of_getElem? hp)
    have etk : o.take (i + 1) = o.take i ++ [p] := by rw [List.take_add_one, hp]; rfl
    obtain ⟨vv, hvv⟩ : ∃ vv, vw[p]? = some vv := ⟨_, List.getElem?_eq_getElem (by walk_at "om")⟩
    obtain ⟨W, t, t1, t2, rfl, hT, hF⟩ := hwa p vv hvv
    refine t_asgN (t_store (by kernel_rfl) ?_)
    refine hQ4 _ _ _ ?_
    refine t_tests1 ?_
    repeat walk_at "st"
    refine t_idxL hvw (by walk_at "om") (by walk_at "om") (by simpa using hvv) ?_ (by kernel_rfl)
    repeat walk_at "st"
    refine t_idxT hT (by walk_at "om") (by walk_at "om") (v := .int (t : Nat) t2) rfl ?_ (by kernel_rfl)
    repeat walk_at "st"
    rw [hF.zero]
    cases hk : farOk n md p
    · first | with_reducible refine ite_f ?_ | simp only [Bool.false_eq_true, if_false]
      refine ⟨rfl, ?_, by walk_at "look"⟩
      rw [etk, List.filter_append]; simpa [hk] using h3
    · first | with_reducible refine ite_t ?_ | simp only [if_true]
      repeat walk_at "st"
      refine ⟨rfl, ?_, by walk_at "look"⟩
      rw [etk, List.filter_append]
      simp only [List.filter_cons, hk, if_true, List.filter_nil]
      exact IntsAre.nsnoc h3
  · first | refine tri_hide fun Q2 hQ2 => ?_ | skip
    refine el_aa p3 fun h1 h3 h4 => ?_; clear p3
    subst h1
    dsimp only
    refine t_all1 (t_asgN ?_)
    repeat walk_at "st"
    refine (hQ2 _ _ _ (hQ1 _ _ _ ⟨rfl, sub_new hD, D, rfl, ys, ⟨e, gset_self⟩, ?_⟩))
    rw [show o.take vo.length = o by rw [hol]; simp] at h3
    exact h3
end
end
noncomputable section
variable {w : World} {H : Heap} {O : OsState} {g g0 : GH}
def Keep (ra : Addr) (g g' : GH) : Prop := ∀ b o, b ≠ ra → g b = some o → g' b = some o
theorem Keep.refl {ra : Addr} {g : GH} : Keep ra g g := fun _ _ _ e => e
theorem Keep.of {ra : Addr} {g g' : GH} (s : Sub g g') : Keep ra g g' := fun b o _ e => s b o e
theorem Keep.trans {ra : Addr} {g g' g2 : GH} (h : Keep ra g g') (h2 : Keep ra g' g2) : Keep ra g g2 := fun b o n e => h2 b o n (h b o n e)
theorem Keep.put {ra : Addr} {g g' : GH} {o : Obj} (h : Keep ra g g') : Keep ra g (gset g' ra o) := fun b o' n e => (gset_ne n).trans (h b o' n e)
theorem Keep.new {ra b : Addr} {g g' : GH} {o : Obj} (h : Keep ra g g') (hb : g' b = none) : Keep ra g (gset g' b o) := fun c o' n e => (gset_ne (fun z => by have := h c o' n e; rw [z, hb] at this; cases this)).trans (h c o' n e)
theorem IsL.keep {ra b : Addr} {g g' : GH} {vs : List Value} (h : IsL g b vs) (k : Keep ra g g') (n : b ≠ ra) : IsL g' b vs := by obtain ⟨m, e⟩ := h; exact ⟨m, k _ _ n e⟩
def TupAt (nm : Nat → Str) (g : GH) (v : Value) (l : List Nat) : Prop := ∃ T us, v = .ref T ∧ IsT g T us ∧ SVs nm l us
theorem TupAt.keep {nm : Nat → Str} {ra : Addr} {g g' : GH} {v : Value} {l : List Nat} {vs : List Value} (h : TupAt nm g v l) (k : Keep ra g g') (hr : IsL g ra vs) : TupAt nm g' v l := by
  refine el_eeaa h fun T us e yy1 h4 => ?_; clear h
  obtain ⟨o, n, h1, h2, h3⟩ := yy1
  obtain ⟨n', q⟩ := hr
  exact ⟨T, us, e, ⟨o, n, k _ _ (ne_cls h1 q (by rw [h2]; show Value.type _ ≠ Value.type _; decide)) h1, h2, h3⟩, h4⟩
def RdsAt (nm : Nat → Str) (g : GH) (vs : List Value) (r : Nat → List Nat) : Prop := ∀ t v, vs[t]? = some v → TupAt nm g v (r t)
theorem RdsAt.snoc {nm : Nat → Str} {g : GH} {vs : List Value} {r : Nat → List Nat} {v : Value} (h : RdsAt nm g vs r) (hv : TupAt nm g v (r vs.length)) : RdsAt nm g (vs ++ [v]) r := fun t u hu => by
  rcases Nat.lt_trichotomy t vs.length with q | q | q
  · rw [List.getElem?_append_left q] at hu; exact h t u hu
  · subst q; simp at hu; subst hu; exact hv
  · rw [List.getElem?_eq_none (by simp; walk_at "om")] at hu; cases hu
section
variable {L0 an am ta la wa ka na lv ra : Addr} {k n : Nat} {nm : Nat → Str} {md tg : Nat → Nat} {L l : List Nat} {m : LM}
theorem td_app (T : Tp (KK w.params) H) {vr : List Value} (hn : n ≤ 10) (hl : l.length ≤ 100) (hln : ∀ e ∈ l, e ≤ n) (B : TB nm n md tg L an am ta la g) (F : TF n an am ta la m) (hlv : NLi g lv l) (hr : IsL g ra vr) (hrl : vr.length ≤ 1000)
    (m1 : m (sN "level") = some (.ref lv)) (m2 : m (sN "rounds") = some (.ref ra)) :
    tri w H O (k + 1) none noX (tdEnv L0) (exec (stAt (forB (stAt (fBody (sAt 38)) 7)) 0) (tdEnv L0)) g m fun f g2 m2 => f = .next ∧ Keep ra g g2 ∧ m2 = m ∧ ∃ v, IsL g2 ra (vr ++ [v]) ∧ TupAt nm g2 v l := by
  refine tri_hide fun Q1 hQ1 => ?_
  have f1 := F.nm
  refine el_ea hlv fun vl hvl hil => ?_; clear hlv
  have hll := IntsAre.nlen hil
  refine el_ea B.nl fun vn hvn hsn => ?_
  have hnl := hsn.len
  simp only [List.length_range] at hnl
  refine t_ex ?_ (by kernel_rfl) (by kernel_rfl)
  repeat walk_at "st"
  refine t_append hr ?_
  repeat walk_at "st"
  refine t_lc (by kernel_rfl) (fun _ => by kernel_rfl) ?_
  repeat walk_at "st"
  refine compAt_1 T (n := vl.length) (Src := fun g => IsL g lv vl) (fun i ys g' m' => g' = g ∧ SVs nm (l.take i) ys ∧ m' (sN "names") = some (.ref an)) (by kernel_rfl) (Starts.list hvl) (by walk_at "om")
    (fun i ys g m h => h.1 ▸ hvl) (fun g D o h hD => h.ne (fun z => by obtain ⟨n, q⟩ := h; rw [z, hD] at q; cases q)) (fun mc hmc => ⟨rfl, SVs.nil, (hmc.get (by kernel_rfl)).trans f1⟩) (fun C i v new ys g' m' hj p5 p6 hf => ?_) fun D ys g' m' e p3 hD => ?_
  · first | refine tri_hide fun Q4 hQ4 => ?_ | skip
    obtain ⟨hv, hnew⟩ := p5
    refine el_aa p6 fun h1 h3 h4 => ?_; clear p6
    subst h1 hnew
    refine el_eea (IntsAre.nat hil hv) fun p tp hp yy2 => ?_
    obtain rfl := yy2
    have hpn := hln p (List.mem_of_getElem? hp)
    have etk : l.take (i + 1) = l.take i ++ [p] := by rw [List.take_add_one, hp]; rfl
    refine el_ea (hsn.at (j := p) (i := p) (by rw [List.getElem?_range (by walk_at "om")])) fun vv hvv hsv => ?_
    refine t_asgN (t_store (by kernel_rfl) ?_)
    refine hQ4 _ _ _ ?_
    refine t_tests0 ?_
    first | with_reducible refine ite_t ?_ | simp only [if_true]
    refine tri_hide fun Q40 hQ40 => ?_
    repeat walk_at "st"
    refine t_idxL hvn (by walk_at "om") (by walk_at "om") (by simpa using hvv) ?_ (by kernel_rfl)
    exact (hQ40 _ _ _ ⟨rfl, etk ▸ h3.snoc hsv, by walk_at "look"⟩)
  · refine el_aa p3 fun h1 h3 h4 => ?_; clear p3
    subst h1
    rw [show l.take vl.length = l by rw [hll]; simp] at h3
    have hyl := h3.len
    unfold useQ
    dsimp only
    repeat walk_at "st"
    refine t_tup (.inl ⟨e, gset_self⟩) (by walk_at "om") fun W hW => ?_
    repeat walk_at "st"
    have hDr : D ≠ ra := fun z => by obtain ⟨n, q⟩ := hr; rw [← z, hD] at q; cases q
    have hWD : W ≠ D := fun z => by rw [z, gset_self] at hW; cases hW
    have hW1 : g' W = none := by rw [gset_ne hWD] at hW; exact hW
    have hWr : W ≠ ra := fun z => by obtain ⟨n, q⟩ := hr; rw [← z, hW1] at q; cases q
    refine t_app ((hr.ne hDr.symm).ne hWr.symm) (by walk_at "om") fun e9 => (hQ1 _ _ _ ⟨rfl, ((Keep.refl.new hD).new hW).put, rfl, .ref W, ⟨e9, gset_self⟩, W, ys, rfl, ⟨_, 0, by rw [gset_ne hWr, gset_self], rfl, rfl⟩, h3⟩)
theorem scL_eq {lk : Nat → Bool} {q : Nat} : scL lk tg L q = (L.filter lk).filter fun l => tg l == q := by
  unfold scL
  rw [List.filter_filter]
  congr 1; funext x
  rw [Bool.and_comm]
  congr 1
theorem td_next (T : Tp (KK w.params) H) (hn : n ≤ 10) (hl : l.length ≤ 100) (hL : ∀ p ∈ L, p < n) (hLl : L.length ≤ 10) (B : TB nm n md tg L an am ta la g) (F : TF n an am ta la m) (hlv : NLi g lv l) (hk : NLi g ka (L.filter (lkOf md)))
    (m1 : m (sN "level") = some (.ref lv)) (m2 : m (sN "links") = some (.ref ka)) :
    tri w H O (k + 1) none noX (tdEnv L0) (exec (stAt (forB (stAt (fBody (sAt 38)) 7)) 1) (tdEnv L0)) g m fun f g2 m2 => f = .next ∧ Sub g g2 ∧ ∃ D, g D = none ∧ m2 = mset m (sN "level") (.ref D) ∧ NLi g2 D (l.flatMap (scL (lkOf md) tg L)) := by
  refine tri_hide fun Q1 hQ1 => ?_
  have f1 := F.tg
  refine el_ea hlv fun vl hvl hil => ?_; clear hlv
  have hll := IntsAre.nlen hil
  refine el_ea hk fun vk hvk hik => ?_; clear hk
  have hkl := IntsAre.nlen hik
  have hkl2 : (L.filter (lkOf md)).length ≤ 10 := Nat.le_trans (List.length_filter_le _ _) hLl
  refine el_eaa B.tg fun vt hvt htl ht => ?_
  refine t_lcuse (by kernel_rfl) (by kernel_rfl) (fun _ => by kernel_rfl) ?_
  repeat walk_at "st"
  have keepL : ∀ {b D : Addr} {vs : List Value} {o : Obj}, IsL g b vs → g D = none → IsL (gset g D o) b vs := fun h hD => h.ne (fun z => by obtain ⟨n, q⟩ := h; rw [z, hD] at q; cases q)
  refine compAt_S T (n := vl.length) rfl (fun C D it => turn2a _ _ _ _ _ _ _ _ _ _ _ _) (by kernel_rfl) (Starts.list hvl)
    (fun C D i g' m' => ∃ ys e, g' = gset g D (lst ys e) ∧ g D = none ∧ ys.length ≤ 10 * i ∧ IntsAre ys (((l.take i).flatMap (scL (lkOf md) tg L)).map fun i => ((i : Nat) : Int)) ∧ m' (sN "links") = some (.ref ka) ∧ m' (sN "targets") = some (.ref ta))
    (fun C D i g' m' z1 => by obtain ⟨ys, e, e1, e2, _⟩ := z1; exact e1 ▸ keepL hvl e2) (fun C D mc hD hmc => ⟨[], 0, rfl, hD, Nat.le_refl _, .nil, (hmc.get (by kernel_rfl)).trans m2, (hmc.get (by kernel_rfl)).trans f1⟩)
    (fun C D i v new g' m' hj p5 p6 hf => ?_) (fun C D g' m' p3 => ?_)
  · first | refine tri_hide fun Q4 hQ4 => ?_ | skip
    obtain ⟨hv, hnew⟩ := p5
    obtain ⟨ys, e, e1, e2, e3, e4, e5, e6⟩ := p6
    subst e1 hnew
    refine el_eea (IntsAre.nat hil hv) fun p tp hp yy3 => ?_
    obtain rfl := yy3
    have etk : l.take (i + 1) = l.take i ++ [p] := by rw [List.take_add_one, hp]; rfl
    refine t_asgN (t_store (by kernel_rfl) ?_)
    refine hQ4 _ _ _ ?_
    refine t_tests0 ?_
    first | with_reducible refine ite_t ?_ | simp only [if_true]
    refine tri_hide fun Q40 hQ40 => ?_
    refine t_nest rfl (fun _ => by kernel_rfl) (fun it => turn2b _ _ _ _ _ _ _ _ _ _ _ _) ?_
    repeat walk_at "st"
    refine ⟨_, vk.length, _, _, fun jj g2 m2 => ∃ zs e, g2 = gset g D (lst zs e) ∧ zs.length ≤ 10 * i + jj ∧ IntsAre zs (((l.take i).flatMap (scL (lkOf md) tg L) ++ ((L.filter (lkOf md)).take jj).filter fun x => tg x == p).map fun i => ((i : Nat) : Int)) ∧ m2 (sN "links") = some (.ref ka) ∧ m2 (sN "targets") = some (.ref ta) ∧ m2 (sN "each") = some (.int (p : Nat) tp), Starts.list (keepL hvk e2), fun i g m z2 => by obtain ⟨zs, e, h1, _⟩ := z2; exact h1 ▸ keepL hvk e2, ⟨ys, e, rfl, e3, by simpa using e4, by walk_at "look", by walk_at "look", by walk_at "look"⟩, fun g2 m2 p9 => ?_, fun jj v new g2 m2 hjj p7 p8 hf2 => ?_⟩
    · obtain ⟨zs, e, h1, h2, h3, h4, h5, h6⟩ := p9
      refine (hQ40 _ _ _ ⟨zs, e, h1, e2, by walk_at "om", ?_, h4, h5⟩)
      rw [etk, List.flatMap_append, List.flatMap_singleton, scL_eq]
      rw [show (L.filter (lkOf md)).take vk.length = L.filter (lkOf md) by rw [hkl]; simp] at h3
      exact h3
    · obtain ⟨hv2, hnew2⟩ := p7
      obtain ⟨zs, e, h1, h2, h3, h4, h5, h6⟩ := p8
      subst h1 hnew2
      refine el_eea (IntsAre.nat hik hv2) fun q tq hq yy4 => ?_
      obtain rfl := yy4
      have hqn := hL q (List.mem_filter.mp (List.mem_of_getElem? hq)).1
      have etk2 : (L.filter (lkOf md)).take (jj + 1) = (L.filter (lkOf md)).take jj ++ [q] := by rw [List.take_add_one, hq]; rfl
      have hjk : jj < vk.length := hjj
      refine t_asgN (t_store (by kernel_rfl) ?_)
      refine t_tests1 ?_
      repeat walk_at "st"
      obtain ⟨t8, e8⟩ := ht q hqn
      refine t_idxL (keepL hvt e2) (by walk_at "om") (by walk_at "om") (by simpa using e8) ?_ (by kernel_rfl)
      repeat walk_at "st"
      have hb : ((tg q : Int) == (p : Int)) = (tg q == p) := by rw [Bool.eq_iff_iff]; simp only [beq_iff_eq]; walk_at "om"
      rw [hb]
      dsimp only
      rw [etk2, List.filter_append, ← List.append_assoc]
      cases hqp : (tg q == p)
      · first | with_reducible refine ite_f ?_ | simp only [Bool.false_eq_true, if_false]
        refine ⟨zs, e, rfl, by walk_at "om", ?_, by walk_at "look", by walk_at "look", by walk_at "look"⟩
        simpa [hqp] using h3
      · first | with_reducible refine ite_t ?_ | simp only [if_true]
        refine t_emit ?_
        repeat walk_at "st"
        have hi100 : i < vl.length := hj
        refine t_app (ys := zs) ⟨e, gset_self⟩ (by walk_at "om") fun e9 => ⟨zs ++ [.int (q : Nat) tq], e9, ?_, by simp; walk_at "om", ?_, by walk_at "look", by walk_at "look", by walk_at "look"⟩
        · funext b
          show gset (gset g D _) D _ b = gset g D _ b
          unfold gset; split <;> rfl
        · simp only [List.filter_cons, hqp, if_true, List.filter_nil]
          exact IntsAre.nsnoc h3
  · first | refine tri_hide fun Q2 hQ2 => ?_ | skip
    obtain ⟨ys, e, e1, e2, e3, e4, e5, e6⟩ := p3
    subst e1
    dsimp only
    refine t_all1 (t_asgN ?_)
    repeat walk_at "st"
    refine (hQ2 _ _ _ (hQ1 _ _ _ ⟨rfl, sub_new e2, D, e2, rfl, ys, ⟨e, gset_self⟩, ?_⟩))
    rw [show l.take vl.length = l by rw [hll]; simp] at e4
    exact e4
theorem RdsAt.keep {g g' : GH} {vs us : List Value} {r : Nat → List Nat} (h : RdsAt nm g vs r) (k : Keep ra g g') (hr : IsL g ra us) : RdsAt nm g' vs r := fun t v hv => (h t v hv).keep k hr
theorem RdsAt.sub {g g' : GH} {vs : List Value} {r : Nat → List Nat} (h : RdsAt nm g vs r) (s : Sub g g') : RdsAt nm g' vs r := fun t v hv => by obtain ⟨T, us, e, h1, h2⟩ := h t v hv; exact ⟨T, us, e, h1.sub s, h2⟩
theorem td_rounds (T : Tp (KK w.params) H) {r : Nat → List Nat} (hn : n ≤ 10) (hL : ∀ p ∈ L, p < n) (hLl : L.length ≤ 10) (hr : ∀ t, (r t).length ≤ 100 ∧ ∀ e ∈ r t, e ≤ n) (hrs : ∀ t, r (t + 1) = (r t).flatMap (scL (lkOf md) tg L)) (B : TB nm n md tg L an am ta la g0) (F : TF n an am ta la m) (hs : Sub g0 g) (hk : NLi g0 ka (L.filter (lkOf md))) (hra : g0 ra = none) (hR : IsL g ra []) (hlv : NLi g lv (r 0)) (hne : lv ≠ ra)
    (m1 : m (sN "level") = some (.ref lv)) (m2 : m (sN "links") = some (.ref ka)) (m3 : m (sN "rounds") = some (.ref ra)) :
    tri w H O (k + 1) none noX (tdEnv L0) (exec (stAt (fBody (sAt 38)) 7) (tdEnv L0)) g m fun f g2 m2 => f = .next ∧ Sub g0 g2 ∧ Agr [sN "turn", sN "level"] m m2 ∧ ∃ vr, IsL g2 ra vr ∧ vr.length = n + 2 ∧ RdsAt nm g2 vr r := by
  refine tri_hide fun Q1 hQ1 => ?_
  obtain ⟨tc, hct⟩ := F.ct
  refine t_for (fun _ => by kernel_rfl) ?_
  repeat walk_at "st"
  refine t_range (n := n + 2) (by walk_at "om") fun rr oo hrr hRR => ?_
  have hs1 : Sub g (gset g rr oo) := sub_new hrr
  refine t_forP (fun t g' m' => Sub g0 g' ∧ Agr [sN "turn", sN "level"] m m' ∧ (∃ lv, m' (sN "level") = some (.ref lv) ∧ lv ≠ ra ∧ NLi g' lv (r t)) ∧ ∃ vr, IsL g' ra vr ∧ vr.length = t ∧ RdsAt nm g' vr r) (Starts.range (hRR _ gset_self) (by walk_at "om")) (fun _ _ _ _ => trivial)
    ⟨sub_trans hs hs1, Agr.refl, ⟨lv, m1, hne, hlv.sub hs1⟩, [], hR.sub hs1, rfl, fun t v h => by simp at h⟩ (fun t v g' m' ht p3 p4 => ?_) fun g' m' z3 => by obtain ⟨h1, h2, _, vr, h6, h7, h8⟩ := z3; exact t_nil (hQ1 _ _ _ ⟨rfl, h1, h2, vr, h6, h7, h8⟩)
  · first | refine tri_hide fun Q2 hQ2 => ?_ | skip
    obtain ⟨tv, hv⟩ := p3
    obtain ⟨h1, h2, ⟨lv, h3, h4, h5⟩, vr, h6, h7, h8⟩ := p4
    subst hv
    refine t_asgN ?_
    refine t_sto (by kernel_rfl) (by kernel_rfl) ?_
    have hA : Agr [sN "turn", sN "level"] m (mset m' (sN "turn") (.int (t : Nat) tv)) := h2.set (by decide +kernel)
    refine hQ2 _ _ _ ?_
    refine tri_hide fun Q20 hQ20 => ?_
    refine t_cons (tri_mono (td_app (k := k) T hn (hr t).1 (hr t).2 (B.sub h1) (F.agr hA (by decide +kernel)) h5 h6 (by walk_at "om") ((mset_ne (by decide +kernel)).trans h3) ((hA _ (by decide +kernel)).trans m3)) fun f g2 m2' p5 => ?_)
    obtain ⟨q1, q2, q3, v, q4, q5⟩ := p5
    subst q1 q3
    have hs2 : Sub g0 g2 := fun b o e => q2 b o (fun z => by rw [z, hra] at e; cases e) (h1 b o e)
    have hlv2 : NLi g2 lv (r t) := by obtain ⟨vs, a1, a2⟩ := h5; exact ⟨vs, a1.keep q2 h4, a2⟩
    have hrd2 : RdsAt nm g2 (vr ++ [v]) r := (h8.keep q2 h6).snoc (by rw [h7]; exact q5)
    refine t_cons (tri_mono (td_next (k := k) T hn (hr t).1 hL hLl (B.sub hs2) (F.agr hA (by decide +kernel)) hlv2 (hk.sub hs2) ((mset_ne (by decide +kernel)).trans h3) ((hA _ (by decide +kernel)).trans m2)) fun f g3 m3' p6 => ?_)
    obtain ⟨p1, p2, D, p3, p4, p5⟩ := p6
    subst p1 p4
    refine t_nil (hQ20 _ _ _ ⟨sub_trans hs2 p2, hA.set (by decide +kernel), ⟨D, mset_self, fun z => ?_, by rw [hrs]; exact p5⟩, vr ++ [v], q4.sub p2, by simp [h7], hrd2.sub p2⟩)
    obtain ⟨n', e⟩ := q4
    rw [z, e] at p3; cases p3
end
end
noncomputable section
variable {w : World} {H : Heap} {O : OsState} {g g0 : GH}
def goesB (n : Nat) (md tg : Nat → Nat) (p t : Nat) : Bool := decide (itr tg t p < n) && (lkOf md (itr tg t p) && decide (t ≤ n))
theorem goesB_iff {n : Nat} {md tg : Nat → Nat} {p t : Nat} : goesB n md tg p t = true ↔ goes n md tg p t := by
  unfold goesB goes lkOf
  simp only [Bool.and_eq_true, decide_eq_true_eq, beq_iff_eq]
def finB (n : Nat) (md tg : Nat → Nat) (e : Nat) : Bool := (List.range (n + 1)).any fun t => !(goesB n md tg e t)
theorem FarAt.fin {n : Nat} {md tg : Nat → Nat} {e t : Nat} (h : FarAt n md tg e t) : decide (t ≤ n) = finB n md tg e := by
  unfold finB
  rw [Bool.eq_iff_iff]
  simp only [decide_eq_true_eq, List.any_eq_true, List.mem_range, Bool.not_eq_true']
  constructor
  · intro ht
    refine ⟨t, by walk_at "om", ?_⟩
    cases q : goesB n md tg e t with
    | false => rfl
    | true => exact absurd (goesB_iff.mp q) h.2
  · rintro ⟨s, hs, hg⟩
    by_cases q : t ≤ n
    · exact q
    · have := goesB_iff.mpr (h.1 s (by walk_at "om"))
      rw [hg] at this; cases this
def EndAt (n : Nat) (md tg : Nat → Nat) (g : GH) (e : Nat) (v : Value) : Prop := ∃ t, FarAt n md tg e t ∧ t ≤ n ∧ ((n ≤ itr tg t e ∧ v = .none) ∨ (itr tg t e < n ∧ ∃ T t1 t2, v = .ref T ∧ IsT g T [.int (md (itr tg t e) / 4096 * 4096 : Nat) t1, .int (md (itr tg t e) % 4096 : Nat) t2]))
theorem IsT.keep {ra T : Addr} {g g' : GH} {us : List Value} {o : Obj} (h : IsT g T us) (k : Keep ra g g') (hr : g ra = some o) (hc : o.cls ≠ .type "tuple") : IsT g' T us := by
  refine el_eeaa h fun o' n h1 h2 h3 => ?_; clear h
  exact ⟨o', n, k _ _ (ne_cls h1 hr (by rw [h2]; exact Ne.symm hc)) h1, h2, h3⟩
theorem EndAt.keep {n : Nat} {md tg : Nat → Nat} {g g' : GH} {ra : Addr} {e : Nat} {v : Value} {o : Obj} (h : EndAt n md tg g e v) (k : Keep ra g g') (hr : g ra = some o) (hc : o.cls ≠ .type "tuple") : EndAt n md tg g' e v := by
  refine el_eaa h fun t h1 h2 h3 => ?_; clear h
  refine ⟨t, h1, h2, h3.imp id fun z1 => by obtain ⟨q, T, t1, t2, e1, e2⟩ := z1; exact ⟨q, T, t1, t2, e1, e2.keep k hr hc⟩⟩
theorem EndAt.sub {n : Nat} {md tg : Nat → Nat} {g g' : GH} {e : Nat} {v : Value} (h : EndAt n md tg g e v) (s : Sub g g') : EndAt n md tg g' e v := by
  refine el_eaa h fun t h1 h2 h3 => ?_; clear h
  exact ⟨t, h1, h2, h3.imp id fun z2 => by obtain ⟨q, T, t1, t2, e1, e2⟩ := z2; exact ⟨q, T, t1, t2, e1, e2.sub s⟩⟩
def EDict (w : World) (nm : Nat → Str) (n : Nat) (md tg : Nat → Nat) (g : GH) (d : Addr) (l : List Nat) : Prop := ∃ val : Nat → Value, IsD w g d (l.map fun e => (nm e, val e)) ∧ ∀ e ∈ l, EndAt n md tg g e (val e)
theorem EDict.sub {nm : Nat → Str} {n : Nat} {md tg : Nat → Nat} {g g' : GH} {d : Addr} {l : List Nat} (h : EDict w nm n md tg g d l) (s : Sub g g') : EDict w nm n md tg g' d l := by obtain ⟨val, ⟨o, e, h1⟩, h2⟩ := h; exact ⟨val, ⟨o, s _ _ e, h1⟩, fun e he => (h2 e he).sub s⟩
section
variable {L0 an am ta la wa ka na ea : Addr} {k n : Nat} {nm : Nat → Str} {md tg : Nat → Nat} {L l : List Nat} {m : LM}
set_option maxHeartbeats 1000000 in
theorem td_ends (T : Tp (KK w.params) H) {o : List Nat} (inj : ∀ i j, nm i = nm j → i = j) (hn : n ≤ 10) (ho : o.length ≤ 100) (hon : ∀ e ∈ o, e ≤ n) (hnd : o.Nodup) (B : TB nm n md tg L an am ta la g0) (F : TF n an am ta la m) (hs : Sub g0 g) (hw : WL n md tg g0 wa) (hno : NLi g0 na o) (hea : g0 ea = none) (hE : EDict w nm n md tg g ea [])
    (m1 : m (sN "named") = some (.ref na)) (m2 : m (sN "ways") = some (.ref wa)) (m3 : m (sN "ends") = some (.ref ea)) :
    tri w H O (k + 1) none noX (tdEnv L0) (exec (stAt (fBody (sAt 38)) 9) (tdEnv L0)) g m fun f g2 m2 => f = .next ∧ Sub g0 g2 ∧ Agr [sN "each", sN "spot", sN "far"] m m2 ∧ EDict w nm n md tg g2 ea (o.filter (finB n md tg)) := by
  refine tri_hide fun Q1 hQ1 => ?_
  obtain ⟨tc, hct⟩ := F.ct
  refine el_ea hno fun vo hvo hio => ?_; clear hno
  refine el_eaa hw fun vw hvw hwl hwa => ?_; clear hw
  refine el_eaa B.md fun vm hvm hml hm => ?_
  refine el_ea B.nl fun vn hvn hsn => ?_
  have hnl := hsn.len
  simp only [List.length_range] at hnl
  have hol := IntsAre.nlen hio
  refine t_for (fun _ => by kernel_rfl) ?_
  repeat walk_at "st"
  refine t_forP (n := vo.length) (P := fun j u => vo[j]? = some u) (Src := fun g => IsL g na vo) (fun j g' m' => Sub g0 g' ∧ Agr [sN "each", sN "spot", sN "far"] m m' ∧ EDict w nm n md tg g' ea ((o.take j).filter (finB n md tg))) (Starts.list (hvo.sub hs)) (fun _ _ _ h => hvo.sub h.1) ⟨hs, Agr.refl, hE⟩ (fun j u g' m' hj hu p3 => ?_) fun g' m' ⟨h1, h2, h3⟩ => t_nil (hQ1 _ _ _ ⟨rfl, h1, h2, ?_⟩)
  · first | refine tri_hide fun Q2 hQ2 => ?_ | skip
    refine el_aa p3 fun h1 h2 h3 => ?_; clear p3
    refine el_eea (IntsAre.nat hio hu) fun p tp hp yy1 => ?_
    obtain rfl := yy1
    have hpo := List.mem_of_getElem? hp
    have hpn := hon p hpo
    have etk : o.take (j + 1) = o.take j ++ [p] := by rw [List.take_add_one, hp]; rfl
    have hpt : p ∉ o.take j := fun z => by
      obtain ⟨i, hi, e⟩ := List.mem_take_iff_getElem.mp z
      have hjo : j < o.length := by walk_at "om"
      have e2 : o[j] = p := by rw [List.getElem?_eq_getElem hjo] at hp; exact Option.some.inj hp
      have := (List.getElem_inj (h₀ := by walk_at "om") (h₁ := hjo) hnd).mp (e.trans e2.symm)
      walk_at "om"
    obtain ⟨vv, hvv⟩ : ∃ vv, vw[p]? = some vv := ⟨_, List.getElem?_eq_getElem (by walk_at "om")⟩
    obtain ⟨W, t, t1, t2, rfl, hT, hF⟩ := hwa p vv hvv
    have mw : m' (sN "ways") = some (.ref wa) := (h2 _ (by decide +kernel)).trans m2
    have me : m' (sN "ends") = some (.ref ea) := (h2 _ (by decide +kernel)).trans m3
    have mc : m' (sN "count") = some (.int (n : Nat) tc) := (h2 _ (by decide +kernel)).trans hct
    have mm : m' (sN "modes") = some (.ref am) := (h2 _ (by decide +kernel)).trans F.md
    have mn : m' (sN "names") = some (.ref an) := (h2 _ (by decide +kernel)).trans F.nm
    refine t_asgN ?_
    refine t_sto (by kernel_rfl) (by kernel_rfl) ?_
    refine hQ2 _ _ _ ?_
    refine tri_hide fun Q20 hQ20 => ?_
    refine t_cons (t_assign (by kernel_rfl) (by kernel_rfl) ?_)
    repeat walk_at "st"
    refine t_idxL (hvw.sub h1) (by walk_at "om") (by walk_at "om") (by simpa using hvv) ?_ (by kernel_rfl)
    refine t_all1 (t_two (x1 := 0) (.inl (hT.sub h1)) ?_)
    repeat walk_at "st"
    have e1 : decide ((t : Int) ≤ (n : Int)) = finB n md tg p := by rw [← hF.fin, Bool.eq_iff_iff]; simp
    rw [e1]
    rw [etk, List.filter_append] at hQ20
    have hA : Agr [sN "each", sN "spot", sN "far"] m (mset (mset (mset m' (sN "each") (.int (p : Nat) tp)) (sN "spot") (.int (itr tg t p : Nat) t1)) (sN "far") (.int (t : Nat) t2)) := ((h2.set (by decide +kernel)).set (by decide +kernel)).set (by decide +kernel)
    cases hfb : finB n md tg p
    · first | with_reducible refine ite_f ?_ | simp only [Bool.false_eq_true, if_false]
      refine t_nil (t_nil (hQ20 _ _ _ ⟨h1, hA, ?_⟩))
      simpa [hfb] using h3
    · first | with_reducible refine ite_t ?_ | simp only [if_true]
      have htn : t ≤ n := by have := hF.fin; rw [hfb] at this; simpa using this
      have eflt : [p].filter (finB n md tg) = [p] := by simp [hfb]
      rw [eflt] at hQ20
      refine el_ea h3 fun val hD hv => ?_; clear h3
      refine el_ea (id hD) fun od ed hd => ?_
      have hcd : od.cls ≠ .type "tuple" := by
        refine el_ea hD.cls fun o' e' c' => ?_
        rw [ed] at e'; cases e'
        rw [c']; show Value.type _ ≠ Value.type _; decide
      have hpl : p ∉ (o.take j).filter (finB n md tg) := fun z => hpt (List.mem_filter.mp z).1
      have hlen : ((o.take j).filter (finB n md tg)).length ≤ 100 := Nat.le_trans (List.length_filter_le _ _) (by rw [List.length_take]; walk_at "om")
      obtain ⟨vnm, hvnm, tn, rfl⟩ := hsn.at (j := p) (i := p) (by rw [List.getElem?_range (by walk_at "om")])
      have fin : ∀ (g2 : GH) (v : Value), (∀ b o, g' b = some o → g2 b = some o) → EndAt n md tg g2 p v → ∀ m2, tri w H O (k + 1) none noX (tdEnv L0) (setItem (.ref ea) (.str (nm p) tn) v) g2 m2 fun _ g3 m3 => m3 = m2 ∧ Sub g0 g3 ∧ EDict w nm n md tg g3 ea ((o.take j).filter (finB n md tg) ++ [p]) := fun g2 v hs2 hv2 m2 => by
        refine t_dset ⟨od, hs2 _ _ ed, hd⟩ (by rw [List.length_map]; walk_at "om") fun o6 ho6 => ⟨rfl, ?_, ?_⟩
        · exact (sub_trans h1 hs2).put hea
        · rw [stored_map inj val hpl] at ho6
          refine ⟨put val p v, ⟨o6, gset_self, ho6⟩, fun e he => ?_⟩
          have kk : Keep ea g2 (gset g2 ea o6) := Keep.refl.put
          by_cases q : e = p
          · subst q; rw [put_self]; exact hv2.keep kk (hs2 _ _ ed) hcd
          · rw [put_ne q]
            rcases List.mem_append.mp he with z | z
            · exact ((hv e z).sub hs2).keep kk (hs2 _ _ ed) hcd
            · exact absurd (List.mem_singleton.mp z) q
      refine t_cons ?_
      refine t_stS (by kernel_rfl) (by kernel_rfl) ?_
      repeat walk_at "st"
      by_cases hsn2 : itr tg t p < n
      · first | with_reducible refine ite_T (show decide ((itr tg t p : Int) < (n : Int)) = true by simpa using hsn2) ?_ | (rw [show decide ((itr tg t p : Int) < (n : Int)) = true by simpa using hsn2]; simp only [if_true])
        repeat walk_at "st"
        refine t_tuple ?_
        repeat walk_at "st"
        obtain ⟨t8, e8⟩ := hm _ hsn2
        refine t_idxL (hvm.sub h1) (by walk_at "om") (by walk_at "om") (by simpa using e8) ?_ (by kernel_rfl)
        repeat walk_at "st"
        refine t_divc (by decide) (by decide +kernel) fun t9 => ?_
        repeat walk_at "st"
        refine t_mulc (by decide +kernel) fun t10 => ?_
        repeat walk_at "st"
        refine t_idxL (hvm.sub h1) (by walk_at "om") (by walk_at "om") (by simpa using e8) ?_ (by kernel_rfl)
        repeat walk_at "st"
        refine ⟨by simp, fun D hD3 => ?_⟩
        repeat walk_at "st"
        refine t_idxL ((hvn.sub h1).sub (sub_new hD3)) (by walk_at "om") (by walk_at "om") (by simpa using hvnm) ?_ (by kernel_rfl)
        rename_i tq
        refine tri_mono (fin _ _ (sub_new hD3) ⟨t, hF, htn, .inr ⟨hsn2, D, t10, tq, rfl, _, 0, gset_self, rfl, ?_⟩⟩ _) fun _ g3 m3' p4 => ?_
        · rw [show Int.fdiv (md (itr tg t p) : Int) 4096 = ((md (itr tg t p) / 4096 : Nat) : Int) from fdiv_nat _ 4096, show Int.fmod (md (itr tg t p) : Int) 4096 = ((md (itr tg t p) % 4096 : Nat) : Int) from fmod_nat _ 4096]
          rfl
        · refine el_aa p4 fun z1 z2 z3 => ?_; clear p4
          subst z1
          exact t_nil (t_nil (hQ20 _ _ _ ⟨z2, hA, z3⟩))
      · first | with_reducible refine ite_F (show decide ((itr tg t p : Int) < (n : Int)) = false by simpa using hsn2) ?_ | (rw [show decide ((itr tg t p : Int) < (n : Int)) = false by simpa using hsn2]; simp only [Bool.false_eq_true, if_false])
        repeat walk_at "st"
        refine t_idxL (hvn.sub h1) (by walk_at "om") (by walk_at "om") (by simpa using hvnm) ?_ (by kernel_rfl)
        refine tri_mono (fin _ _ sub_refl ⟨t, hF, htn, .inl ⟨by walk_at "om", rfl⟩⟩ _) fun _ g3 m3' p5 => ?_
        refine el_aa p5 fun z1 z2 z3 => ?_; clear p5
        subst z1
        exact t_nil (t_nil (hQ20 _ _ _ ⟨z2, hA, z3⟩))
  · rw [show o.take vo.length = o by rw [hol]; simp] at h3
    exact h3
end
end
noncomputable section
section
variable {w : World} {H : Heap} {O : OsState} {k : Nat} {hdl : Option Value} {X : ExcP} {env : Env} {g : GH} {m : LM}
theorem t_repL {l : Addr} {vs : List Value} {x : Int} {t : Tok} {Q : Value → GH → LM → Prop} (hl : IsL g l vs) (h0 : 0 ≤ x) (h1 : x < 2 ^ 63) (hsz : vs.length * x.toNat ≤ 256) (h : ∀ a, g a = none → Q (.ref a) (gset g a (lst (List.replicate x.toNat vs).flatten 0)) m) : tri w H O k hdl X env (binaryOp .Mult (.ref l) (.int x t)) g m Q :=
  tri_ledN (ι := Unit) (v := fun _ a => .ref a) (f := fun _ => lst (List.replicate x.toNat vs).flatten 0) (fun A fs base s mL P E a R F F0 N q => KMa.mul F0 N (hl.at R) (by walk_at "om") h1 hsz rfl fun D h' F' N' hlt => q () D h' _ (.inl hlt) F' N') (fun _ => h)
end
variable {w : World} {H : Heap} {O : OsState} {g g0 : GH}
section
variable {L0 an am ta la wa ka na ea ra lo : Addr} {k n : Nat} {nm : Nat → Str} {md tg : Nat → Nat} {L l : List Nat} {m : LM}
theorem td_lost (T : Tp (KK w.params) H) (hn : n ≤ 10) (hL : ∀ p ∈ L, p < n) (hLl : L.length ≤ 10) (B : TB nm n md tg L an am ta la g) (F : TF n an am ta la m) (hw : WL n md tg g wa) (m2 : m (sN "ways") = some (.ref wa)) :
    tri w H O (k + 1) none noX (tdEnv L0) (exec (stAt (fBody (sAt 38)) 10) (tdEnv L0)) g m fun f g2 m2 => f = .next ∧ Sub g g2 ∧ ∃ D, m2 = mset m (sN "lost") (.ref D) ∧ ∃ vs, IsL g2 D vs ∧ SVs nm (L.filter fun e => !(finB n md tg e)) vs := by
  refine tri_hide fun Q1 hQ1 => ?_
  obtain ⟨tc, hct⟩ := F.ct
  have f1 := F.ls
  have f2 := F.nm
  refine el_ea B.ls fun vl hvl hil => ?_
  refine el_eaa hw fun vw hvw hwl hwa => ?_; clear hw
  refine el_ea B.nl fun vn hvn hsn => ?_
  have hnl := hsn.len
  simp only [List.length_range] at hnl
  have hll := IntsAre.nlen hil
  refine t_lcuse (by kernel_rfl) (by kernel_rfl) (fun _ => by kernel_rfl) ?_
  repeat walk_at "st"
  refine compAt_1 T (n := vl.length) (Src := fun g => IsL g la vl) (fun i ys g' m' => g' = g ∧ SVs nm ((L.take i).filter fun e => !(finB n md tg e)) ys ∧ m' (sN "ways") = some (.ref wa) ∧ m' (sN "count") = some (.int (n : Nat) tc) ∧ m' (sN "names") = some (.ref an)) (by kernel_rfl) (Starts.list hvl) (by walk_at "om")
    (fun i ys g m h => h.1 ▸ hvl) (fun g D o h hD => h.ne (fun z => by obtain ⟨n, q⟩ := h; rw [z, hD] at q; cases q)) (fun mc hmc => ⟨rfl, SVs.nil, (hmc.get (by kernel_rfl)).trans m2, (hmc.get (by kernel_rfl)).trans hct, (hmc.get (by kernel_rfl)).trans f2⟩) (fun C i v new ys g' m' hj p3 p4 hf => ?_) fun D ys g' m' e p2 hD => ?_
  · obtain ⟨hv, hnew⟩ := p3
    refine el_aaaa p4 fun h1 h3 h4 h5 h6 => ?_; clear p4
    subst h1 hnew
    refine el_eea (IntsAre.nat hil hv) fun p tp hp yy1 => ?_
    obtain rfl := yy1
    have hpn := hL p (List.mem_of_getElem? hp)
    have etk : L.take (i + 1) = L.take i ++ [p] := by rw [List.take_add_one, hp]; rfl
    obtain ⟨vv, hvv⟩ : ∃ vv, vw[p]? = some vv := ⟨_, List.getElem?_eq_getElem (by walk_at "om")⟩
    obtain ⟨W, t, t1, t2, rfl, hT, hF⟩ := hwa p vv hvv
    refine el_ea (hsn.at (j := p) (i := p) (by rw [List.getElem?_range (by walk_at "om")])) fun vnm hvnm hsv => ?_
    refine t_asgN (t_store (by kernel_rfl) ?_)
    refine t_tests1 ?_
    repeat walk_at "st"
    refine t_idxL hvw (by walk_at "om") (by walk_at "om") (by simpa using hvv) ?_ (by kernel_rfl)
    repeat walk_at "st"
    refine t_idxT hT (by walk_at "om") (by walk_at "om") (v := .int (t : Nat) t2) rfl ?_ (by kernel_rfl)
    repeat walk_at "st"
    have hb : decide ((n : Int) < (t : Int)) = !(finB n md tg p) := by
      rw [← hF.fin, Bool.eq_iff_iff]
      simp
    rw [hb]
    rw [etk, List.filter_append]
    cases hk : (!(finB n md tg p))
    · first | with_reducible refine ite_f ?_ | simp only [Bool.false_eq_true, if_false]
      refine ⟨rfl, ?_, by walk_at "look", by walk_at "look", by walk_at "look"⟩
      simpa [hk] using h3
    · first | with_reducible refine ite_t ?_ | simp only [if_true]
      repeat walk_at "st"
      refine t_idxL hvn (by walk_at "om") (by walk_at "om") (by simpa using hvnm) ?_ (by kernel_rfl)
      refine ⟨rfl, ?_, by walk_at "look", by walk_at "look", by walk_at "look"⟩
      simp only [List.filter_cons, hk, if_true, List.filter_nil]
      exact h3.snoc hsv
  · refine el_aaaa p2 fun h1 h3 h4 h5 h6 => ?_; clear p2
    subst h1
    unfold useQ
    dsimp only
    refine t_all1 (t_asgN ?_)
    repeat walk_at "st"
    refine (hQ1 _ _ _ ⟨rfl, sub_new hD, D, rfl, ys, ⟨e, gset_self⟩, ?_⟩)
    rw [show L.take vl.length = L by rw [hll]; simp] at h3
    exact h3
theorem td_ret (T : Tp (KK w.params) H) {vs : List Value} (hvs : IsL g lo vs) (hl : vs.length ≤ 100) (m1 : m (sN "rounds") = some (.ref ra)) (m2 : m (sN "ends") = some (.ref ea)) (m3 : m (sN "lost") = some (.ref lo)) :
    tri w H O (k + 1) none noX (tdEnv L0) (exec (stAt (fBody (sAt 38)) 11) (tdEnv L0)) g m fun f g2 m2 => ∃ D E, f = .ret (.ref D) ∧ Sub g g2 ∧ IsT g2 D [.bool (decide (0 < vs.length)), .ref ra, .ref ea, .ref lo, .ref E, .bool false] ∧ IsL g2 E (List.replicate vs.length (.bool true)) := by
  refine tri_hide fun Q1 hQ1 => ?_
  refine t_ret ?_
  refine t_tuple ?_
  repeat walk_at "st"
  refine t_lenL' hvs (by walk_at "om") fun t1 => ?_
  repeat walk_at "st"
  refine t_list ?_
  repeat walk_at "st"
  refine ⟨by simp, fun E hE => ?_⟩
  have hvs1 : IsL (gset g E (lst [Value.bool true] 0)) lo vs := hvs.sub (sub_new hE)
  repeat walk_at "st"
  refine t_lenL' hvs1 (by walk_at "om") fun t2 => ?_
  repeat walk_at "st"
  refine t_repL ⟨0, gset_self⟩ (by walk_at "om") (by walk_at "om") (by simp; walk_at "om") fun G hG => ?_
  repeat walk_at "st"
  have e1 : (List.replicate (vs.length : Int).toNat [Value.bool true]).flatten = List.replicate vs.length (Value.bool true) := by
    rw [Int.toNat_natCast]
    induction vs.length with
    | zero => rfl
    | succ j ih => rw [List.replicate_succ, List.flatten_cons, ih, List.replicate_succ]; rfl
  rw [e1] at *
  refine ⟨by simp, fun D hD => (hQ1 _ _ _ ⟨D, G, rfl, ?_, ⟨_, 0, gset_self, rfl, ?_⟩, ?_⟩)⟩
  · refine ((sub_new hE).put ?_).put ?_
    · have : G ≠ E := fun z => by rw [z, gset_self] at hG; cases hG
      rw [gset_ne this] at hG; exact hG
    · have q1 : D ≠ G := fun z => by rw [z, gset_self] at hD; cases hD
      rw [gset_ne q1] at hD
      have q2 : D ≠ E := fun z => by rw [z, gset_self] at hD; cases hD
      rw [gset_ne q2] at hD; exact hD
  · have : decide ((0 : Int) < (vs.length : Int)) = decide (0 < vs.length) := by rw [Bool.eq_iff_iff]; simp
    rw [this]
  · have q1 : G ≠ D := fun z => by rw [← z, gset_self] at hD; cases hD
    exact ⟨0, by rw [gset_ne q1, gset_self]⟩
end
section
variable {L0 am : Addr} {k n : Nat} {md : Nat → Nat} {m : LM}
theorem td_count (T : Tp (KK w.params) H) (hn : n ≤ 10) (hm : IL g am n md) (f1 : m (sN "modes") = some (.ref am)) :
    tri w H O (k + 1) none noX (tdEnv L0) (exec (stAt (fBody (sAt 38)) 0) (tdEnv L0)) g m fun f g2 m2 => f = .next ∧ g2 = g ∧ ∃ t, m2 = mset m (sN "count") (.int (n : Nat) t) := by
  refine tri_hide fun Q1 hQ1 => ?_
  refine el_eaa hm fun vm hvm hml hm => ?_; clear hm
  refine t_assignN (by kernel_rfl) ?_
  repeat walk_at "st"
  refine t_lenL' hvm (by walk_at "om") fun t1 => ?_
  repeat walk_at "st"
  rw [hml]
  exact (hQ1 _ _ _ ⟨rfl, rfl, t1, rfl⟩)
theorem td_new3 : tri w H O (k + 1) none noX (tdEnv L0) (exec (stAt (fBody (sAt 38)) 3) (tdEnv L0)) g m fun f g2 m2 => f = .next ∧ ∃ D, g D = none ∧ g2 = gset g D (lst [] 0) ∧ m2 = mset m (sN "named") (.ref D) := by
  refine tri_hide fun Q1 hQ1 => ?_
  refine t_assignN (by kernel_rfl) (t_list ?_)
  repeat walk_at "st"
  refine ⟨by simp, fun D hD => ?_⟩
  repeat walk_at "st"
  exact (hQ1 _ _ _ ⟨rfl, D, hD, rfl, rfl⟩)
theorem td_new6 : tri w H O (k + 1) none noX (tdEnv L0) (exec (stAt (fBody (sAt 38)) 6) (tdEnv L0)) g m fun f g2 m2 => f = .next ∧ ∃ D, g D = none ∧ g2 = gset g D (lst [] 0) ∧ m2 = mset m (sN "rounds") (.ref D) := by
  refine tri_hide fun Q1 hQ1 => ?_
  refine t_assignN (by kernel_rfl) (t_list ?_)
  repeat walk_at "st"
  refine ⟨by simp, fun D hD => ?_⟩
  repeat walk_at "st"
  exact (hQ1 _ _ _ ⟨rfl, D, hD, rfl, rfl⟩)
theorem td_new8 : tri w H O (k + 1) none noX (tdEnv L0) (exec (stAt (fBody (sAt 38)) 8) (tdEnv L0)) g m fun f g2 m2 => f = .next ∧ ∃ D o, g D = none ∧ o.IsDictOf (strKind P0 w) [] ∧ g2 = gset g D o ∧ m2 = mset m (sN "ends") (.ref D) := by
  refine tri_hide fun Q1 hQ1 => ?_
  refine t_assignN (by kernel_rfl) (t_dnew fun D o hD ho => ?_)
  repeat walk_at "st"
  exact (hQ1 _ _ _ ⟨rfl, D, o, hD, ho, rfl, rfl⟩)
end
def ToldRes (w : World) (nm : Nat → Str) (n : Nat) (md tg : Nat → Nat) (L : List Nat) (r : Nat → List Nat) (g : GH) (v : Value) : Prop :=
  ∃ D E ra ea lo vr vs, v = .ref D ∧ IsT g D [.bool (decide (0 < vs.length)), .ref ra, .ref ea, .ref lo, .ref E, .bool false] ∧ (IsL g ra vr ∧ vr.length = n + 2 ∧ RdsAt nm g vr r) ∧ EDict w nm n md tg g ea ((ordL (lkOf md) tg L).filter (finB n md tg)) ∧ (IsL g lo vs ∧ SVs nm (L.filter fun e => !(finB n md tg e)) vs) ∧ IsL g E (List.replicate vs.length (.bool true))
theorem addn_nodup {l : List Nat} {i : Nat} (h : l.Nodup) : (addn l i).Nodup := by
  unfold addn
  split
  · exact h
  · rename_i hi
    exact List.nodup_append.mpr ⟨h, by simp, fun a ha b hb => by simp at hb; subst hb; exact fun q => hi (q ▸ ha)⟩
theorem ordL_nodup {lk : Nat → Bool} {tg : Nat → Nat} {L : List Nat} : (ordL lk tg L).Nodup := by
  induction L using snocInd with
  | h0 => simp [ordL]
  | h L p ih =>
    rw [ordL_snoc]
    unfold gp
    cases lk p
    · exact addn_nodup ih
    · exact addn_nodup (addn_nodup ih)
set_option maxHeartbeats 1000000 in
theorem f_told {k n : Nat} {an am ta la : Addr} {nm : Nat → Str} {md tg : Nat → Nat} {L : List Nat} {r : Nat → List Nat} (T : Tp (KK w.params) H) (inj : ∀ i j, nm i = nm j → i = j) (hn : n ≤ 10) (hL : ∀ p ∈ L, p < n) (htg : ∀ p ∈ L, tg p ≤ n) (hnd : L.Nodup) (hLl : L.length ≤ 10) (hr0 : r 0 = (ordL (lkOf md) tg L).filter (farOk n md)) (hr : ∀ t, (r t).length ≤ 100 ∧ ∀ e ∈ r t, e ≤ n) (hrs : ∀ t, r (t + 1) = (r t).flatMap (scL (lkOf md) tg L)) (B : TB nm n md tg L an am ta la g) :
    fnS w H O (k + 2) (.ref 238) ⟨[.ref an, .ref am, .ref ta, .ref la], []⟩ g (fun v g' => Sub g g' ∧ ToldRes w nm n md tg L r g' v) no2 := by
  refine fn_introC (fd := fd238) (binds := [(Str.ofString "names", .ref an), (Str.ofString "modes", .ref am), (Str.ofString "targets", .ref ta), (Str.ofString "listed", .ref la)]) T rfl rfl (by kernel_rfl) rfl (by kernel_rfl) rfl (kinds (by kernel_rfl)) (by decide +kernel) (fun L0 => ?_) (by kernel_rfl) (by kernel_rfl) (by kernel_rfl)
  refine tri_hide fun Q1 hQ1 => ?_
  rw [b4]
  have hon : ∀ e ∈ ordL (lkOf md) tg L, e ≤ n := fun e he => by
    rcases ordL_mem.mp he with z | ⟨l, h1, h2, h3⟩
    · exact Nat.le_of_lt (hL e z)
    · exact h3 ▸ htg l h1
  have hol : (ordL (lkOf md) tg L).length ≤ 100 := by have := @ordL_len (lkOf md) tg L; walk_at "om"
  refine t_cons (tri_mono (td_count (k := k) T hn B.md (by walk_at "look")) fun f g0 m0 p2 => ?_)
  obtain ⟨q1, q2, t1, q3⟩ := p2
  subst q1 q2
  have F : TF n an am ta la m0 := by subst q3; exact ⟨by walk_at "look", by walk_at "look", by walk_at "look", by walk_at "look", t1, by walk_at "look"⟩
  clear q3
  refine t_cons (tri_mono (td_ways (k := k) T hn B F) fun f g1 m1 p3 => ?_)
  refine el_aaea p3 fun q1 s1 wa q3 hw => ?_; clear p3
  subst q1 q3
  have A1 : Agr [sN "ways"] m0 (mset m0 (sN "ways") (.ref wa)) := Agr.refl.set (by decide +kernel)
  have F1 := F.agr A1 (by decide +kernel)
  have v1 : (mset m0 (sN "ways") (.ref wa)) (sN "ways") = some (.ref wa) := mset_self
  generalize mset m0 (sN "ways") (.ref wa) = m1 at *
  have B1 := B.sub s1
  refine t_cons (tri_mono (td_links (k := k) T hn hL hLl B1 F1) fun f g2 m2 p4 => ?_)
  refine el_aaea p4 fun q1 s2 ka q3 hk => ?_; clear p4
  subst q1 q3
  have A2 : Agr [sN "links"] m1 (mset m1 (sN "links") (.ref ka)) := Agr.refl.set (by decide +kernel)
  have F2 := F1.agr A2 (by decide +kernel)
  have v2w := (A2 _ (by decide +kernel)).trans v1
  have v2 : (mset m1 (sN "links") (.ref ka)) (sN "links") = some (.ref ka) := mset_self
  generalize mset m1 (sN "links") (.ref ka) = m2 at *
  have B2 := B1.sub s2
  have hw2 := hw.sub s2
  refine t_cons (tri_mono (td_new3 (k := k)) fun f g3 m3 p5 => ?_)
  obtain ⟨q1, na, hna, q2, q3⟩ := p5
  subst q1 q2 q3
  have A3 : Agr [sN "named"] m2 (mset m2 (sN "named") (.ref na)) := Agr.refl.set (by decide +kernel)
  have F3 := F2.agr A3 (by decide +kernel)
  have v3w := (A3 _ (by decide +kernel)).trans v2w
  have v3k := (A3 _ (by decide +kernel)).trans v2
  have v3 : (mset m2 (sN "named") (.ref na)) (sN "named") = some (.ref na) := mset_self
  generalize mset m2 (sN "named") (.ref na) = m3 at *
  refine t_cons (tri_mono (td_named (k := k) T hn hL hnd hLl B2 F3 (sub_new hna) hk hna ⟨[], ⟨0, gset_self⟩, .nil⟩ v3k v3) fun f g4 m4 p6 => ?_)
  refine el_aaa p6 fun q1 s4 A4 hno => ?_; clear p6
  subst q1
  have F4 := F3.agr A4 (by decide +kernel)
  have v4w := (A4 _ (by decide +kernel)).trans v3w
  have v4k := (A4 _ (by decide +kernel)).trans v3k
  have v4n := (A4 _ (by decide +kernel)).trans v3
  have B4 := B2.sub s4
  have hw4 := hw2.sub s4
  have hk4 := hk.sub s4
  refine t_cons (tri_mono (td_level (k := k) T hn hol hon hw4 hno v4n v4w) fun f g5 m5 p7 => ?_)
  refine el_aaea p7 fun q1 s5 lv q3 hlv => ?_; clear p7
  subst q1 q3
  have A5 : Agr [sN "level"] m4 (mset m4 (sN "level") (.ref lv)) := Agr.refl.set (by decide +kernel)
  have F5 := F4.agr A5 (by decide +kernel)
  have v5w := (A5 _ (by decide +kernel)).trans v4w
  have v5k := (A5 _ (by decide +kernel)).trans v4k
  have v5n := (A5 _ (by decide +kernel)).trans v4n
  have v5 : (mset m4 (sN "level") (.ref lv)) (sN "level") = some (.ref lv) := mset_self
  generalize mset m4 (sN "level") (.ref lv) = m5 at *
  rw [← hr0] at hlv
  refine t_cons (tri_mono (td_new6 (k := k)) fun f g6 m6 p8 => ?_)
  obtain ⟨q1, ra, hra, q2, q3⟩ := p8
  subst q1 q2 q3
  have A6 : Agr [sN "rounds"] m5 (mset m5 (sN "rounds") (.ref ra)) := Agr.refl.set (by decide +kernel)
  have F6 := F5.agr A6 (by decide +kernel)
  have v6w := (A6 _ (by decide +kernel)).trans v5w
  have v6k := (A6 _ (by decide +kernel)).trans v5k
  have v6n := (A6 _ (by decide +kernel)).trans v5n
  have v6l := (A6 _ (by decide +kernel)).trans v5
  have v6 : (mset m5 (sN "rounds") (.ref ra)) (sN "rounds") = some (.ref ra) := mset_self
  generalize mset m5 (sN "rounds") (.ref ra) = m6 at *
  have B5 := B4.sub s5
  have hk5 := hk4.sub s5
  have hw5 := hw4.sub s5
  have hno5 := hno.sub s5
  have hlr : lv ≠ ra := fun z => by obtain ⟨vs, ⟨n', e⟩, _⟩ := hlv; rw [z, hra] at e; cases e
  refine t_cons (tri_mono (td_rounds (k := k) T hn hL hLl hr hrs B5 F6 (sub_new hra) hk5 hra ⟨0, gset_self⟩ (hlv.sub (sub_new hra)) hlr v6l v6k v6) fun f g7 m7 p9 => ?_)
  obtain ⟨q1, s7, A7, vr, hvr, hvrl, hrds⟩ := p9
  subst q1
  have F7 := F6.agr A7 (by decide +kernel)
  have v7w := (A7 _ (by decide +kernel)).trans v6w
  have v7n := (A7 _ (by decide +kernel)).trans v6n
  have v7r := (A7 _ (by decide +kernel)).trans v6
  have B7 := B5.sub s7
  have hw7 := hw5.sub s7
  have hno7 := hno5.sub s7
  refine t_cons (tri_mono (td_new8 (k := k)) fun f g8 m8 p10 => ?_)
  obtain ⟨q1, ea, o8, hea, ho8, q2, q3⟩ := p10
  subst q1 q2 q3
  have A8 : Agr [sN "ends"] m7 (mset m7 (sN "ends") (.ref ea)) := Agr.refl.set (by decide +kernel)
  have F8 := F7.agr A8 (by decide +kernel)
  have v8w := (A8 _ (by decide +kernel)).trans v7w
  have v8n := (A8 _ (by decide +kernel)).trans v7n
  have v8r := (A8 _ (by decide +kernel)).trans v7r
  have v8 : (mset m7 (sN "ends") (.ref ea)) (sN "ends") = some (.ref ea) := mset_self
  generalize mset m7 (sN "ends") (.ref ea) = m8 at *
  refine t_cons (tri_mono (td_ends (k := k) T inj hn hol hon ordL_nodup B7 F8 (sub_new hea) hw7 hno7 hea ⟨fun _ => .none, ⟨o8, gset_self, ho8⟩, fun e he => nomatch he⟩ v8n v8w v8) fun f g9 m9 p11 => ?_)
  refine el_aaa p11 fun q1 s9 A9 hE => ?_; clear p11
  subst q1
  have F9 := F8.agr A9 (by decide +kernel)
  have v9w := (A9 _ (by decide +kernel)).trans v8w
  have v9r := (A9 _ (by decide +kernel)).trans v8r
  have v9 := (A9 _ (by decide +kernel)).trans v8
  refine t_cons (tri_mono (td_lost (k := k) T hn hL hLl (B7.sub s9) F9 (hw7.sub s9) v9w) fun f g10 m10 p12 => ?_)
  obtain ⟨q1, s10, lo, q3, vs, hvs, hsv⟩ := p12
  subst q1 q3
  have A10 : Agr [sN "lost"] m9 (mset m9 (sN "lost") (.ref lo)) := Agr.refl.set (by decide +kernel)
  have hvl : vs.length ≤ 100 := by
    rw [hsv.len]
    exact Nat.le_trans (List.length_filter_le _ _) (by walk_at "om")
  refine t_cons (tri_mono (td_ret (k := k) T hvs hvl ((A10 _ (by decide +kernel)).trans v9r) ((A10 _ (by decide +kernel)).trans v9) mset_self) fun f g11 m11 p13 => ?_)
  refine el_eeaaa p13 fun D E q1 s11 hD hEE => ?_; clear p13
  subst q1
  have sT := sub_trans s10 s11
  refine (hQ1 _ _ _ ⟨sub_trans s1 (sub_trans s2 (sub_trans s4 (sub_trans s5 (sub_trans s7 (sub_trans s9 sT))))), D, E, ra, ea, lo, vr, vs, rfl, hD, ⟨?_, hvrl, ?_⟩, hE.sub sT, ⟨hvs.sub s11, hsv⟩, hEE⟩)
  · exact (hvr.sub s9).sub sT
  · exact (hrds.sub s9).sub sT
end
noncomputable section
variable {w : World} {H : Heap} {O : OsState} {g g0 : GH}
noncomputable abbrev chEnv (L : Addr) : Env := callEnvC fd226 L 226
structure RowOk (nm : Nat → Str) (md : Nat → Nat) (lk : Nat → Bool) (tg : Nat → Nat) (x : Str) (p : Nat) : Prop where
  len : x.length ≤ 1000
  tl : Txt.split (Txt.slice x (some 11) none) (sN " -> ") = nm p :: (gp lk tg p).map nm
  rd : ∃ k0 r v l, Reads (Txt.slice x none (some 10)) k0 r v l ∧ rdI k0 r v l 3 = (md p : Nat)
theorem SVs.ofPairs {nm : Nat → Str} : ∀ {l : List (Str × Tok)} {is : List Nat}, l.map (·.1) = is.map nm → SVs nm is (strValues l)
  | [], [], _ => rfl
  | (x, t) :: l, i :: is, h => by
    simp only [List.map_cons, List.cons.injEq] at h
    have := SVs.ofPairs h.2
    rw [show strValues ((x, t) :: l) = .str x t :: strValues l from rfl, h.1]
    exact SVs.cons ⟨t, rfl⟩ this
  | [], _ :: _, h => by simp at h
  | _ :: _, [], h => by simp at h
theorem SVs.tail {nm : Nat → Str} {i : Nat} {is : List Nat} {vs : List Value} (h : SVs nm (i :: is) vs) : ∃ v us, vs = v :: us ∧ SV nm i v ∧ SVs nm is us := by
  cases vs with
  | nil => simp [SVs] at h
  | cons v us =>
    simp only [SVs, List.map_cons, List.cons.injEq] at h
    exact ⟨v, us, rfl, unS_some h.1, h.2⟩
def MDict (w : World) (nm : Nat → Str) (md : Nat → Nat) (g : GH) (d : Addr) (l : List Nat) : Prop := ∃ tk : Nat → Tok, IsD w g d (l.map fun p => (nm p, .int (md p : Nat) (tk p)))
theorem MDict.sub {nm : Nat → Str} {md : Nat → Nat} {g g' : GH} {d : Addr} {l : List Nat} (h : MDict w nm md g d l) (s : Sub g g') : MDict w nm md g' d l := by obtain ⟨tk, o, e, h1⟩ := h; exact ⟨tk, o, s _ _ e, h1⟩
theorem GraphAt.sub {nm : Nat → Str} {lk : Nat → Bool} {tg : Nat → Nat} {f f' : GH} {gr : Addr} {L : List Nat} {gl : Nat → Addr} (G : GraphAt w nm lk tg f gr L gl) (s : Sub f f') : GraphAt w nm lk tg f' gr L gl := G.mono s
theorem GraphAt.keep {nm : Nat → Str} {lk : Nat → Bool} {tg : Nat → Nat} {f f' : GH} {gr da : Addr} {L : List Nat} {gl : Nat → Addr} {o : Obj} (G : GraphAt w nm lk tg f gr L gl) (k : Keep da f f') (hd : f da = some o) (hc : o.cls ≠ .type "list") (hne : gr ≠ da) : GraphAt w nm lk tg f' gr L gl :=
  ⟨by obtain ⟨o, e, q⟩ := G.di; exact ⟨o, k _ _ hne e, q⟩, fun p hp => by obtain ⟨vs, ⟨n, e⟩, q⟩ := G.ls p hp; exact ⟨vs, ⟨n, k _ _ (ne_cls e hd (Ne.symm hc)) e⟩, q⟩⟩
theorem pick_tail {v : Value} {us : List Value} (h : us.length ≤ 1) : (slicePick (v :: us).toArray (some 1) none none).toList = us := by
  cases us with
  | nil => rw [kms_pick_eq]; rfl
  | cons u r => cases r with
    | nil => rw [kms_pick_eq]; rfl
    | cons x y => exact absurd h (by simp)
section
variable {L0 rl da gr : Addr} {k n : Nat} {nm : Nat → Str} {md tg : Nat → Nat} {L l : List Nat} {m : LM}
set_option maxHeartbeats 1000000 in
theorem ch_rows (T : Tp (KK w.params) H) {vs : List Value} (inj : ∀ i j, nm i = nm j → i = j) (hnd : L.Nodup) (hLl : L.length ≤ 10) (hvl : vs.length = L.length) (hrow : ∀ (j p : Nat), L[j]? = some p → ∃ x t, vs[j]? = some (.str x t) ∧ RowOk nm md (lkOf md) tg x p)
    (hs : Sub g0 g) (hrl : IsL g0 rl vs) (hda : g0 da = none) (hgr : g0 gr = none) (hne : gr ≠ da) (hD : IsD w g da []) (hG : IsD w g gr []) (m1 : m (sN "rows") = some (.ref rl)) (m2 : m (sN "modes") = some (.ref da)) (m3 : m (sN "graph") = some (.ref gr)) :
    tri w H O (k + 2) none noX (chEnv L0) (exec (stAt (fBody (sAt 36)) 2) (chEnv L0)) g m fun f g2 m2 => f = .next ∧ Sub g0 g2 ∧ Agr [sN "row", sN "parts"] m m2 ∧ MDict w nm md g2 da L ∧ ∃ gl, GraphAt w nm (lkOf md) tg g2 gr L gl := by
  refine tri_hide fun Q1 hQ1 => ?_
  refine t_for (fun _ => by kernel_rfl) ?_
  repeat walk_at "st"
  refine t_forP (n := vs.length) (P := fun j u => vs[j]? = some u) (Src := fun g => IsL g rl vs) (fun j g' m' => Sub g0 g' ∧ Agr [sN "row", sN "parts"] m m' ∧ MDict w nm md g' da (L.take j) ∧ ∃ gl, GraphAt w nm (lkOf md) tg g' gr (L.take j) gl) (Starts.list (hrl.sub hs)) (fun _ _ _ h => hrl.sub h.1)
    ⟨hs, Agr.refl, ⟨fun _ => 0, hD⟩, fun _ => 0, hG, fun p hp => nomatch hp⟩ (fun j u g' m' hj hu p3 => ?_) fun g' m' ⟨h1, h2, h3, gl, h4⟩ => t_nil (hQ1 _ _ _ ⟨rfl, h1, h2, ?_, gl, ?_⟩)
  · first | refine tri_hide fun Q2 hQ2 => ?_ | skip
    obtain ⟨h1, h2, h3, gl, h4⟩ := p3
    obtain ⟨p, hp⟩ : ∃ p, L[j]? = some p := ⟨_, List.getElem?_eq_getElem (by walk_at "om")⟩
    refine el_eea (hrow j p hp) fun x t hx R => ?_
    rw [hu] at hx
    cases hx
    have hxl := R.len
    have etk : L.take (j + 1) = L.take j ++ [p] := by rw [List.take_add_one, hp]; rfl
    have hpt : p ∉ L.take j := fun z => by
      obtain ⟨i, hi, e⟩ := List.mem_take_iff_getElem.mp z
      have hjo : j < L.length := by walk_at "om"
      have e2 : L[j] = p := by rw [List.getElem?_eq_getElem hjo] at hp; exact Option.some.inj hp
      have := (List.getElem_inj (h₀ := by walk_at "om") (h₁ := hjo) hnd).mp (e.trans e2.symm)
      walk_at "om"
    have md' : m' (sN "modes") = some (.ref da) := (h2 _ (by decide +kernel)).trans m2
    have mg' : m' (sN "graph") = some (.ref gr) := (h2 _ (by decide +kernel)).trans m3
    refine t_asgN ?_
    repeat walk_at "st"
    refine hQ2 _ _ _ ?_
    refine tri_hide fun Q20 hQ20 => ?_
    repeat walk_at "st"
    refine t_slSn (by walk_at "om") (fun _ => by kernel_rfl) (fun _ => by kernel_rfl) fun t1 => ?_
    refine t_smethod PySem.F.slot_str_split PySem.F.type_str_split ?_
    repeat walk_at "st"
    refine t_split (by decide +kernel) ?_ fun lp D hlp hDn => ?_
    · exact Nat.le_trans (Txt.slice_le _ _ _) (by walk_at "om")
    rw [show (Str.ofString " -> ") = sN " -> " from rfl, R.tl] at hlp
    have hsv : SVs nm (p :: gp (lkOf md) tg p) (strValues lp) := SVs.ofPairs (by simpa using hlp)
    refine el_eeaa hsv.tail fun v0 us e0 yy1 hus => ?_
    obtain ⟨t0, rfl⟩ := yy1
    rw [e0]
    generalize hg1 : gset g' D (lst (Value.str (nm p) t0 :: us) 0) = g1
    have hD1 : IsL g1 D (Value.str (nm p) t0 :: us) := ⟨0, by rw [← hg1, gset_self]⟩
    have s1 : Sub g' g1 := hg1 ▸ sub_new hDn
    have hul := hus.len
    have hul1 : us.length ≤ 1 := by rw [hul]; exact gp_len
    repeat walk_at "st"
    refine t_stS (by kernel_rfl) (by kernel_rfl) ?_
    repeat walk_at "st"
    refine t_slnS (by walk_at "om") (fun _ => by kernel_rfl) (fun _ => by kernel_rfl) fun t2 => ?_
    repeat walk_at "st"
    obtain ⟨k0, r, v, l', hR, hmd⟩ := R.rd
    refine tri_call (f_read (k := k + 1) T hR) fun y g2 p4 => ?_
    refine el_ae p4 fun s2 ty ey => ?_; clear p4
    subst ey
    rw [hmd]
    repeat walk_at "st"
    refine t_idxL (hD1.sub s2) (by walk_at "om") (by walk_at "om") (v := .str (nm p) t0) rfl ?_ (by kernel_rfl)
    have h3' := h3.sub (sub_trans s1 s2)
    obtain ⟨tk, hmd3⟩ := h3'
    have hlen : (L.take j).length ≤ 10 := by rw [List.length_take]; walk_at "om"
    refine t_dset hmd3 (by rw [List.length_map]; walk_at "om") fun o6 ho6 => ?_
    have hmd4 : MDict w nm md (gset g2 da o6) da (L.take (j + 1)) := by
      refine ⟨put tk p ty, o6, gset_self, ?_⟩
      rw [stored_map inj (fun p => Value.int (md p : Nat) (tk p)) hpt] at ho6
      rw [etk]
      have : (fun j => (nm j, put (fun p => Value.int (md p : Nat) (tk p)) p (Value.int (md p : Nat) ty) j)) = fun q => (nm q, Value.int (md q : Nat) (put tk p ty q)) := by
        funext q
        by_cases z : q = p
        · subst z; simp [put_self]
        · simp [put_ne z]
      rw [this] at ho6
      exact ho6
    refine el_ea (id hmd3) fun od ed hd => ?_
    have hcd : od.cls = .type "dict" := by
      refine el_ea hmd3.cls fun o' e' c' => ?_
      rw [ed] at e'; cases e'; exact c'
    have k2 : Keep da g2 (gset g2 da o6) := Keep.refl.put
    have hG2 := (h4.sub (sub_trans s1 s2)).keep k2 ed (by rw [hcd]; show Value.type _ ≠ Value.type _; decide) hne
    have hDda : D ≠ da := by
      obtain ⟨n', e⟩ := hD1.sub s2
      exact ne_cls e ed (by rw [hcd]; show Value.type _ ≠ Value.type _; decide)
    have hD2 : IsL (gset g2 da o6) D (Value.str (nm p) t0 :: us) := (hD1.sub s2).ne hDda
    have s3 : Sub g0 (gset g2 da o6) := (sub_trans h1 (sub_trans s1 s2)).put hda
    generalize gset g2 da o6 = g3 at *
    refine t_cons ?_
    refine t_stS (by kernel_rfl) (by kernel_rfl) ?_
    repeat walk_at "st"
    refine t_slL (ops := fun i => [i, .ref D]) (.inl hD2) (.int _ _) .none .none (by simp) (by simp; walk_at "om") (fun _ => by kernel_rfl) (fun _ => by kernel_rfl) fun E hE => ?_
    have eus : (slicePick (Value.str (nm p) t0 :: us).toArray (some 1) none none).toList = us := pick_tail hul1
    rw [eus]
    repeat walk_at "st"
    refine t_idxL (hD2.sub (sub_new hE)) (by walk_at "om") (by walk_at "om") (v := .str (nm p) t0) rfl ?_ (by kernel_rfl)
    refine t_dset (hG2.sub (sub_new hE)).di (by rw [List.length_map]; walk_at "om") fun o7 ho7 => ?_
    have s4 : Sub g0 (gset (gset g3 E (lst us 0)) gr o7) := (s3.put (s3.none hE)).put hgr
    rw [stored_map inj (fun p => Value.ref (gl p)) hpt] at ho7
    refine el_ea (id hG2.di) fun og eg hg => ?_
    have hcg : og.cls = .type "dict" := by
      refine el_ea hG2.di.cls fun o' e' c' => ?_
      rw [eg] at e'; cases e'; exact c'
    have hEgr : E ≠ gr := fun z => by rw [z, eg] at hE; cases hE
    refine t_nil (hQ20 _ _ _ ⟨s4, ?_, ?_, put gl p E, ?_, fun q hq => ?_⟩)
    · exact (h2.set (by decide +kernel)).set (by decide +kernel)
    · refine el_eea hmd4 fun tk4 o4 e4 hh4 => ?_; clear hmd4
      refine ⟨tk4, o4, ?_, hh4⟩
      rw [gset_ne (Ne.symm hne)]
      exact (sub_new hE) _ _ e4
    · refine ⟨o7, gset_self, ?_⟩
      rw [etk]
      have : (fun j => (nm j, put (fun p => Value.ref (gl p)) p (Value.ref E) j)) = fun q => (nm q, Value.ref (put gl p E q)) := by
        funext q
        by_cases z : q = p
        · subst z; simp [put_self]
        · simp [put_ne z]
      rw [← this]; exact ho7
    · rw [etk] at hq
      have kk : Keep gr (gset g3 E (lst us 0)) (gset (gset g3 E (lst us 0)) gr o7) := Keep.refl.put
      by_cases z : q = p
      · subst z
        rw [put_self]
        exact ⟨us, ⟨0, by rw [gset_ne hEgr, gset_self]⟩, hus⟩
      · rw [put_ne z]
        rcases List.mem_append.mp hq with y | y
        · refine el_ea (hG2.ls q y) fun vs' h8 h9 => ?_
          have h8' := h8.sub (sub_new (o := lst us 0) hE)
          refine ⟨vs', h8'.keep kk ?_, h9⟩
          obtain ⟨n', e⟩ := h8
          exact ne_cls e eg (by rw [hcg]; show Value.type _ ≠ Value.type _; decide)
        · exact absurd (List.mem_singleton.mp y) z
  · rw [show L.take vs.length = L by rw [hvl]; simp] at h3
    exact h3
  · rw [show L.take vs.length = L by rw [hvl]; simp] at h4
    exact h4
end
end
noncomputable section
variable {w : World} {H : Heap} {O : OsState} {g g0 : GH}
theorem make_uni {x dx : Addr} {o o' : Obj} (hx : g x = none) (hdx : g dx = none) (hne : dx ≠ x) : gset (gset g dx o) x o' = uni (gset (gset (fun _ => none) dx o) x o') g ∧ Disj (gset (gset (fun _ => none) dx o) x o') g := by
  refine ⟨?_, fun b => ?_⟩
  · funext b
    unfold gset uni
    by_cases q : b = x
    · simp [q]
    · by_cases q2 : b = dx
      · simp [q2, hne]
      · simp [q, q2]
  · unfold gset
    by_cases q : b = x
    · exact .inr (q ▸ hx)
    · by_cases q2 : b = dx
      · exact .inr (q2 ▸ hdx)
      · simp [q, q2]
section
variable {L0 rl da gr : Addr} {k n : Nat} {nm : Nat → Str} {md tg : Nat → Nat} {lk : Nat → Bool} {L l : List Nat} {m : LM}
def Made (w : World) (nm : Nat → Str) (lk : Nat → Bool) (tg : Nat → Nat) (L : List Nat) (g : GH) (v : Value) (g' : GH) : Prop := ∃ gS own a, v = .ref a.x ∧ g' = uni gS own ∧ Disj gS own ∧ Sub g own ∧ SH w nm gS a (ordL lk tg L) (npL lk L) (scL lk tg L) none 0 0
theorem ch_sorter (T : Tp (KK w.params) H) (inj : ∀ i j, nm i = nm j → i = j) (hnd : L.Nodup) (hLl : L.length ≤ 10) {gl : Nat → Addr} (G : GraphAt w nm lk tg g gr L gl) (m3 : m (sN "graph") = some (.ref gr)) :
    tri w H O (k + 7) none noX (chEnv L0) (exec (stAt (fBody (sAt 36)) 3) (chEnv L0)) g m fun f g2 m2 => f = .next ∧ ∃ v, m2 = mset m (sN "sorter") v ∧ Made w nm lk tg L g v g2 := by
  refine tri_hide fun Q1 hQ1 => ?_
  refine t_assignN (by kernel_rfl) ?_
  repeat walk_at "st"
  refine tri_call (Rq := fun v g' => Made w nm lk tg L g v g') (fnS_make (k := k + 6) (C := 137) (fI := 73) (R := fun v g' => Made w nm lk tg L g v g') T (by kernel_rfl) (by kernel_rfl) (by kernel_rfl) fun x dx hx hdx hne => ?_) fun v g2 hv => ?_
  · obtain ⟨e1, e2⟩ := make_uni (o := emptyDict) (o' := instObj 137 dx) hx hdx hne
    rw [e1]
    refine fnS_monoX (f_init (k := k) (x := x) (dx := dx) T inj gset_self (by rw [gset_ne hne, gset_self]) e2 G (by walk_at "om") hnd) (fun v g' z1 => by obtain ⟨h1, gS, own, a, h2, h3, h4, h5, h6⟩ := z1; exact ⟨h1, gS, own, a, by rw [h5], h2, h3, h4, h6⟩) fun _ _ h => h
  · repeat walk_at "st"
    exact (hQ1 _ _ _ ⟨rfl, v, rfl, hv⟩)
end
end
noncomputable section
variable {w : World} {H : Heap} {O : OsState} {g g0 : GH}
def Spl (w : World) (nm : Nat → Str) (a : SA) (ord : List Nat) (np : Nat → Int) (sc : Nat → List Nat) (l : List Nat) (po nf : Int) (own g : GH) : Prop := ∃ gS, g = uni gS own ∧ Disj gS own ∧ SH w nm gS a ord np sc (some l) po nf
section
variable {nm : Nat → Str} {a : SA} {ord : List Nat} {np : Nat → Int} {sc : Nat → List Nat} {l : List Nat} {po nf : Int} {own : GH}
theorem Spl.sub (h : Spl w nm a ord np sc l po nf own g) : Sub own g := fun b o e => by
  refine el_eaa h fun gS yy1 d _ => ?_; clear h
  obtain rfl := yy1
  exact uni_r d e
theorem Spl.sh (h : Spl w nm a ord np sc l po nf own g) : SH w nm g a ord np sc (some l) po nf := by
  refine el_eaa h fun gS yy2 d S => ?_; clear h
  obtain rfl := yy2
  exact S.mono sub_uni
theorem Spl.new {b : Addr} {o : Obj} (h : Spl w nm a ord np sc l po nf own g) (hb : g b = none) : Spl w nm a ord np sc l po nf (gset own b o) (gset g b o) := by
  refine el_eaa h fun gS yy3 d S => ?_; clear h
  obtain rfl := yy3
  obtain ⟨h1, h2⟩ := uni_none.mp hb
  exact ⟨gS, uni_gset_r h1, (d.symm.set h1).symm, S⟩
theorem Spl.put {b : Addr} {o o' : Obj} (h : Spl w nm a ord np sc l po nf own g) (hb : own b = some o) : Spl w nm a ord np sc l po nf (gset own b o') (gset g b o') := by
  refine el_eaa h fun gS yy4 d S => ?_; clear h
  obtain rfl := yy4
  have h1 : gS b = none := (d b).resolve_right (by rw [hb]; exact fun z => nomatch z)
  exact ⟨gS, uni_gset_r h1, (d.symm.set h1).symm, S⟩
theorem Spl.none {b : Addr} (h : Spl w nm a ord np sc l po nf own g) (hb : g b = none) : own b = Option.none := by
  refine el_eaa h fun gS yy5 d S => ?_; clear h
  obtain rfl := yy5
  exact (uni_none.mp hb).2
end
section
variable {L0 : Addr} {k n : Nat} {nm : Nat → Str} {a : SA} {ord : List Nat} {np : Nat → Int} {sc : Nat → List Nat} {own : GH} {m : LM}
theorem ch_prep (T : Tp (KK w.params) H) (inj : ∀ i j, nm i = nm j → i = j) (hle : ord.length ≤ 500) (hin : ∀ v ∈ ord, ∀ s ∈ sc v, s ∈ ord) (S : SH w nm g a ord np sc none 0 0) (hD : Disj g own) (m1 : m (sN "sorter") = some (.ref a.x)) (m2 : m (sN "ring") = some (.bool false)) :
    tri w H O (k + 2) none noX (chEnv L0) (exec (stAt (fBody (sAt 36)) 5) (chEnv L0)) (uni g own) m fun f g2 m2 => f = .next ∧ Agr [sN "ring"] m m2 ∧ ∃ b a', m2 (sN "ring") = some (.bool b) ∧ a'.x = a.x ∧ Spl w nm a' ord np sc (ord.filter fun i => np i == 0) 0 0 own g2 ∧ ((b = false ∧ Acyc ord sc) ∨ (b = true ∧ Cyc sc)) := by
  refine tri_hide fun Q1 hQ1 => ?_
  refine t_try (P := fun c' g2 m2 => c' = .ref 55 ∧ m2 = m ∧ (∃ a', a'.x = a.x ∧ Spl w nm a' ord np sc (ord.filter fun i => np i == 0) 0 0 own g2) ∧ Cyc sc) rfl rfl ?_ fun c' e g2 m2' p2 => ?_
  · refine t_cons ?_
    repeat walk_at "st"
    refine s_meth (f := 92) T (S.mono sub_uni) (by kernel_rfl) (by kernel_rfl) (by kernel_rfl) (fun _ _ _ _ _ => rfl) rfl ?_
    repeat walk_at "st"
    refine tri_callX (fnS_frame (f_prep (k := k) T inj S hle hin) hD) (fun v g2 p3 => ?_) fun c g2 z1 => by obtain ⟨gS, e1, d, h1, ⟨a', h2, h3⟩, h4⟩ := z1; exact ⟨h1, rfl, ⟨a', h2, gS, e1, d, h3⟩, h4⟩
    refine el_eaaaa p3 fun gS e1 d h1 yy6 h4 => ?_; clear p3
    obtain ⟨a', h2, h3⟩ := yy6
    refine t_nil (t_nil (hQ1 _ _ _ ⟨rfl, Agr.refl, false, a', m2, h2, ⟨gS, e1, d, h3⟩, .inl ⟨rfl, h4⟩⟩))
  · refine el_aaa p2 fun hc hm2 yy7 hC => ?_; clear p2
    obtain ⟨a', ha, hS⟩ := yy7
    subst hc hm2
    repeat walk_at "st"
    refine ⟨fun A s ea oe Qb E he hg ho hc hq => by subst he; exact match_own (T.X.keeps hg) (ex55 _) (by decide +kernel) ho hc hq, ?_⟩
    refine t_cons ?_
    repeat walk_at "st"
    exact (hQ1 _ _ _ ⟨rfl, Agr.refl.set (by decide +kernel), true, a', by walk_at "look", ha, hS, .inr ⟨rfl, hC⟩⟩)
end
end
noncomputable section
theorem step_fold : ∀ (ss : List Nat) (np : Nat → Int) (l : List Nat), ss.Nodup → (∀ s ∈ ss, np s = 1) → ss.foldl stepS (np, l) = (fun x => if x ∈ ss then 0 else np x, l ++ ss)
  | [], np, l, _, _ => by simp
  | s :: ss, np, l, hn, h => by
    obtain ⟨h1, h2⟩ := List.nodup_cons.mp hn
    have hs := h s (.head _)
    have e : stepS (np, l) s = (put np s 0, l ++ [s]) := by
      unfold stepS
      simp [hs]
    rw [List.foldl_cons, e, step_fold ss (put np s 0) (l ++ [s]) h2 fun x hx => ?_]
    · refine Prod.ext ?_ (by simp)
      funext x
      by_cases q : x ∈ ss
      · simp [q]
      · by_cases q2 : x = s
        · subst q2; simp [q, put]
        · simp [q, q2, put]
    · have : x ≠ s := fun z => h1 (z ▸ hx)
      rw [put_ne this]; exact h x (.tail _ hx)
theorem done_fold {sc : Nat → List Nat} {np : Nat → Int} {ns : List Nat} (H1 : ns.Nodup) (H2 : ∀ q ∈ ns, (sc q).Nodup) (H3 : ∀ q ∈ ns, ∀ s ∈ sc q, np s = 1 ∧ s ∉ ns) (H4 : ∀ q ∈ ns, ∀ q' ∈ ns, ∀ s, s ∈ sc q → s ∈ sc q' → q = q') : doneA sc (np, []) ns = (fun i => if i ∈ ns then -2 else if i ∈ ns.flatMap sc then 0 else np i, ns.flatMap sc) := by
  induction ns using snocInd with
  | h0 => simp [doneA]
  | h ns q ih =>
    have hn := List.nodup_append.mp H1
    have hq : q ∉ ns := fun z => hn.2.2 q z q (by simp) rfl
    have sb : ∀ {x}, x ∈ ns → x ∈ ns ++ [q] := fun h => List.mem_append_left _ h
    have hqm : q ∈ ns ++ [q] := by simp
    have ih := ih hn.1 (fun x hx => H2 x (sb hx)) (fun x hx s hs => ⟨(H3 x (sb hx) s hs).1, fun z => (H3 x (sb hx) s hs).2 (sb z)⟩) fun x hx y hy s h1 h2 => H4 x (sb hx) y (sb hy) s h1 h2
    have e1 : doneA sc (np, []) (ns ++ [q]) = doneN sc (doneA sc (np, []) ns) q := by simp [doneA, List.foldl_append]
    rw [e1, ih]
    unfold doneN
    dsimp only
    rw [step_fold (sc q) _ _ (H2 q hqm) fun s hs => ?_]
    · refine Prod.ext ?_ (by simp)
      funext i
      dsimp only
      by_cases c1 : i ∈ sc q
      · have h3 := H3 q hqm i c1
        simp only [c1, if_true]
        have : i ∈ (ns ++ [q]).flatMap sc := List.mem_flatMap.mpr ⟨q, hqm, c1⟩
        rw [if_neg h3.2, if_pos this]
      · simp only [c1, if_false]
        by_cases c2 : i = q
        · subst c2; rw [put_self, if_pos hqm]
        · rw [put_ne c2]
          have e2 : (i ∈ ns ++ [q]) = (i ∈ ns) := by simp [c2]
          have e3 : (i ∈ (ns ++ [q]).flatMap sc) = (i ∈ ns.flatMap sc) := by simp [c1]
          simp only [e2, e3]
    · have h3 := H3 q hqm s hs
      have c2 : s ≠ q := fun z => h3.2 (by rw [z]; exact hqm)
      have c1 : s ∉ ns := fun z => h3.2 (sb z)
      have c3 : s ∉ ns.flatMap sc := fun z => by
        refine el_ea (List.mem_flatMap.mp z) fun u hu hsu => ?_
        have := H4 u (sb hu) q hqm s hsu hs
        exact hq (this ▸ hu)
      rw [put_ne c2, if_neg c1, if_neg c3]
      exact h3.1
section
variable {lk : Nat → Bool} {tg : Nat → Nat} {L : List Nat}
def At (lk : Nat → Bool) (tg : Nat → Nat) (L : List Nat) : Nat → Nat → Prop
  | 0, e => ¬ (e ∈ L ∧ lk e = true)
  | t + 1, e => (e ∈ L ∧ lk e = true) ∧ At lk tg L t (tg e)
theorem At.uniq : ∀ {t s e : Nat}, At lk tg L t e → At lk tg L s e → t = s
  | 0, 0, _, _, _ => rfl
  | 0, s + 1, e, h, h' => absurd h'.1 h
  | t + 1, 0, e, h, h' => absurd h.1 h'
  | t + 1, s + 1, e, h, h' => by rw [At.uniq h.2 h'.2]
def rdyL (lk : Nat → Bool) (tg : Nat → Nat) (L : List Nat) : Nat → List Nat
  | 0 => (ordL lk tg L).filter fun i => npL lk L i == 0
  | t + 1 => (rdyL lk tg L t).flatMap (scL lk tg L)
theorem mem_sc {q s : Nat} : s ∈ scL lk tg L q ↔ s ∈ L ∧ lk s = true ∧ tg s = q := by
  unfold scL
  simp [List.mem_filter]
theorem np0 {e : Nat} : (npL lk L e == 0) = true ↔ ¬ (e ∈ L ∧ lk e = true) := by
  unfold npL
  split <;> simp_all
theorem mem_rdy : ∀ {t e : Nat}, e ∈ rdyL lk tg L t ↔ e ∈ ordL lk tg L ∧ At lk tg L t e
  | 0, e => by
    unfold rdyL At
    rw [List.mem_filter, np0]
  | t + 1, e => by
    unfold rdyL At
    rw [List.mem_flatMap]
    constructor
    · rintro ⟨u, hu, he⟩
      refine el_aa (mem_sc.mp he) fun h1 h2 yy1 => ?_
      obtain rfl := yy1
      exact ⟨ordL_mem.mpr (.inl h1), ⟨h1, h2⟩, (mem_rdy.mp hu).2⟩
    · rintro ⟨h1, ⟨h2, h3⟩, h4⟩
      exact ⟨tg e, mem_rdy.mpr ⟨ordL_mem.mpr (.inr ⟨e, h2, h3, rfl⟩), h4⟩, mem_sc.mpr ⟨h2, h3, rfl⟩⟩
theorem sc_nodup (hnd : L.Nodup) {q : Nat} : (scL lk tg L q).Nodup := hnd.filter _
theorem sc_uniq {q q' s : Nat} (h : s ∈ scL lk tg L q) (h' : s ∈ scL lk tg L q') : q = q' := (mem_sc.mp h).2.2.symm.trans (mem_sc.mp h').2.2
theorem flat_nodup (hnd : L.Nodup) : ∀ {ns : List Nat}, ns.Nodup → (ns.flatMap (scL lk tg L)).Nodup
  | [], _ => by simp
  | q :: ns, h => by
    obtain ⟨h1, h2⟩ := List.nodup_cons.mp h
    rw [List.flatMap_cons]
    refine List.nodup_append.mpr ⟨sc_nodup hnd, flat_nodup hnd h2, fun a ha b hb e => ?_⟩
    subst e
    refine el_ea (List.mem_flatMap.mp hb) fun u hu hbu => ?_
    exact h1 (sc_uniq ha hbu ▸ hu)
theorem rdy_nodup (hnd : L.Nodup) : ∀ t, (rdyL lk tg L t).Nodup
  | 0 => ordL_nodup.filter _
  | t + 1 => flat_nodup hnd (rdy_nodup hnd t)
def dnL (lk : Nat → Bool) (tg : Nat → Nat) (L : List Nat) (t : Nat) : List Nat := (List.range t).flatMap (rdyL lk tg L)
theorem mem_dn {t e : Nat} : e ∈ dnL lk tg L t ↔ ∃ s, s < t ∧ e ∈ rdyL lk tg L s := by
  unfold dnL
  simp [List.mem_flatMap]
theorem dn_succ {t : Nat} : dnL lk tg L (t + 1) = dnL lk tg L t ++ rdyL lk tg L t := by
  unfold dnL
  rw [List.range_succ, List.flatMap_append, List.flatMap_singleton]
def npT (lk : Nat → Bool) (tg : Nat → Nat) (L : List Nat) (t : Nat) (i : Nat) : Int := if i ∈ dnL lk tg L t then -2 else if i ∈ rdyL lk tg L t then 0 else npL lk L i
theorem npT_zero : npT lk tg L 0 = npL lk L := by
  funext i
  unfold npT
  rw [if_neg (by simp [dnL])]
  split
  · rename_i h
    have := (List.mem_filter.mp h).2
    exact (by simpa using this : npL lk L i = 0).symm
  · rfl
theorem npT_hyp (hnd : L.Nodup) {t q s : Nat} (hq : q ∈ rdyL lk tg L t) (hs : s ∈ scL lk tg L q) : (fun i => if i ∈ rdyL lk tg L t then -1 else npT lk tg L t i) s = 1 ∧ s ∉ rdyL lk tg L t := by
  refine el_aa (mem_sc.mp hs) fun h1 h2 h3 => ?_
  have ha : At lk tg L (t + 1) s := ⟨⟨h1, h2⟩, h3 ▸ (mem_rdy.mp hq).2⟩
  have n1 : s ∉ rdyL lk tg L t := fun z => by have := At.uniq ha (mem_rdy.mp z).2; walk_at "om"
  have n2 : s ∉ dnL lk tg L t := fun z => by
    refine el_ea (mem_dn.mp z) fun u hu hs2 => ?_
    have := At.uniq ha (mem_rdy.mp hs2).2; walk_at "om"
  refine ⟨?_, n1⟩
  dsimp only
  rw [if_neg n1]
  unfold npT
  rw [if_neg n2, if_neg n1]
  unfold npL
  rw [if_pos ⟨h1, h2⟩]
theorem npT_done (hnd : L.Nodup) (t : Nat) : doneA (scL lk tg L) (fun i => if i ∈ rdyL lk tg L t then -1 else npT lk tg L t i, []) (rdyL lk tg L t) = (npT lk tg L (t + 1), rdyL lk tg L (t + 1)) := by
  rw [done_fold (rdy_nodup hnd t) (fun _ _ => sc_nodup hnd) (fun q hq s hs => npT_hyp hnd hq hs) fun _ _ _ _ _ h h' => sc_uniq h h']
  refine Prod.ext ?_ rfl
  funext i
  dsimp only
  by_cases c1 : i ∈ rdyL lk tg L t
  · rw [if_pos c1]
    unfold npT
    rw [if_pos (by rw [dn_succ]; exact List.mem_append_right _ c1)]
  · rw [if_neg c1]
    have e1 : (i ∈ dnL lk tg L (t + 1)) = (i ∈ dnL lk tg L t) := by rw [dn_succ]; simp [c1]
    by_cases c2 : i ∈ (rdyL lk tg L t).flatMap (scL lk tg L)
    · rw [if_pos c2]
      unfold npT
      have : i ∈ rdyL lk tg L (t + 1) := c2
      rw [if_pos this]
      rw [if_neg]
      rw [e1]
      intro z
      refine el_ea (mem_dn.mp z) fun u hu hs2 => ?_
      have := At.uniq (mem_rdy.mp this).2 (mem_rdy.mp hs2).2; walk_at "om"
    · rw [if_neg c2]
      have c3 : i ∉ rdyL lk tg L (t + 1) := c2
      rw [if_neg c1]
      unfold npT
      rw [if_neg c1, if_neg c3]
      simp only [e1]
theorem npT_st (hnd : L.Nodup) {t j i : Nat} (h : (rdyL lk tg L t)[j]? = some i) : (doneA (scL lk tg L) (fun i => if i ∈ rdyL lk tg L t then -1 else npT lk tg L t i, []) ((rdyL lk tg L t).take j)).1 i = -1 := by
  have hn := rdy_nodup (lk := lk) (tg := tg) hnd t
  have tk : ∀ {x}, x ∈ (rdyL lk tg L t).take j → x ∈ rdyL lk tg L t := fun h => List.mem_of_mem_take h
  rw [done_fold (hn.sublist (List.take_sublist _ _)) (fun _ _ => sc_nodup hnd) (fun q hq s hs => ⟨(npT_hyp hnd (tk hq) hs).1, fun z => (npT_hyp hnd (tk hq) hs).2 (tk z)⟩) fun _ _ _ _ _ h h' => sc_uniq h h']
  dsimp only
  have hi := List.mem_of_getElem? h
  rw [if_neg, if_neg, if_pos hi]
  · intro z
    refine el_ea (List.mem_flatMap.mp z) fun u hu hs => ?_
    exact (npT_hyp hnd (tk hu) hs).2 hi
  · intro z
    obtain ⟨i', hi', e⟩ := List.mem_take_iff_getElem.mp z
    have hjl := (List.getElem?_eq_some_iff.mp h).1
    have e2 := (List.getElem?_eq_some_iff.mp h).2
    have := (List.getElem_inj (h₀ := by walk_at "om") (h₁ := hjl) hn).mp (e.trans e2.symm)
    walk_at "om"
end
end
noncomputable section
variable {w : World} {H : Heap} {O : OsState} {g g0 : GH}
theorem itr_succ {tg : Nat → Nat} : ∀ (t e : Nat), itr tg (t + 1) e = itr tg t (tg e)
  | 0, e => rfl
  | t + 1, e => by
    show tg (itr tg (t + 1) e) = tg (itr tg t (tg e))
    rw [itr_succ t e]
def EndC (md tg : Nat → Nat) (L : List Nat) (g : GH) (e : Nat) (v : Value) : Prop := ∃ t, At (lkOf md) tg L t e ∧ ((itr tg t e ∉ L ∧ v = .none) ∨ (itr tg t e ∈ L ∧ ∃ T t1 t2, v = .ref T ∧ IsT g T [.int (md (itr tg t e) / 4096 * 4096 : Nat) t1, .int (md (itr tg t e) % 4096 : Nat) t2]))
theorem EndC.keep {md tg : Nat → Nat} {L : List Nat} {g g' : GH} {ra : Addr} {e : Nat} {v : Value} {o : Obj} (h : EndC md tg L g e v) (k : Keep ra g g') (hr : g ra = some o) (hc : o.cls ≠ .type "tuple") : EndC md tg L g' e v := by
  refine el_ea h fun t h1 h3 => ?_; clear h
  exact ⟨t, h1, h3.imp id fun z1 => by obtain ⟨q, T, t1, t2, e1, e2⟩ := z1; exact ⟨q, T, t1, t2, e1, e2.keep k hr hc⟩⟩
theorem EndC.sub {md tg : Nat → Nat} {L : List Nat} {g g' : GH} {e : Nat} {v : Value} (h : EndC md tg L g e v) (s : Sub g g') : EndC md tg L g' e v := by
  refine el_ea h fun t h1 h3 => ?_; clear h
  exact ⟨t, h1, h3.imp id fun z2 => by obtain ⟨q, T, t1, t2, e1, e2⟩ := z2; exact ⟨q, T, t1, t2, e1, e2.sub s⟩⟩
theorem EndC.link {md tg : Nat → Nat} {L : List Nat} {g : GH} {e : Nat} {v : Value} (h : EndC md tg L g (tg e) v) (h1 : e ∈ L) (h2 : lkOf md e = true) : EndC md tg L g e v := by
  refine el_ea h fun t h3 h4 => ?_; clear h
  refine ⟨t + 1, ⟨⟨h1, h2⟩, h3⟩, ?_⟩
  rw [itr_succ]
  exact h4
structure CO2 (w : World) (nm : Nat → Str) (md tg : Nat → Nat) (L : List Nat) (gB : GH) (ra ea : Addr) (t : Nat) (D : List Nat) (own : GH) : Prop where
  sub : Sub gB own
  rds : ∃ vr, IsL own ra vr ∧ vr.length = t ∧ RdsAt nm own vr (rdyL (lkOf md) tg L)
  ends : ∃ val : Nat → Value, IsD w own ea (D.map fun e => (nm e, val e)) ∧ ∀ e ∈ D, EndC md tg L own e (val e)
section
variable {nm : Nat → Str} {md tg : Nat → Nat} {L : List Nat} {gB own own' : GH} {ra ea : Addr} {t : Nat} {D : List Nat}
theorem CO2.mono (C : CO2 w nm md tg L gB ra ea t D own) (s : Sub own own') : CO2 w nm md tg L gB ra ea t D own' :=
  ⟨sub_trans C.sub s, by obtain ⟨vr, h1, h2, h3⟩ := C.rds; exact ⟨vr, h1.sub s, h2, h3.sub s⟩, by obtain ⟨val, ⟨o, e, h1⟩, h2⟩ := C.ends; exact ⟨val, ⟨o, s _ _ e, h1⟩, fun e he => (h2 e he).sub s⟩⟩
theorem CO2.putEnd {p : Nat} {v : Value} {o6 : Obj} {val : Nat → Value} (inj : ∀ i j, nm i = nm j → i = j) (C : CO2 w nm md tg L gB ra ea t D own) (hea : gB ea = none) (hp : p ∉ D) (hD : IsD w own ea (D.map fun e => (nm e, val e))) (hv : ∀ e ∈ D, EndC md tg L own e (val e)) (he : EndC md tg L own p v) (ho6 : o6.IsDictOf (strKind P0 w) (stored (D.map fun e => (nm e, val e)) (nm p) v)) : CO2 w nm md tg L gB ra ea t (D ++ [p]) (gset own ea o6) := by
  refine el_ea (id hD) fun od ed hd => ?_
  have hcd : od.cls = .type "dict" := by
    refine el_ea hD.cls fun o' e' c' => ?_
    rw [ed] at e'; cases e'; exact c'
  have kk : Keep ea own (gset own ea o6) := Keep.refl.put
  have hct : od.cls ≠ .type "tuple" := by rw [hcd]; show Value.type _ ≠ Value.type _; decide
  refine el_eaa C.rds fun vr yy1 h2 h3 => ?_
  obtain ⟨n', h1⟩ := yy1
  have hne : ra ≠ ea := ne_cls h1 ed (by rw [hcd]; show Value.type _ ≠ Value.type _; decide)
  refine ⟨C.sub.put hea, ⟨vr, ⟨n', (gset_ne hne).trans h1⟩, h2, fun t u hu => ?_⟩, put val p v, ⟨o6, gset_self, ?_⟩, fun e he' => ?_⟩
  · refine el_eeaa (h3 t u hu) fun T us e1 e2 e3 => ?_
    exact ⟨T, us, e1, e2.keep kk ed hct, e3⟩
  · rw [stored_map inj val hp] at ho6; exact ho6
  · by_cases q : e = p
    · subst q; rw [put_self]; exact he.keep kk ed hct
    · rw [put_ne q]
      rcases List.mem_append.mp he' with z | z
      · exact (hv e z).keep kk ed hct
      · exact absurd (List.mem_singleton.mp z) q
theorem CO2.putRd {v : Value} {vr : List Value} {e9 : Nat} (C : CO2 w nm md tg L gB ra ea t D own) (hra : gB ra = none) (h1 : IsL own ra vr) (h2 : vr.length = t) (h3 : RdsAt nm own vr (rdyL (lkOf md) tg L)) (hv : TupAt nm own v (rdyL (lkOf md) tg L t)) : CO2 w nm md tg L gB ra ea (t + 1) D (gset own ra (lst (vr ++ [v]) e9)) := by
  have kk : Keep ra own (gset own ra (lst (vr ++ [v]) e9)) := Keep.refl.put
  obtain ⟨n', e1⟩ := id h1
  refine el_ea C.ends fun val yy2 h5 => ?_
  obtain ⟨od, ed, hd⟩ := yy2
  have hcd : od.cls = .type "dict" := by
    refine el_ea (IsD.cls ⟨od, ed, hd⟩) fun o' e' c' => ?_
    rw [ed] at e'; cases e'; exact c'
  have hne : ea ≠ ra := ne_cls ed e1 (by rw [hcd]; show Value.type _ ≠ Value.type _; decide)
  refine ⟨C.sub.put hra, ⟨vr ++ [v], ⟨e9, gset_self⟩, by simp [h2], ?_⟩, val, ⟨od, (gset_ne hne).trans ed, hd⟩, fun e he => (h5 e he).keep kk e1 (by show Value.type _ ≠ Value.type _; decide)⟩
  exact RdsAt.snoc (h3.keep kk h1) (by rw [h2]; exact hv.keep kk h1)
end
end
noncomputable section
variable {w : World} {H : Heap} {O : OsState} {g g0 : GH}
structure MdOk (md : Nat → Nat) (L : List Nat) : Prop where
  fmt : ∀ p ∈ L, Builtin.bitAnd (md p : Nat) 61440 = (md p / 4096 * 4096 : Nat)
  imode : ∀ p ∈ L, Builtin.bitAnd (md p : Nat) 4095 = (md p % 4096 : Nat)
section
variable {L0 da gr ra ea tp : Addr} {k t : Nat} {nm : Nat → Str} {md tg : Nat → Nat} {L : List Nat} {gB : GH} {m : LM} {gl : Nat → Addr} {a : SA} {ord : List Nat} {np : Nat → Int} {sc : Nat → List Nat} {po nf : Int}
structure CF (L0 da gr ea : Addr) (m : LM) : Prop where
  md : m (sN "modes") = some (.ref da)
  gr : m (sN "graph") = some (.ref gr)
  en : m (sN "ends") = some (.ref ea)
def NamJ (w : World) (nm : Nat → Str) (md tg : Nat → Nat) (L : List Nat) (gB : GH) (ra ea : Addr) (t : Nat) (a : SA) (ord : List Nat) (np : Nat → Int) (sc : Nat → List Nat) (po nf : Int) (tp : Addr) (vs : List Value) (D : List Nat) (g' : GH) : Prop := ∃ own, Spl w nm a ord np sc [] po nf own g' ∧ CO2 w nm md tg L gB ra ea t D own ∧ own tp = some (tup vs 0)
theorem NamJ.set {vs : List Value} {D : List Nat} {p : Nat} {v : Value} {tn : Tok} {Q : Unit → GH → LM → Prop} {own own' : GH} {k' : Nat} {env : Env} (inj : ∀ i j, nm i = nm j → i = j) (hea : gB ea = none) (hp : p ∉ D) (hDl : D.length ≤ 100) (Sp : Spl w nm a ord np sc [] po nf own' g) (C : CO2 w nm md tg L gB ra ea t D own) (s : Sub own own') (ht : own tp = some (tup vs 0)) (he : EndC md tg L own' p v)
    (h : ∀ g2, NamJ w nm md tg L gB ra ea t a ord np sc po nf tp vs (D ++ [p]) g2 → Q () g2 m) : tri w H O k' none noX env (setItem (.ref ea) (.str (nm p) tn) v) g m Q := by
  have C' := C.mono s
  refine el_ea C'.ends fun val hD hv => ?_
  refine el_ea (id hD) fun od ed hd => ?_
  refine t_dset ⟨od, Sp.sub _ _ ed, hd⟩ (by rw [List.length_map]; walk_at "om") fun o6 ho6 => h _ ⟨gset own' ea o6, Sp.put ed, C'.putEnd inj hea hp hD hv he ho6, ?_⟩
  have hcd : od.cls = .type "dict" := by
    refine el_ea (IsD.cls ⟨od, ed, hd⟩) fun o' e' c' => ?_
    rw [ed] at e'; cases e'; exact c'
  exact (gset_ne (ne_cls (s _ _ ht) ed (by rw [hcd]; show Value.type _ ≠ Value.type _; decide))).trans (s _ _ ht)
set_option maxHeartbeats 1000000 in
theorem ch_ends (T : Tp (KK w.params) H) {vs : List Value} (inj : ∀ i j, nm i = nm j → i = j) (hnd : L.Nodup) (hLl : L.length ≤ 10) (hmd : MdOk md L) (hM : MDict w nm md gB da L) (hG : GraphAt w nm (lkOf md) tg gB gr L gl) (hea : gB ea = none) (hdl : ∀ j, (dnL (lkOf md) tg L t ++ (rdyL (lkOf md) tg L t).take j).length ≤ 100) (F : CF L0 da gr ea m) (mr : m (sN "ready") = some (.ref tp)) (hvs : SVs nm (rdyL (lkOf md) tg L t) vs)
    (hJ : NamJ w nm md tg L gB ra ea (t + 1) a ord np sc po nf tp vs (dnL (lkOf md) tg L t) g) :
    tri w H O (k + 2) none noX (chEnv L0) (exec (stAt (forB (stAt (fBody (sAt 36)) 8)) 2) (chEnv L0)) g m fun f g2 m2 => f = .next ∧ Agr [sN "name"] m m2 ∧ NamJ w nm md tg L gB ra ea (t + 1) a ord np sc po nf tp vs (dnL (lkOf md) tg L (t + 1)) g2 := by
  refine tri_hide fun Q1 hQ1 => ?_
  have hvl := hvs.len
  have src : ∀ {D g'}, NamJ w nm md tg L gB ra ea (t + 1) a ord np sc po nf tp vs D g' → IsT' H g' tp vs := fun z1 => by obtain ⟨own, Sp, C, ht⟩ := z1; exact .inl ⟨_, 0, Sp.sub _ _ ht, rfl, rfl⟩
  refine t_for (fun _ => by kernel_rfl) ?_
  repeat walk_at "st"
  refine t_forP (n := vs.length) (P := fun j u => vs[j]? = some u) (Src := fun g => IsT' H g tp vs) (fun j g' m' => Agr [sN "name"] m m' ∧ NamJ w nm md tg L gB ra ea (t + 1) a ord np sc po nf tp vs (dnL (lkOf md) tg L t ++ (rdyL (lkOf md) tg L t).take j) g') (Starts.tuple (src hJ)) (fun _ _ _ h => src h.2) ⟨Agr.refl, by simpa using hJ⟩ (fun j u g' m' hj hu p3 => ?_) fun g' m' ⟨h1, h2⟩ => t_nil (hQ1 _ _ _ ⟨rfl, h1, ?_⟩)
  · first | refine tri_hide fun Q2 hQ2 => ?_ | skip
    obtain ⟨h1, h2⟩ := p3
    obtain ⟨p, hp, tq, rfl⟩ := hvs.get hu
    have hpr := List.mem_of_getElem? hp
    obtain ⟨hpo, hpa⟩ := mem_rdy.mp hpr
    have etk : (rdyL (lkOf md) tg L t).take (j + 1) = (rdyL (lkOf md) tg L t).take j ++ [p] := by rw [List.take_add_one, hp]; rfl
    have hpD : p ∉ dnL (lkOf md) tg L t ++ (rdyL (lkOf md) tg L t).take j := fun z => by
      rcases List.mem_append.mp z with z | z
      · refine el_ea (mem_dn.mp z) fun s hs h => ?_
        have := At.uniq hpa (mem_rdy.mp h).2; walk_at "om"
      · obtain ⟨i, hi, e⟩ := List.mem_take_iff_getElem.mp z
        have hjl := (List.getElem?_eq_some_iff.mp hp).1
        have e2 := (List.getElem?_eq_some_iff.mp hp).2
        have := (List.getElem_inj (h₀ := by walk_at "om") (h₁ := hjl) (rdy_nodup hnd t)).mp (e.trans e2.symm)
        walk_at "om"
    refine el_eaa h2 fun own Sp C ht => ?_; clear h2
    have sB : Sub gB g' := sub_trans C.sub Sp.sub
    obtain ⟨tk, hMd⟩ := hM.sub sB
    have f1 : m' (sN "modes") = some (.ref da) := (h1 _ (by decide +kernel)).trans F.md
    have f2 : m' (sN "graph") = some (.ref gr) := (h1 _ (by decide +kernel)).trans F.gr
    have f3 : m' (sN "ends") = some (.ref ea) := (h1 _ (by decide +kernel)).trans F.en
    have hA : Agr [sN "name"] m (mset m' (sN "name") (.str (nm p) tq)) := h1.set (by decide +kernel)
    rw [etk, ← List.append_assoc] at hQ2
    refine t_asgN ?_
    repeat walk_at "st"
    refine hQ2 _ _ _ ?_
    refine tri_hide fun Q20 hQ20 => ?_
    repeat walk_at "st"
    refine t_dnotin T hMd ?_
    repeat walk_at "st"
    rw [vat_map (α := Unit) inj (fun p => Value.int (md p : Nat) (tk p))]
    by_cases hpL : p ∈ L
    · simp only [hpL, if_true, Option.isSome_some, Bool.not_true, Bool.false_eq_true, if_false]
      refine t_cons ?_
      repeat walk_at "st"
      refine t_test rfl ?_
      repeat walk_at "st"
      refine t_dget hMd (by rw [vat_map (α := Unit) inj (fun p => Value.int (md p : Nat) (tk p)), if_pos hpL]) ?_ (by kernel_rfl)
      repeat walk_at "st"
      refine tri_call (f_S_ISLNK (k := k) T) fun y g2 p4 => ?_
      obtain ⟨e1, e2⟩ := p4
      subst e1 e2
      repeat walk_at "st"
      rw [hmd.fmt p hpL]
      have hb : (((md p / 4096 * 4096 : Nat) : Int) == 40960) = lkOf md p := by
        unfold lkOf
        rw [Bool.eq_iff_iff]; simp only [beq_iff_eq]; walk_at "om"
      rw [hb]
      cases hk : lkOf md p
      · first | with_reducible refine ite_f ?_ | simp only [Bool.false_eq_true, if_false]
        have ht0 : t = 0 := by
          cases t with
          | zero => rfl
          | succ t => have := hpa.1.2; rw [hk] at this; cases this
        refine t_cons ?_
        refine t_stS (by kernel_rfl) (by kernel_rfl) ?_
        repeat walk_at "st"
        refine t_tuple ?_
        repeat walk_at "st"
        have hget : valueAt (L.map fun p => (nm p, Value.int (md p : Nat) (tk p))) (nm p) = some (.int (md p : Nat) (tk p)) := by rw [vat_map (α := Unit) inj (fun p => Value.int (md p : Nat) (tk p)), if_pos hpL]
        refine t_dget hMd hget ?_ (by kernel_rfl)
        repeat walk_at "st"
        refine tri_call (f_S_IFMT (k := k + 1) T) fun y g3 p5 => ?_
        refine el_ae p5 fun e1 t8 e2 => ?_; clear p5
        subst e1 e2
        rw [hmd.fmt p hpL]
        repeat walk_at "st"
        refine t_dget hMd hget ?_ (by kernel_rfl)
        repeat walk_at "st"
        refine tri_call (f_S_IMODE (k := k + 1) T) fun y g3 p6 => ?_
        refine el_ae p6 fun e1 t9 e2 => ?_; clear p6
        subst e1 e2
        rw [hmd.imode p hpL]
        repeat walk_at "st"
        refine ⟨by simp, fun E hE => ?_⟩
        repeat walk_at "st"
        refine NamJ.set inj hea hpD (hdl j) (Sp.new hE) C (sub_new (Sp.none hE)) ht ⟨t, hpa, .inr ?_⟩ fun g2 hg2 => t_nil (t_nil (t_nil (hQ20 _ _ _ ⟨hA, hg2⟩)))
        subst ht0
        exact ⟨hpL, E, t8, t9, rfl, _, 0, gset_self, rfl, rfl⟩
      · first | with_reducible refine ite_t ?_ | simp only [if_true]
        obtain ⟨s, rfl⟩ : ∃ s, t = s + 1 := by
          cases t with
          | zero => exact absurd ⟨hpL, hk⟩ hpa
          | succ t => exact ⟨t, rfl⟩
        have htd : tg p ∈ dnL (lkOf md) tg L (s + 1) := mem_dn.mpr ⟨s, Nat.lt_succ_self _, mem_rdy.mpr ⟨ordL_mem.mpr (.inr ⟨p, hpL, hk, rfl⟩), hpa.2⟩⟩
        refine el_ea C.ends fun val hD hv => ?_
        have hGg := hG.sub sB
        refine t_cons ?_
        refine t_stS (by kernel_rfl) (by kernel_rfl) ?_
        repeat walk_at "st"
        refine t_dget hGg.di (by rw [vat_map (α := Unit) inj (fun p => Value.ref (gl p)), if_pos hpL]) ?_ (by kernel_rfl)
        repeat walk_at "st"
        refine el_ea (hGg.ls p hpL) fun us hus hsu => ?_
        have egp : gp (lkOf md) tg p = [tg p] := by unfold gp; rw [if_pos hk]
        rw [egp] at hsu
        refine el_eeaa hsu.tail fun v0 us' yy2 yy3 _ => ?_
        obtain rfl := yy2
        obtain ⟨t0, rfl⟩ := yy3
        refine t_idxL hus (by walk_at "om") (by walk_at "om") (v := .str (nm (tg p)) t0) rfl ?_ (by kernel_rfl)
        repeat walk_at "st"
        have hDg : IsD w _ ea ((dnL (lkOf md) tg L (s + 1) ++ (rdyL (lkOf md) tg L (s + 1)).take j).map fun e => (nm e, val e)) := let ⟨o, e, h⟩ := hD; ⟨o, Sp.sub _ _ e, h⟩
        refine t_dget hDg (by rw [vat_map (α := Unit) inj val, if_pos (List.mem_append_left _ htd)]) ?_ (by kernel_rfl)
        repeat walk_at "st"
        refine NamJ.set inj hea hpD (hdl j) Sp C sub_refl ht ((hv _ (List.mem_append_left _ htd)).link hpL hk) fun g2 hg2 => t_nil (t_nil (t_nil (hQ20 _ _ _ ⟨hA, hg2⟩)))
    · simp only [hpL, if_false, Option.isSome_none, Bool.not_false, if_true]
      refine t_cons ?_
      refine t_stS (by kernel_rfl) (by kernel_rfl) ?_
      repeat walk_at "st"
      refine NamJ.set inj hea hpD (hdl j) Sp C sub_refl ht ⟨t, hpa, .inl ⟨?_, rfl⟩⟩ fun g2 hg2 => t_nil (t_nil (hQ20 _ _ _ ⟨hA, hg2⟩))
      cases t with
      | zero => exact hpL
      | succ t => exact absurd hpa.1.1 hpL
  · rw [dn_succ]
    rw [show (rdyL (lkOf md) tg L t).take vs.length = rdyL (lkOf md) tg L t by rw [hvl]; simp] at h2
    exact h2
end
end
noncomputable section
variable {w : World} {H : Heap} {O : OsState} {g g0 : GH}
theorem uni_single {b : Addr} {o : Obj} {f : GH} (h : f b = none) : uni (single b o) f = gset f b o := by
  funext c
  unfold uni single gset
  by_cases q : c = b
  · simp [q]
  · simp [q]
section
variable {L0 da gr ra ea tp : Addr} {k t : Nat} {nm : Nat → Str} {md tg : Nat → Nat} {L l D : List Nat} {gB own : GH} {m : LM} {gl : Nat → Addr} {a : SA} {ord : List Nat} {np : Nat → Int} {sc : Nat → List Nat} {po nf : Int}
theorem ch_ready (T : Tp (KK w.params) H) (inj : ∀ i j, nm i = nm j → i = j) (hl : ∀ i ∈ l, i ∈ ord) (hn : l.length ≤ 1000) (Sp : Spl w nm a ord np sc l po nf own g) (C : CO2 w nm md tg L gB ra ea t D own) (m1 : m (sN "sorter") = some (.ref a.x)) :
    tri w H O (k + 1) none noX (chEnv L0) (exec (stAt (forB (stAt (fBody (sAt 36)) 8)) 0) (chEnv L0)) g m fun f g2 m2 => f = .next ∧ ∃ tp vs own2, m2 = mset m (sN "ready") (.ref tp) ∧ Spl w nm a ord (fun j => if j ∈ l then -1 else np j) sc [] (po + l.length) nf own2 g2 ∧ CO2 w nm md tg L gB ra ea t D own2 ∧ own2 tp = some (tup vs 0) ∧ SVs nm l vs := by
  refine tri_hide fun Q1 hQ1 => ?_
  have S := Sp.sh
  refine el_eaa Sp fun gS yy1 d S0 => ?_; clear Sp
  obtain rfl := yy1
  refine t_assignN (by kernel_rfl) ?_
  repeat walk_at "st"
  refine s_meth (f := 99) T S (by kernel_rfl) (by kernel_rfl) (by kernel_rfl) (fun _ _ _ _ _ => rfl) rfl ?_
  repeat walk_at "st"
  refine tri_call (fnS_monoX (fnS_frame (f_ready (k := k) T inj S0 hl hn) d) (fun _ _ q => q) fun _ _ z1 => by obtain ⟨_, _, _, q⟩ := z1; exact q) fun r g2 p2 => ?_
  obtain ⟨g₀, eg2, hD2, g₇, tp, vs, e1, e2, d2, hv, S7⟩ := p2
  subst e1 e2 eg2
  have h1 : single tp (tup vs 0) tp = some (tup vs 0) := if_pos rfl
  have h2 : own tp = none := (hD2 tp).resolve_left (by rw [uni_r d2 h1]; exact fun z => nomatch z)
  have h3 : g₇ tp = none := (d2 tp).resolve_right (by rw [h1]; exact fun z => nomatch z)
  repeat walk_at "st"
  refine (hQ1 _ _ _ ⟨rfl, tp, vs, gset own tp (tup vs 0), rfl, ⟨g₇, ?_, ?_, S7⟩, C.mono (sub_new h2), gset_self, hv⟩)
  · rw [uni_assoc, uni_single h2]
  · have : Disj g₇ own := fun b => by
      rcases hD2 b with z | z
      · exact .inl (uni_none.mp z).1
      · exact .inr z
    exact (this.symm.set h3).symm
theorem ch_append (T : Tp (KK w.params) H) {vs : List Value} (hra : gB ra = none) (htl : t ≤ 1000) (Sp : Spl w nm a ord np sc [] po nf own g) (C : CO2 w nm md tg L gB ra ea t D own) (ht : own tp = some (tup vs 0)) (hv : SVs nm (rdyL (lkOf md) tg L t) vs) (m1 : m (sN "rounds") = some (.ref ra)) (m2 : m (sN "ready") = some (.ref tp)) :
    tri w H O (k + 1) none noX (chEnv L0) (exec (stAt (forB (stAt (fBody (sAt 36)) 8)) 1) (chEnv L0)) g m fun f g2 m2 => f = .next ∧ m2 = m ∧ NamJ w nm md tg L gB ra ea (t + 1) a ord np sc po nf tp vs D g2 := by
  refine tri_hide fun Q1 hQ1 => ?_
  refine el_eaa C.rds fun vr yy2 h2 h3 => ?_
  obtain ⟨n', h1⟩ := yy2
  have hr : IsL g ra vr := ⟨n', Sp.sub _ _ h1⟩
  refine t_ex ?_ (by kernel_rfl) (by kernel_rfl)
  repeat walk_at "st"
  refine t_append hr ?_
  repeat walk_at "st"
  refine t_app hr (by walk_at "om") fun e9 => (hQ1 _ _ _ ⟨rfl, rfl, gset own ra (lst (vr ++ [.ref tp]) e9), Sp.put h1, C.putRd hra ⟨n', h1⟩ h2 h3 ⟨tp, vs, rfl, ⟨_, 0, ht, rfl, rfl⟩, hv⟩, ?_⟩)
  exact (gset_ne (ne_cls ht h1 (by show Value.type _ ≠ Value.type _; decide))).trans ht
theorem ch_done (T : Tp (KK w.params) H) {vs : List Value} {ns : List Nat} (inj : ∀ i j, nm i = nm j → i = j) (hu : SVs nm ns vs) (hno : ∀ i ∈ ns, i ∈ ord ∧ ∀ s ∈ sc i, s ∈ ord) (hst : ∀ j i, ns[j]? = some i → (doneA sc (np, []) (ns.take j)).1 i = -1) (hsc : ∀ i, (sc i).length ≤ 12) (hns : ns.length ≤ 12) (hJ : NamJ w nm md tg L gB ra ea t a ord np sc po nf tp vs D g) (m1 : m (sN "sorter") = some (.ref a.x)) (m2 : m (sN "ready") = some (.ref tp)) :
    tri w H O (k + 1) none noX (chEnv L0) (exec (stAt (forB (stAt (fBody (sAt 36)) 8)) 3) (chEnv L0)) g m fun f g2 m2 => f = .next ∧ m2 = m ∧ ∃ own, Spl w nm a ord (doneA sc (np, []) ns).1 sc (doneA sc (np, []) ns).2 po (nf + ns.length) own g2 ∧ CO2 w nm md tg L gB ra ea t D own := by
  refine tri_hide fun Q1 hQ1 => ?_
  refine el_eaa hJ fun own Sp C ht => ?_; clear hJ
  have hul := hu.len
  have S := Sp.sh
  obtain ⟨ti, n, tpo, tnf, I⟩ := S.inst
  refine t_ex ?_ (by kernel_rfl) (by kernel_rfl)
  refine t_mstar (by kernel_rfl) (by kernel_rfl) ?_
  repeat walk_at "st"
  refine t_bound (f := 120) T I (by kernel_rfl) (by kernel_rfl) (by kernel_rfl) (by kernel_rfl) (by kernel_rfl) (by kernel_rfl) (by decide +kernel) rfl fun q hq => ?_
  refine t_cwS1 (fn := 120) (self := .ref a.x) T (by kernel_rfl) rfl ?_
  repeat walk_at "st"
  have Sp1 := Sp.new (o := methodObj (.ref 120) (.ref a.x)) hq
  have ho : own q = none := Sp.none hq
  have htq : tp ≠ q := fun z => by rw [← z, ht] at ho; cases ho
  refine ⟨tp, vs, rfl, .inr (.inl ⟨_, 0, (gset_ne htq).trans (Sp.sub _ _ ht), rfl, rfl⟩), by walk_at "om", gset_self, ?_⟩
  refine el_eaa Sp1 fun gS e1 d S0 => ?_; clear Sp1
  rw [e1]
  refine tri_call (fnS_bound (fv := .ref 120) (self := .ref a.x) (uni_r d gset_self) (fnS_monoX (fnS_frame (f_done (k := k) T inj S0 hu hno hst hsc hns (by simp)) d) (fun _ _ q => q) fun _ _ z2 => by obtain ⟨_, _, _, q⟩ := z2; exact q)) fun r g2 p2 => ?_
  obtain ⟨g₀, eg2, hD2, er, g₃, f, e3, d3, S3⟩ := p2
  subst e3 eg2
  have d4 : Disj g₃ (uni f (gset own q (methodObj (.ref 120) (.ref a.x)))) := fun b => by
    cases z : g₃ b with
    | none => exact .inl rfl
    | some o =>
      refine .inr (uni_none.mpr ⟨(d3 b).resolve_left (by rw [z]; exact fun z => nomatch z), (hD2 b).resolve_left fun y => ?_⟩)
      rw [uni_l z] at y; cases y
  have d5 : Disj f (gset own q (methodObj (.ref 120) (.ref a.x))) := fun b => by
    rcases hD2 b with z | z
    · exact .inl (uni_none.mp z).2
    · exact .inr z
  refine (hQ1 _ _ _ ⟨rfl, rfl, uni f (gset own q (methodObj (.ref 120) (.ref a.x))), ⟨g₃, uni_assoc, d4, S3⟩, C.mono (sub_trans (sub_new ho) fun b o e => uni_r d5 e)⟩)
end
end
noncomputable section
variable {w : World} {H : Heap} {O : OsState} {g g0 : GH}
section
variable {lk : Nat → Bool} {tg : Nat → Nat} {L : List Nat} {n : Nat}
theorem ord_le (hL : ∀ p ∈ L, p < n) (htg : ∀ p ∈ L, tg p ≤ n) : ∀ e ∈ ordL lk tg L, e ≤ n := fun e he => by
  rcases ordL_mem.mp he with z | ⟨l, h1, h2, h3⟩
  · exact Nat.le_of_lt (hL e z)
  · exact h3 ▸ htg l h1
theorem sub_len {l : List Nat} (hL : ∀ p ∈ L, p < n) (htg : ∀ p ∈ L, tg p ≤ n) (hn : l.Nodup) (h : ∀ e ∈ l, e ∈ ordL lk tg L) : l.length ≤ n + 1 := by
  have := nodup_le (l' := List.range (n + 1)) hn fun e he => List.mem_range.mpr (by have := ord_le hL htg e (h e he); walk_at "om")
  simpa using this
theorem dn_nodup (hnd : L.Nodup) : ∀ t, (dnL lk tg L t).Nodup
  | 0 => by simp [dnL]
  | t + 1 => by
    rw [dn_succ]
    refine List.nodup_append.mpr ⟨dn_nodup hnd t, rdy_nodup hnd t, fun a ha b hb e => ?_⟩
    subst e
    refine el_ea (mem_dn.mp ha) fun s hs h => ?_
    have := At.uniq (mem_rdy.mp h).2 (mem_rdy.mp hb).2; walk_at "om"
theorem dn_ord {t e : Nat} (h : e ∈ dnL lk tg L t) : e ∈ ordL lk tg L := by
  refine el_ea (mem_dn.mp h) fun s _ h => ?_
  exact (mem_rdy.mp h).1
theorem dn_len (hnd : L.Nodup) (hL : ∀ p ∈ L, p < n) (htg : ∀ p ∈ L, tg p ≤ n) (t : Nat) : (dnL lk tg L t).length ≤ n + 1 := sub_len hL htg (dn_nodup hnd t) fun _ h => dn_ord h
theorem rdy_len (hnd : L.Nodup) (hL : ∀ p ∈ L, p < n) (htg : ∀ p ∈ L, tg p ≤ n) (t : Nat) : (rdyL lk tg L t).length ≤ n + 1 := sub_len hL htg (rdy_nodup hnd t) fun _ h => (mem_rdy.mp h).1
theorem dnt_len (hnd : L.Nodup) (hL : ∀ p ∈ L, p < n) (htg : ∀ p ∈ L, tg p ≤ n) (t j : Nat) : (dnL lk tg L t ++ (rdyL lk tg L t).take j).length ≤ n + 1 := by
  have := dn_len (lk := lk) hnd hL htg (t + 1)
  rw [dn_succ] at this
  simp only [List.length_append, List.length_take] at this ⊢
  walk_at "om"
theorem sc_ord {q s : Nat} (h : s ∈ scL lk tg L q) : s ∈ ordL lk tg L := ordL_mem.mpr (.inl (mem_sc.mp h).1)
end
section
variable {L0 da gr ra ea tp rl : Addr} {k n : Nat} {nm : Nat → Str} {md tg : Nat → Nat} {L : List Nat} {gB own : GH} {m : LM} {gl : Nat → Addr} {a : SA}
def LoopJ (w : World) (nm : Nat → Str) (md tg : Nat → Nat) (L : List Nat) (gB : GH) (ra ea : Addr) (a : SA) (t : Nat) (g' : GH) : Prop := ∃ own po, Spl w nm a (ordL (lkOf md) tg L) (npT (lkOf md) tg L t) (scL (lkOf md) tg L) (rdyL (lkOf md) tg L t) po po own g' ∧ CO2 w nm md tg L gB ra ea t (dnL (lkOf md) tg L t) own
theorem ch_loop (T : Tp (KK w.params) H) {vs : List Value} (inj : ∀ i j, nm i = nm j → i = j) (hn : n ≤ 10) (hnd : L.Nodup) (hLl : L.length = n) (hL : ∀ p ∈ L, p < n) (htg : ∀ p ∈ L, tg p ≤ n) (hmd : MdOk md L) (hM : MDict w nm md gB da L) (hG : GraphAt w nm (lkOf md) tg gB gr L gl) (hra : gB ra = none) (hea : gB ea = none) (F : CF L0 da gr ea m)
    (hrl : IsL gB rl vs) (hvl : vs.length = n) (m0 : m (sN "rows") = some (.ref rl)) (m1 : m (sN "sorter") = some (.ref a.x)) (m2 : m (sN "rounds") = some (.ref ra)) (hJ : LoopJ w nm md tg L gB ra ea a 0 g) :
    tri w H O (k + 2) none noX (chEnv L0) (exec (stAt (fBody (sAt 36)) 8) (chEnv L0)) g m fun f g2 m2 => f = .next ∧ Agr [sN "turn", sN "ready", sN "name"] m m2 ∧ LoopJ w nm md tg L gB ra ea a (n + 2) g2 := by
  refine tri_hide fun Q1 hQ1 => ?_
  have hrl' : IsL g rl vs := by obtain ⟨own, po, Sp, C⟩ := hJ; exact hrl.sub (sub_trans C.sub Sp.sub)
  refine t_for (fun _ => by kernel_rfl) ?_
  repeat walk_at "st"
  refine t_lenL' hrl' (by walk_at "om") fun t1 => ?_
  repeat walk_at "st"
  rw [hvl]
  refine t_range (n := n + 2) (by walk_at "om") fun rr oo hrr hRR => ?_
  refine t_forP (fun t g' m' => Agr [sN "turn", sN "ready", sN "name"] m m' ∧ LoopJ w nm md tg L gB ra ea a t g') (Starts.range (hRR _ gset_self) (by walk_at "om")) (fun _ _ _ _ => trivial) ⟨Agr.refl, ?_⟩ (fun t v g' m' ht p3 p4 => ?_) fun g' m' z1 => by obtain ⟨h1, h2⟩ := z1; exact t_nil (hQ1 _ _ _ ⟨rfl, h1, h2⟩)
  · refine el_eea hJ fun own po Sp C => ?_; clear hJ
    exact ⟨gset own rr oo, po, Sp.new hrr, C.mono (sub_new (Sp.none hrr))⟩
  · first | refine tri_hide fun Q2 hQ2 => ?_ | skip
    obtain ⟨tv, hv⟩ := p3
    obtain ⟨h1, own, po, Sp, C⟩ := p4
    subst hv
    have hrd := rdy_len (lk := lkOf md) hnd hL htg t
    refine t_asgN ?_
    refine t_sto (by kernel_rfl) (by kernel_rfl) ?_
    have A1 : Agr [sN "turn", sN "ready", sN "name"] m (mset m' (sN "turn") (.int (t : Nat) tv)) := h1.set (by decide +kernel)
    refine hQ2 _ _ _ ?_
    refine tri_hide fun Q20 hQ20 => ?_
    refine t_cons (tri_mono (ch_ready (k := k + 1) T inj (fun i hi => (mem_rdy.mp hi).1) (by walk_at "om") Sp C ((A1 _ (by decide +kernel)).trans m1)) fun f g2 m2' p5 => ?_)
    obtain ⟨q1, tp, vs2, own2, q2, Sp2, C2, ht2, hv2⟩ := p5
    subst q1 q2
    have A2 : Agr [sN "turn", sN "ready", sN "name"] m (mset (mset m' (sN "turn") (.int (t : Nat) tv)) (sN "ready") (.ref tp)) := A1.set (by decide +kernel)
    have mr : (mset (mset m' (sN "turn") (.int (t : Nat) tv)) (sN "ready") (.ref tp)) (sN "ready") = some (.ref tp) := mset_self
    generalize mset (mset m' (sN "turn") (.int (t : Nat) tv)) (sN "ready") (.ref tp) = mm at *
    refine t_cons (tri_mono (ch_append (k := k + 1) T hra (by walk_at "om") Sp2 C2 ht2 hv2 ((A2 _ (by decide +kernel)).trans m2) mr) fun f g3 m3' p6 => ?_)
    refine el_aa p6 fun q1 q2 hJ3 => ?_; clear p6
    subst q1 q2
    have F3 : CF L0 da gr ea m3' := ⟨(A2 _ (by decide +kernel)).trans F.md, (A2 _ (by decide +kernel)).trans F.gr, (A2 _ (by decide +kernel)).trans F.en⟩
    refine t_cons (tri_mono (ch_ends (k := k) T inj hnd (by walk_at "om") hmd hM hG hea (fun j => by have := dnt_len (lk := lkOf md) hnd hL htg t j; walk_at "om") F3 mr hv2 hJ3) fun f g4 m4' p7 => ?_)
    refine el_aa p7 fun q1 A4 hJ4 => ?_; clear p7
    subst q1
    have A4' : Agr [sN "turn", sN "ready", sN "name"] m m4' := fun x hx => by
      have : ([sN "name"] : List Str).contains x = false := by
        simp only [List.contains_cons, List.contains_nil, Bool.or_false, Bool.or_eq_false_iff] at hx ⊢
        exact hx.2.2
      exact (A4 x this).trans (A2 x hx)
    have hscl : ∀ i, (scL (lkOf md) tg L i).length ≤ 12 := fun i => by have := scL_len (lk := lkOf md) (tg := tg) (L := L) i; walk_at "om"
    refine t_cons (tri_mono (ch_done (k := k + 1) T inj hv2 (fun i hi => ⟨(mem_rdy.mp hi).1, fun s hs => sc_ord hs⟩) (fun j i h => npT_st hnd h) hscl (by walk_at "om") hJ4 ((A4' _ (by decide +kernel)).trans m1) ((A4 _ (by decide +kernel)).trans mr)) fun f g5 m5' p8 => ?_)
    refine el_aaea p8 fun q1 q2 own5 Sp5 C5 => ?_; clear p8
    subst q1 q2
    rw [npT_done hnd] at Sp5
    exact t_nil (hQ20 _ _ _ ⟨A4', own5, _, Sp5, C5⟩)
end
end
noncomputable section
variable {w : World} {H : Heap} {O : OsState} {g g0 : GH}
section
variable {L0 da gr ra ea tp rl lo : Addr} {k n t : Nat} {nm : Nat → Str} {md tg : Nat → Nat} {L D : List Nat} {gB own : GH} {m : LM} {gl : Nat → Addr} {a : SA} {ord : List Nat} {np : Nat → Int} {sc : Nat → List Nat} {po nf : Int}
def lostL (L D : List Nat) : List Nat := L.filter fun p => !(decide (p ∈ D))
theorem ch_lost (T : Tp (KK w.params) H) (inj : ∀ i j, nm i = nm j → i = j) (hLl : L.length ≤ 10) (hM : MDict w nm md g da L) {val : Nat → Value} (hE : IsD w g ea (D.map fun e => (nm e, val e))) (m1 : m (sN "modes") = some (.ref da)) (m2 : m (sN "ends") = some (.ref ea)) :
    tri w H O k none noX (chEnv L0) (exec (stAt (fBody (sAt 36)) 9) (chEnv L0)) g m fun f g2 m2 => f = .next ∧ Sub g g2 ∧ ∃ D', m2 = mset m (sN "lost") (.ref D') ∧ ∃ vs, IsL g2 D' vs ∧ SVs nm (lostL L D) vs := by
  refine tri_hide fun Q1 hQ1 => ?_
  obtain ⟨tk, hMd⟩ := hM
  refine el_ea (id hMd) fun od ed hd => ?_
  refine tri_lo T ed fun lo => ?_
  refine t_lcuse (by kernel_rfl) (by kernel_rfl) (fun _ => by kernel_rfl) ?_
  repeat walk_at "st"
  refine compAt_1 T (n := (L.map fun p => (nm p, Value.int (md p : Nat) (tk p))).length) (Src := fun g => g da = some od) (fun i ys g' m' => g' = g ∧ SVs nm (lostL (L.take i) D) ys ∧ m' (sN "ends") = some (.ref ea)) (by kernel_rfl) (Starts.keys ed hd lo) (by rw [List.length_map]; walk_at "om")
    (fun i ys g m h => h.1 ▸ ed) (fun g D o h hD => by rw [gset_ne (fun z => by rw [z, hD] at h; cases h)]; exact h) (fun mc hmc => ⟨rfl, SVs.nil, (hmc.get (by kernel_rfl)).trans m2⟩) (fun C i v new ys g' m' hj p3 p4 hf => ?_) fun E ys g' m' e p2 hEn => ?_
  · obtain ⟨⟨kk, x, t, hk, hv⟩, hnew⟩ := p3
    refine el_aa p4 fun h1 h3 h4 => ?_; clear p4
    subst h1 hnew hv
    rw [List.getElem?_map] at hk
    cases hp : L[i]? with
    | none => rw [hp] at hk; cases hk
    | some p =>
    rw [hp] at hk
    cases hk
    have etk : L.take (i + 1) = L.take i ++ [p] := by rw [List.take_add_one, hp]; rfl
    refine t_asgN (t_store (by kernel_rfl) ?_)
    refine t_tests1 ?_
    repeat walk_at "st"
    refine t_dnotin T hE ?_
    repeat walk_at "st"
    rw [vat_map (α := Unit) inj val]
    have hb : (!(if p ∈ D then some (val p) else none).isSome) = !(decide (p ∈ D)) := by split <;> simp_all
    rw [hb]
    unfold lostL at h3 ⊢
    rw [etk, List.filter_append]
    cases hk : (!(decide (p ∈ D)))
    · first | with_reducible refine ite_f ?_ | simp only [Bool.false_eq_true, if_false]
      refine ⟨rfl, ?_, by walk_at "look"⟩
      simpa [hk] using h3
    · first | with_reducible refine ite_t ?_ | simp only [if_true]
      repeat walk_at "st"
      refine ⟨rfl, ?_, by walk_at "look"⟩
      simp only [List.filter_cons, hk, if_true, List.filter_nil]
      exact h3.snoc ⟨t, rfl⟩
  · refine el_aa p2 fun h1 h3 h4 => ?_; clear p2
    subst h1
    unfold useQ
    dsimp only
    refine t_all1 (t_asgN ?_)
    repeat walk_at "st"
    refine (hQ1 _ _ _ ⟨rfl, sub_new hEn, E, rfl, ys, ⟨e, gset_self⟩, ?_⟩)
    rw [List.length_map, List.take_length] at h3
    exact h3
theorem ch_ret (T : Tp (KK w.params) H) {vs : List Value} {ls : List Nat} {b : Bool} (inj : ∀ i j, nm i = nm j → i = j) (S : SH w nm g a ord np sc (some []) po po) (hvs : IsL g lo vs) (hsv : SVs nm ls vs) (hl : ls.length ≤ 100) (hls : ∀ i ∈ ls, i ∈ ord ∧ 0 ≤ np i ∧ (reprText (nm i)).length ≤ 1000) (m0 : m (sN "ring") = some (.bool b)) (m1 : m (sN "rounds") = some (.ref ra)) (m2 : m (sN "ends") = some (.ref ea)) (m3 : m (sN "lost") = some (.ref lo)) (m4 : m (sN "sorter") = some (.ref a.x)) :
    tri w H O (k + 2) none noX (chEnv L0) (exec (stAt (fBody (sAt 36)) 10) (chEnv L0)) g m fun f g2 m2 => ∃ D E, f = .ret (.ref D) ∧ Sub g g2 ∧ IsT g2 D [.bool b, .ref ra, .ref ea, .ref lo, .ref E, .bool false] ∧ IsL g2 E (List.replicate vs.length (.bool true)) := by
  refine tri_hide fun Q1 hQ1 => ?_
  have hvl := hsv.len
  refine t_ret ?_
  refine t_tuple ?_
  repeat walk_at "st"
  refine t_lc (by kernel_rfl) (fun _ => by kernel_rfl) ?_
  repeat walk_at "st"
  refine compAt_1 T (n := vs.length) (Src := fun g => IsL g lo vs) (fun i ys g' m' => Sub g g' ∧ ys = List.replicate i (.bool true) ∧ m' (sN "sorter") = some (.ref a.x)) (by kernel_rfl) (Starts.list hvs) (by walk_at "om")
    (fun i ys g m h => hvs.sub h.1) (fun g D o h hD => h.ne (fun z => by obtain ⟨n, q⟩ := h; rw [z, hD] at q; cases q)) (fun mc hmc => ⟨sub_refl, rfl, (hmc.get (by kernel_rfl)).trans m4⟩) (fun C i v new ys g' m' hj p4 p5 hf => ?_) fun E ys g' m' e p2 hE => ?_
  · first | refine tri_hide fun Q3 hQ3 => ?_ | skip
    obtain ⟨hv, hnew⟩ := p4
    refine el_aa p5 fun h1 h3 h4 => ?_; clear p5
    subst hnew h3
    obtain ⟨p, hp, tq, rfl⟩ := hsv.get hv
    refine el_aa (hls p (List.mem_of_getElem? hp)) fun c1 c2 c3 => ?_
    refine t_asgN (t_store (by kernel_rfl) ?_)
    refine hQ3 _ _ _ ?_
    refine t_tests0 ?_
    first | with_reducible refine ite_t ?_ | simp only [if_true]
    refine tri_hide fun Q30 hQ30 => ?_
    repeat walk_at "st"
    refine tri_call (f_refused (k := k) T inj (S.mono h1) ⟨tq, rfl⟩ c1 c2 c3) fun r g2 p6 => ?_
    obtain ⟨e1, e2⟩ := p6
    subst e1
    exact (hQ30 _ _ _ ⟨sub_trans h1 e2, by rw [List.replicate_succ'], by walk_at "look"⟩)
  · refine el_aa p2 fun h1 h3 h4 => ?_; clear p2
    subst h3
    unfold useQ
    dsimp only
    have S2 : SH w nm (gset g' E (lst (List.replicate vs.length (.bool true)) e)) a ord np sc (some []) po po := S.mono (h1.put (h1.none hE))
    repeat walk_at "st"
    refine s_meth (f := 106) T S2 (by kernel_rfl) (by kernel_rfl) (by kernel_rfl) (fun _ _ _ _ _ => rfl) rfl ?_
    repeat walk_at "st"
    refine tri_call (f_active (k := k + 1) T S2) fun r g2 p7 => ?_
    obtain ⟨e1, e2⟩ := p7
    subst e1 e2
    repeat walk_at "st"
    refine ⟨by simp, fun D hD => (hQ1 _ _ _ ⟨D, E, rfl, ?_, ⟨_, 0, gset_self, rfl, rfl⟩, ?_⟩)⟩
    · refine (h1.put (h1.none hE)).put ?_
      have q1 : D ≠ E := fun z => by rw [z, gset_self] at hD; cases hD
      rw [gset_ne q1] at hD
      exact h1.none hD
    · have q1 : E ≠ D := fun z => by rw [← z, gset_self] at hD; cases hD
      exact ⟨e, by rw [gset_ne q1, gset_self]⟩
end
end
noncomputable section
variable {w : World} {H : Heap} {O : OsState} {g g0 : GH}
section
variable {L0 : Addr} {k : Nat} {m : LM}
theorem ch_new0 : tri w H O k none noX (chEnv L0) (exec (stAt (fBody (sAt 36)) 0) (chEnv L0)) g m fun f g2 m2 => f = .next ∧ ∃ D o, g D = none ∧ o.IsDictOf (strKind P0 w) [] ∧ g2 = gset g D o ∧ m2 = mset m (sN "modes") (.ref D) := by
  refine tri_hide fun Q1 hQ1 => ?_
  refine t_assignN (by kernel_rfl) (t_dnew fun D o hD ho => ?_)
  repeat walk_at "st"
  exact (hQ1 _ _ _ ⟨rfl, D, o, hD, ho, rfl, rfl⟩)
theorem ch_new1 : tri w H O k none noX (chEnv L0) (exec (stAt (fBody (sAt 36)) 1) (chEnv L0)) g m fun f g2 m2 => f = .next ∧ ∃ D o, g D = none ∧ o.IsDictOf (strKind P0 w) [] ∧ g2 = gset g D o ∧ m2 = mset m (sN "graph") (.ref D) := by
  refine tri_hide fun Q1 hQ1 => ?_
  refine t_assignN (by kernel_rfl) (t_dnew fun D o hD ho => ?_)
  repeat walk_at "st"
  exact (hQ1 _ _ _ ⟨rfl, D, o, hD, ho, rfl, rfl⟩)
theorem ch_new4 : tri w H O k none noX (chEnv L0) (exec (stAt (fBody (sAt 36)) 4) (chEnv L0)) g m fun f g2 m2 => f = .next ∧ g2 = g ∧ m2 = mset m (sN "ring") (.bool false) := by
  refine tri_hide fun Q1 hQ1 => ?_
  refine t_assignN (by kernel_rfl) ?_
  repeat walk_at "st"
  exact (hQ1 _ _ _ ⟨rfl, rfl, rfl⟩)
theorem ch_new6 : tri w H O k none noX (chEnv L0) (exec (stAt (fBody (sAt 36)) 6) (chEnv L0)) g m fun f g2 m2 => f = .next ∧ ∃ D, g D = none ∧ g2 = gset g D (lst [] 0) ∧ m2 = mset m (sN "rounds") (.ref D) := by
  refine tri_hide fun Q1 hQ1 => ?_
  refine t_assignN (by kernel_rfl) (t_list ?_)
  repeat walk_at "st"
  refine ⟨by simp, fun D hD => ?_⟩
  repeat walk_at "st"
  exact (hQ1 _ _ _ ⟨rfl, D, hD, rfl, rfl⟩)
theorem ch_new7 : tri w H O k none noX (chEnv L0) (exec (stAt (fBody (sAt 36)) 7) (chEnv L0)) g m fun f g2 m2 => f = .next ∧ ∃ D o, g D = none ∧ o.IsDictOf (strKind P0 w) [] ∧ g2 = gset g D o ∧ m2 = mset m (sN "ends") (.ref D) := by
  refine tri_hide fun Q1 hQ1 => ?_
  refine t_assignN (by kernel_rfl) (t_dnew fun D o hD ho => ?_)
  repeat walk_at "st"
  exact (hQ1 _ _ _ ⟨rfl, D, o, hD, ho, rfl, rfl⟩)
end
def ChaseRes (w : World) (nm : Nat → Str) (n : Nat) (md tg : Nat → Nat) (L : List Nat) (g : GH) (v : Value) : Prop :=
  ∃ D E ra ea lo vr vs b, v = .ref D ∧ IsT g D [.bool b, .ref ra, .ref ea, .ref lo, .ref E, .bool false] ∧ (IsL g ra vr ∧ vr.length = n + 2 ∧ RdsAt nm g vr (rdyL (lkOf md) tg L)) ∧ (∃ val : Nat → Value, IsD w g ea ((dnL (lkOf md) tg L (n + 2)).map fun e => (nm e, val e)) ∧ ∀ e ∈ dnL (lkOf md) tg L (n + 2), EndC md tg L g e (val e)) ∧ (IsL g lo vs ∧ SVs nm (lostL L (dnL (lkOf md) tg L (n + 2))) vs) ∧ IsL g E (List.replicate vs.length (.bool true)) ∧ ((b = false ∧ Acyc (ordL (lkOf md) tg L) (scL (lkOf md) tg L)) ∨ (b = true ∧ Cyc (scL (lkOf md) tg L)))
set_option maxHeartbeats 1000000 in
theorem f_chase {k n : Nat} {rl : Addr} {nm : Nat → Str} {md tg : Nat → Nat} {L : List Nat} {vs : List Value} (T : Tp (KK w.params) H) (inj : ∀ i j, nm i = nm j → i = j) (hn : n ≤ 10) (hL : ∀ p ∈ L, p < n) (htg : ∀ p ∈ L, tg p ≤ n) (hnd : L.Nodup) (hLl : L.length = n) (hmd : MdOk md L) (hrl : IsL g rl vs) (hvl : vs.length = n) (hrow : ∀ (j p : Nat), L[j]? = some p → ∃ x t, vs[j]? = some (.str x t) ∧ RowOk nm md (lkOf md) tg x p) (hr2 : rdyL (lkOf md) tg L (n + 2) = []) (hre : ∀ p ∈ L, (reprText (nm p)).length ≤ 1000) :
    fnS w H O (k + 8) (.ref 226) ⟨[.ref rl], []⟩ g (fun v g' => Sub g g' ∧ ChaseRes w nm n md tg L g' v) no2 := by
  refine fn_introC (fd := fd226) (binds := [(Str.ofString "rows", .ref rl)]) T rfl rfl (by kernel_rfl) rfl (by kernel_rfl) rfl (kinds (by kernel_rfl)) (by decide +kernel) (fun L0 => ?_) (by kernel_rfl) (by kernel_rfl) (by kernel_rfl)
  refine tri_hide fun Q1 hQ1 => ?_
  rw [b1]
  have m0r : (mset emp (Str.ofString "rows") (.ref rl)) (sN "rows") = some (.ref rl) := mset_self
  generalize mset emp (Str.ofString "rows") (.ref rl) = m0 at *
  refine t_cons (tri_mono (ch_new0 (k := k + 7)) fun f g1 m1 p2 => ?_)
  obtain ⟨q1, da, o1, hda, ho1, q2, q3⟩ := p2
  subst q1 q2 q3
  have m1r := (mset_ne (v := .ref da) (show sN "rows" ≠ sN "modes" by decide +kernel) : (mset m0 (sN "modes") (.ref da)) (sN "rows") = _).trans m0r
  have m1d : (mset m0 (sN "modes") (.ref da)) (sN "modes") = some (.ref da) := mset_self
  generalize mset m0 (sN "modes") (.ref da) = m1 at *
  refine t_cons (tri_mono (ch_new1 (k := k + 7)) fun f g2 m2 p3 => ?_)
  obtain ⟨q1, gr, o2, hgr, ho2, q2, q3⟩ := p3
  subst q1 q2 q3
  have hne : gr ≠ da := fun z => by rw [z, gset_self] at hgr; cases hgr
  have hgr0 : g gr = none := by rw [gset_ne hne] at hgr; exact hgr
  have A2 : Agr [sN "graph"] m1 (mset m1 (sN "graph") (.ref gr)) := Agr.refl.set (by decide +kernel)
  have m2g : (mset m1 (sN "graph") (.ref gr)) (sN "graph") = some (.ref gr) := mset_self
  have m2r := (A2 _ (by decide +kernel)).trans m1r
  have m2d := (A2 _ (by decide +kernel)).trans m1d
  generalize mset m1 (sN "graph") (.ref gr) = m2 at *
  have s2 : Sub g (gset (gset g da o1) gr o2) := (sub_new hda).put hgr0
  have hD2 : IsD w (gset (gset g da o1) gr o2) da [] := ⟨o1, by rw [gset_ne hne.symm, gset_self], ho1⟩
  have hG2 : IsD w (gset (gset g da o1) gr o2) gr [] := ⟨o2, gset_self, ho2⟩
  generalize gset (gset g da o1) gr o2 = g2 at *
  refine t_cons (tri_mono (ch_rows (k := k + 5) T inj hnd (by walk_at "om") (by walk_at "om") hrow s2 hrl hda hgr0 hne hD2 hG2 m2r m2d m2g) fun f g3 m3 p4 => ?_)
  obtain ⟨q1, s3, A3, hM3, gl, hG3⟩ := p4
  subst q1
  have m3g := (A3 _ (by decide +kernel)).trans m2g
  have m3r := (A3 _ (by decide +kernel)).trans m2r
  have m3d := (A3 _ (by decide +kernel)).trans m2d
  refine t_cons (tri_mono (ch_sorter (k := k) T inj hnd (by walk_at "om") hG3 m3g) fun f g4 m4 p5 => ?_)
  obtain ⟨q1, v4, q3, gS, own, a, e1, e2, e3, e4, e5⟩ := p5
  subst q1 q3 e1 e2
  have A4 : Agr [sN "sorter"] m3 (mset m3 (sN "sorter") (.ref a.x)) := Agr.refl.set (by decide +kernel)
  have m4s : (mset m3 (sN "sorter") (.ref a.x)) (sN "sorter") = some (.ref a.x) := mset_self
  have m4g := (A4 _ (by decide +kernel)).trans m3g
  have m4r := (A4 _ (by decide +kernel)).trans m3r
  have m4d := (A4 _ (by decide +kernel)).trans m3d
  generalize mset m3 (sN "sorter") (.ref a.x) = m4 at *
  refine t_cons (tri_mono (ch_new4 (k := k + 7)) fun f g5 m5 p6 => ?_)
  refine el_aa p6 fun q1 q2 q3 => ?_; clear p6
  subst q1 q2 q3
  have A5 : Agr [sN "ring"] m4 (mset m4 (sN "ring") (.bool false)) := Agr.refl.set (by decide +kernel)
  have m5b : (mset m4 (sN "ring") (.bool false)) (sN "ring") = some (.bool false) := mset_self
  have m5s := (A5 _ (by decide +kernel)).trans m4s
  have m5g := (A5 _ (by decide +kernel)).trans m4g
  have m5r := (A5 _ (by decide +kernel)).trans m4r
  have m5d := (A5 _ (by decide +kernel)).trans m4d
  generalize mset m4 (sN "ring") (.bool false) = m5 at *
  have hol : (ordL (lkOf md) tg L).length ≤ 500 := by have := @ordL_len (lkOf md) tg L; walk_at "om"
  refine t_cons (tri_mono (ch_prep (k := k + 5) T inj hol (fun v _ s hs => sc_ord hs) e5 e3 m5s m5b) fun f g6 m6 p7 => ?_)
  obtain ⟨q1, A6, b, a', m6b, ha', Sp, hb⟩ := p7
  subst q1
  have m6s : m6 (sN "sorter") = some (.ref a'.x) := by rw [ha']; exact (A6 _ (by decide +kernel)).trans m5s
  have m6g := (A6 _ (by decide +kernel)).trans m5g
  have m6r := (A6 _ (by decide +kernel)).trans m5r
  have m6d := (A6 _ (by decide +kernel)).trans m5d
  refine t_cons (tri_mono (ch_new6 (k := k + 7)) fun f g7 m7 p8 => ?_)
  obtain ⟨q1, ra, hra, q2, q3⟩ := p8
  subst q1 q2 q3
  have A7 : Agr [sN "rounds"] m6 (mset m6 (sN "rounds") (.ref ra)) := Agr.refl.set (by decide +kernel)
  have m7a : (mset m6 (sN "rounds") (.ref ra)) (sN "rounds") = some (.ref ra) := mset_self
  have m7b := (A7 _ (by decide +kernel)).trans m6b
  have m7s := (A7 _ (by decide +kernel)).trans m6s
  have m7g := (A7 _ (by decide +kernel)).trans m6g
  have m7r := (A7 _ (by decide +kernel)).trans m6r
  have m7d := (A7 _ (by decide +kernel)).trans m6d
  generalize mset m6 (sN "rounds") (.ref ra) = m7 at *
  have hra0 := Sp.none hra
  have Sp7 := Sp.new (o := lst [] 0) hra
  refine t_cons (tri_mono (ch_new7 (k := k + 7)) fun f g8 m8 p9 => ?_)
  obtain ⟨q1, ea, o8, hea, ho8, q2, q3⟩ := p9
  subst q1 q2 q3
  have A8 : Agr [sN "ends"] m7 (mset m7 (sN "ends") (.ref ea)) := Agr.refl.set (by decide +kernel)
  have m8e : (mset m7 (sN "ends") (.ref ea)) (sN "ends") = some (.ref ea) := mset_self
  have m8a := (A8 _ (by decide +kernel)).trans m7a
  have m8b := (A8 _ (by decide +kernel)).trans m7b
  have m8s := (A8 _ (by decide +kernel)).trans m7s
  have m8g := (A8 _ (by decide +kernel)).trans m7g
  have m8r := (A8 _ (by decide +kernel)).trans m7r
  have m8d := (A8 _ (by decide +kernel)).trans m7d
  generalize mset m7 (sN "ends") (.ref ea) = m8 at *
  have hea1 := Sp7.none hea
  have hear : ea ≠ ra := fun z => by rw [z, gset_self] at hea1; cases hea1
  have hea0 : own ea = none := by rw [gset_ne hear] at hea1; exact hea1
  have Sp8 := Sp7.new (o := o8) hea
  have C8 : CO2 w nm md tg L own ra ea 0 (dnL (lkOf md) tg L 0) (gset (gset own ra (lst [] 0)) ea o8) := by
    refine ⟨(sub_new hra0).put hea0, ⟨[], ⟨0, by rw [gset_ne hear.symm, gset_self]⟩, rfl, fun t v h => by simp at h⟩, fun _ => .none, ⟨o8, gset_self, ho8⟩, fun e he => ?_⟩
    simp [dnL] at he
  have F8 : CF L0 da gr ea m8 := ⟨m8d, m8g, m8e⟩
  have J8 : LoopJ w nm md tg L own ra ea a' 0 (gset (gset g6 ra (lst [] 0)) ea o8) := by
    refine ⟨_, 0, ?_, C8⟩
    rw [npT_zero]
    exact Sp8
  refine t_cons (tri_mono (ch_loop (k := k + 5) (n := n) T inj hn hnd hLl hL htg hmd (hM3.sub e4) (hG3.sub e4) hra0 hea0 F8 (hrl.sub (sub_trans s3 e4)) hvl m8r m8s m8a J8) fun f g9 m9 p10 => ?_)
  obtain ⟨q1, A9, own9, po, Sp9, C9⟩ := p10
  subst q1
  rw [hr2] at Sp9
  have m9e := (A9 _ (by decide +kernel)).trans m8e
  have m9a := (A9 _ (by decide +kernel)).trans m8a
  have m9b := (A9 _ (by decide +kernel)).trans m8b
  have m9s := (A9 _ (by decide +kernel)).trans m8s
  have m9d := (A9 _ (by decide +kernel)).trans m8d
  have sB := sub_trans C9.sub Sp9.sub
  have C9' := C9.mono Sp9.sub
  refine el_ea C9'.ends fun val hE9 hv9 => ?_
  refine t_cons (tri_mono (ch_lost (k := k + 7) T inj (by walk_at "om") ((hM3.sub e4).sub sB) hE9 m9d m9e) fun f g10 m10 p11 => ?_)
  obtain ⟨q1, s10, lo, q3, vl, hvl10, hsv⟩ := p11
  subst q1 q3
  have A10 : Agr [sN "lost"] m9 (mset m9 (sN "lost") (.ref lo)) := Agr.refl.set (by decide +kernel)
  refine t_cons (tri_mono (ch_ret (k := k + 5) T inj (Sp9.sh.mono s10) hvl10 hsv ?_ (fun i hi => ?_) ((A10 _ (by decide +kernel)).trans m9b) ((A10 _ (by decide +kernel)).trans m9a) ((A10 _ (by decide +kernel)).trans m9e) mset_self ((A10 _ (by decide +kernel)).trans m9s)) fun f g11 m11 p12 => ?_)
  · exact Nat.le_trans (List.length_filter_le _ _) (by walk_at "om")
  · obtain ⟨h1, h2⟩ := List.mem_filter.mp hi
    have h3 : i ∉ dnL (lkOf md) tg L (n + 2) := by simpa using h2
    refine ⟨ordL_mem.mpr (.inl h1), ?_, hre i h1⟩
    unfold npT
    rw [if_neg h3]
    split
    · exact Int.le_refl _
    · unfold npL; split <;> decide
  · refine el_eeaaa p12 fun D E q1 s11 hD hEE => ?_; clear p12
    subst q1
    have sT := sub_trans s10 s11
    have C11 := C9'.mono sT
    refine el_eaa C11.rds fun vr c1 c2 c3 => ?_
    refine (hQ1 _ _ _ ⟨sub_trans s3 (sub_trans e4 (sub_trans sB sT)), D, E, ra, ea, lo, vr, vl, b, rfl, hD, ⟨c1, c2, c3⟩, ⟨val, by obtain ⟨o, e, h⟩ := hE9; exact ⟨o, sT _ _ e, h⟩, fun e he => (hv9 e he).sub sT⟩, ⟨hvl10.sub s11, hsv⟩, hEE, hb⟩)
end
noncomputable section
section
variable {md tg : Nat → Nat} {L : List Nat} {n : Nat}
abbrev AtM (md tg : Nat → Nat) (L : List Nat) (t e : Nat) : Prop := At (lkOf md) tg L t e
theorem At.step : ∀ {s t e : Nat}, AtM md tg L t e → s ≤ t → AtM md tg L (t - s) (itr tg s e)
  | 0, t, e, h, _ => h
  | s + 1, t, e, h, hs => by
    have ih := At.step (s := s) h (by walk_at "om")
    obtain ⟨u, hu⟩ : ∃ u, t - s = u + 1 := ⟨t - s - 1, by walk_at "om"⟩
    rw [hu] at ih
    have : t - (s + 1) = u := by walk_at "om"
    rw [this]
    exact ih.2
theorem At.inL {s t e : Nat} (h : AtM md tg L t e) (hs : s < t) : itr tg s e ∈ L ∧ lkOf md (itr tg s e) = true := by
  have ih := At.step h (Nat.le_of_lt hs)
  obtain ⟨u, hu⟩ : ∃ u, t - s = u + 1 := ⟨t - s - 1, (Nat.sub_add_cancel (Nat.sub_pos_of_lt hs)).symm⟩
  rw [hu] at ih
  exact ih.1
theorem At.of : ∀ {t e : Nat}, (∀ s, s < t → itr tg s e ∈ L ∧ lkOf md (itr tg s e) = true) → ¬ (itr tg t e ∈ L ∧ lkOf md (itr tg t e) = true) → AtM md tg L t e
  | 0, e, _, h => h
  | t + 1, e, h0, h => ⟨h0 0 (by walk_at "om"), At.of (fun s hs => by rw [← itr_succ]; exact h0 (s + 1) (by walk_at "om")) (by rw [← itr_succ]; exact h)⟩
theorem nodup_mapR {f : Nat → Nat} {k : Nat} (h : ∀ i j, i < k → j < k → f i = f j → i = j) : ((List.range k).map f).Nodup := by
  refine List.pairwise_map.mpr (List.Pairwise.imp_of_mem (fun {a b} ha hb hne heq => hne ?_) List.nodup_range)
  exact h a b (List.mem_range.mp ha) (List.mem_range.mp hb) heq
theorem At.le (htg : ∀ p ∈ L, tg p ≤ n) {t e : Nat} (he : e ≤ n) (h : AtM md tg L t e) : t ≤ n := by
  have hb : ∀ s, s ≤ t → itr tg s e ≤ n := fun s hs => by
    cases s with
    | zero => exact he
    | succ s => exact htg _ (At.inL h (by walk_at "om")).1
  have hn : ((List.range (t + 1)).map fun s => itr tg s e).Nodup := nodup_mapR fun i j hi hj he => by
    have h1 := At.step h (show i ≤ t by walk_at "om")
    have h2 := At.step h (show j ≤ t by walk_at "om")
    rw [he] at h1
    have := At.uniq h1 h2; walk_at "om"
  have := nodup_le (l' := List.range (n + 1)) hn fun x hx => by
    refine el_ea (List.mem_map.mp hx) fun s hs yy1 => ?_
    obtain rfl := yy1
    exact List.mem_range.mpr (by have := hb s (by have := List.mem_range.mp hs; walk_at "om"); walk_at "om")
  simp at this; walk_at "om"
theorem far_ex {e : Nat} : ∀ m, ¬ goes n md tg e m → ∃ t, t ≤ m ∧ FarAt n md tg e t := fun m => by
  induction m using Nat.strongRecOn with
  | ind m ih =>
    intro h
    by_cases q : ∃ s, s < m ∧ ¬ goes n md tg e s
    · refine el_ea q fun s h1 h2 => ?_; clear q
      refine el_ea (ih s h1 h2) fun t h3 h4 => ?_
      exact ⟨t, by walk_at "om", h4⟩
    · refine ⟨m, Nat.le_refl _, fun s hs => ?_, h⟩
      by_cases z : goes n md tg e s
      · exact z
      · exact absurd ⟨s, hs, z⟩ q
theorem far_any {e : Nat} : ∃ t, FarAt n md tg e t := by
  obtain ⟨t, _, h⟩ := far_ex (n := n) (md := md) (tg := tg) (e := e) (n + 1) fun h => by have := h.2.2; walk_at "om"
  exact ⟨t, h⟩
theorem goes_iff (hLn : ∀ p, p ∈ L ↔ p < n) {e s : Nat} : goes n md tg e s ↔ (itr tg s e ∈ L ∧ lkOf md (itr tg s e) = true) ∧ s ≤ n := by
  unfold goes lkOf
  rw [hLn]
  simp only [beq_iff_eq, and_assoc]
theorem At.far (hLn : ∀ p, p ∈ L ↔ p < n) {t e : Nat} (h : AtM md tg L t e) (ht : t ≤ n) : FarAt n md tg e t :=
  ⟨fun s hs => (goes_iff hLn).mpr ⟨At.inL h hs, by walk_at "om"⟩, fun hg => by
    have h0 := At.step h (Nat.le_refl t)
    rw [Nat.sub_self] at h0
    exact h0 ((goes_iff hLn).mp hg).1⟩
theorem FarAt.at (hLn : ∀ p, p ∈ L ↔ p < n) {t e : Nat} (h : FarAt n md tg e t) (ht : t ≤ n) : AtM md tg L t e :=
  At.of (fun s hs => ((goes_iff hLn).mp (h.1 s hs)).1) fun q => h.2 ((goes_iff hLn).mpr ⟨q, ht⟩)
theorem fin_dn (hLn : ∀ p, p ∈ L ↔ p < n) (htg : ∀ p ∈ L, tg p ≤ n) {e : Nat} (he : e ∈ ordL (lkOf md) tg L) : finB n md tg e = true ↔ e ∈ dnL (lkOf md) tg L (n + 2) := by
  have hen : e ≤ n := ord_le (fun p hp => (hLn p).mp hp) htg e he
  rw [mem_dn]
  constructor
  · intro hf
    obtain ⟨t, ht⟩ := far_any (n := n) (md := md) (tg := tg) (e := e)
    have htn : t ≤ n := by have := ht.fin; rw [hf] at this; simpa using this
    exact ⟨t, by walk_at "om", mem_rdy.mpr ⟨he, ht.at hLn htn⟩⟩
  · rintro ⟨s, hs, h⟩
    have ha := (mem_rdy.mp h).2
    have hsn := At.le htg hen ha
    rw [← (At.far hLn ha hsn).fin]; simpa using hsn
theorem rdy_end (hLn : ∀ p, p ∈ L ↔ p < n) (htg : ∀ p ∈ L, tg p ≤ n) : rdyL (lkOf md) tg L (n + 2) = [] := by
  refine List.eq_nil_iff_forall_not_mem.mpr fun e he => ?_
  obtain ⟨h1, h2⟩ := mem_rdy.mp he
  have := At.le htg (ord_le (fun p hp => (hLn p).mp hp) htg e h1) h2
  walk_at "om"
theorem rdy_zero (hLn : ∀ p, p ∈ L ↔ p < n) : rdyL (lkOf md) tg L 0 = (ordL (lkOf md) tg L).filter (farOk n md) := by
  unfold rdyL
  refine List.filter_congr fun e _ => ?_
  rw [Bool.eq_iff_iff, np0]
  unfold farOk
  rw [hLn]
  simp only [Bool.not_eq_true', Bool.and_eq_false_iff, decide_eq_false_iff_not, not_and, Bool.not_eq_true]
  constructor
  · intro h
    by_cases q : e < n
    · exact .inr (h q)
    · exact .inl q
  · rintro (h | h) q
    · exact absurd q h
    · exact h
theorem lost_eq (hLn : ∀ p, p ∈ L ↔ p < n) (htg : ∀ p ∈ L, tg p ≤ n) : lostL L (dnL (lkOf md) tg L (n + 2)) = L.filter fun e => !(finB n md tg e) := by
  unfold lostL
  refine List.filter_congr fun e he => ?_
  congr 1
  rw [Bool.eq_iff_iff, fin_dn hLn htg (ordL_mem.mpr (.inl he))]
  simp
theorem lost_acyc (hLn : ∀ p, p ∈ L ↔ p < n) (htg : ∀ p ∈ L, tg p ≤ n) (h : Acyc (ordL (lkOf md) tg L) (scL (lkOf md) tg L)) : (L.filter fun e => !(finB n md tg e)) = [] := by
  refine List.eq_nil_iff_forall_not_mem.mpr fun e he => ?_
  obtain ⟨h1, h2⟩ := List.mem_filter.mp he
  obtain ⟨t, ht⟩ := far_any (n := n) (md := md) (tg := tg) (e := e)
  have htn : ¬ t ≤ n := by
    intro q
    have := ht.fin
    rw [show finB n md tg e = false by simpa using h2] at this
    simp at this; walk_at "om"
  have hin : ∀ s, s ≤ n → itr tg s e ∈ L ∧ lkOf md (itr tg s e) = true := fun s hs => ((goes_iff hLn).mp (ht.1 s (by walk_at "om"))).1
  obtain ⟨r, hr⟩ := h
  have hlt : ∀ s, s ≤ n → r (itr tg s e) < r (itr tg (s + 1) e) := fun s hs => by
    obtain ⟨a, b⟩ := hin s hs
    exact hr _ (ordL_mem.mpr (.inr ⟨_, a, b, rfl⟩)) _ (mem_sc.mpr ⟨a, b, rfl⟩)
  have hmono : ∀ j i, i < j → j ≤ n → r (itr tg i e) < r (itr tg j e) := fun j => by
    induction j with
    | zero => intro i hi; walk_at "om"
    | succ j ih =>
      intro i hi hj
      have h3 := hlt j (by walk_at "om")
      by_cases q : i = j
      · subst q; exact h3
      · exact Nat.lt_trans (ih i (by walk_at "om") (by walk_at "om")) h3
  have hn : ((List.range (n + 1)).map fun s => itr tg s e).Nodup := nodup_mapR fun i j hi hj heq => by
    rcases Nat.lt_trichotomy i j with q | q | q
    · have := hmono j i q (by walk_at "om"); rw [heq] at this; walk_at "om"
    · exact q
    · have := hmono i j q (by walk_at "om"); rw [heq] at this; walk_at "om"
  have := nodup_le (l' := List.range n) hn fun x hx => by
    refine el_ea (List.mem_map.mp hx) fun s hs yy2 => ?_
    obtain rfl := yy2
    exact List.mem_range.mpr ((hLn _).mp (hin s (by have := List.mem_range.mp hs; walk_at "om")).1)
  simp at this; walk_at "om"
theorem lost_cyc (hLn : ∀ p, p ∈ L ↔ p < n) (htg : ∀ p ∈ L, tg p ≤ n) (h : Cyc (scL (lkOf md) tg L)) : (L.filter fun e => !(finB n md tg e)) ≠ [] := by
  refine el_eeaa h fun p N hN hp hs => ?_; clear h
  have key : ∀ t i, 0 < i → i ≤ N → ¬ AtM md tg L t (p i) := fun t => by
    induction t with
    | zero =>
      intro i hi hiN ha
      obtain ⟨j, rfl⟩ : ∃ j, i = j + 1 := ⟨i - 1, by walk_at "om"⟩
      refine el_aa (mem_sc.mp (hs j (by walk_at "om"))) fun a b _ => ?_
      exact ha ⟨a, b⟩
    | succ t ih =>
      intro i hi hiN ha
      obtain ⟨j, rfl⟩ : ∃ j, i = j + 1 := ⟨i - 1, by walk_at "om"⟩
      refine el_aa (mem_sc.mp (hs j (by walk_at "om"))) fun a b c => ?_
      have h2 := ha.2
      rw [c] at h2
      by_cases q : j = 0
      · subst q; rw [← hp] at h2; exact ih N hN (Nat.le_refl _) h2
      · exact ih j (by walk_at "om") (by walk_at "om") h2
  intro hnil
  obtain ⟨j, hj⟩ : ∃ j, N = j + 1 := ⟨N - 1, by walk_at "om"⟩
  refine el_aa (mem_sc.mp (hs j (by walk_at "om"))) fun a b c => ?_
  rw [← hj] at a
  have hm : p N ∈ L.filter fun e => !(finB n md tg e) := List.mem_filter.mpr ⟨a, by
    cases q : finB n md tg (p N) with
    | false => rfl
    | true =>
      have := (fin_dn hLn htg (ordL_mem.mpr (.inl a))).mp q
      refine el_ea (mem_dn.mp this) fun s _ h => ?_
      exact absurd (mem_rdy.mp h).2 (key s N hN (Nat.le_refl _))⟩
  rw [hnil] at hm; cases hm
end
end
noncomputable section
variable {w : World} {H : Heap} {O : OsState} {g g0 : GH}
def strD (nm : Nat → Str) (l : List Nat) : List PyData := l.map fun e => .str (nm e)
theorem strD_ok {nm : Nat → Str} : ∀ {l : List Nat}, (∀ e ∈ l, PyData.strOk (nm e) = true) → PyData.canLayAll0 (strD nm l) = true
  | [], _ => rfl
  | e :: l, h => by
    show (PyData.strOk (nm e) && PyData.canLayAll0 (strD nm l)) = true
    rw [h e (.head _), strD_ok fun x hx => h x (.tail _ hx)]; rfl
theorem strD_depth {nm : Nat → Str} : ∀ {l : List Nat}, PyData.depthAll (strD nm l) = 0
  | [] => rfl
  | e :: l => by
    show max 0 (PyData.depthAll (strD nm l)) = 0
    rw [strD_depth]; rfl
theorem SVs.rd {nm : Nat → Str} : ∀ {l : List Nat} {us : List Value}, SVs nm l us → RdAll g us (strD nm l)
  | [], [], _ => RdAll.nil
  | e :: l, u :: us, h => by
    simp only [SVs, List.map_cons, List.cons.injEq] at h
    obtain ⟨t, rfl⟩ := unS_some h.1
    exact RdAll.cons Rd.str (SVs.rd h.2)
  | [], _ :: _, h => by simp [SVs] at h
  | _ :: _, [], h => by simp [SVs] at h
def tupD (nm : Nat → Str) (r : Nat → List Nat) (ts : List Nat) : List PyData := ts.map fun t => .tuple (strD nm (r t))
theorem tupD_ok {nm : Nat → Str} {r : Nat → List Nat} (h : ∀ t, ∀ e ∈ r t, PyData.strOk (nm e) = true) : ∀ {ts : List Nat}, PyData.canLayAll0 (tupD nm r ts) = true
  | [] => rfl
  | t :: ts => by
    show (PyData.canLayAll0 (strD nm (r t)) && PyData.canLayAll0 (tupD nm r ts)) = true
    rw [strD_ok (h t), tupD_ok h]; rfl
theorem tupD_depth {nm : Nat → Str} {r : Nat → List Nat} : ∀ {ts : List Nat}, PyData.depthAll (tupD nm r ts) ≤ 1
  | [] => Nat.zero_le _
  | t :: ts => by
    show max (PyData.depthAll (strD nm (r t)) + 1) (PyData.depthAll (tupD nm r ts)) ≤ 1
    have := tupD_depth (nm := nm) (r := r) (ts := ts)
    rw [strD_depth]; walk_at "om"
theorem RdsAt.rd {nm : Nat → Str} {r : Nat → List Nat} {vr : List Value} (h : RdsAt nm g vr r) : RdAll g vr (tupD nm r (List.range vr.length)) := by
  induction vr using snocInd with
  | h0 => exact RdAll.nil
  | h vr v ih =>
    have h1 := ih fun t u hu => h t u (by rw [List.getElem?_append_left (List.getElem?_eq_some_iff.mp hu).1]; exact hu)
    refine el_eeaa (h vr.length v (by simp)) fun T us yy1 hT hs => ?_
    obtain rfl := yy1
    have : tupD nm r (List.range (vr ++ [Value.ref T]).length) = tupD nm r (List.range vr.length) ++ [.tuple (strD nm (r vr.length))] := by
      unfold tupD
      rw [List.length_append, List.length_singleton, List.range_succ, List.map_append]; rfl
    rw [this]
    exact RdAll.snoc h1 (Rd.tuple hT hs.rd)
theorem rd_trues : ∀ n : Nat, RdAll g (List.replicate n (.bool true)) (List.replicate n (.bool true))
  | 0 => RdAll.nil
  | n + 1 => RdAll.cons Rd.bool (rd_trues n)
theorem trues_ok : ∀ n : Nat, PyData.canLayAll0 (List.replicate n (.bool true)) = true ∧ PyData.depthAll (List.replicate n (.bool true)) = 0
  | 0 => ⟨rfl, rfl⟩
  | n + 1 => by
    obtain ⟨h1, h2⟩ := trues_ok n
    refine ⟨?_, ?_⟩
    · show (true && PyData.canLayAll0 (List.replicate n (.bool true))) = true
      rw [h1]; rfl
    · show max 0 (PyData.depthAll (List.replicate n (.bool true))) = 0
      rw [h2]; rfl
theorem rd_eq {A : Around} {s : Shared} {v v' : Value} {d : PyData} (h1 : Rd g v d) (h2 : Rd g v' d) (hk : ∀ a o, g a = some o → s.heap.get? a = some o) (hc : d.canLay0 = true) (hu : A.units + d.depth < cLine) : SeqAt.EqAt A s v v' true := by
  obtain ⟨as, r1⟩ := h1 s.heap hk
  obtain ⟨bs, r2⟩ := h2 s.heap hk
  have := SeqAt.eqAt_reads d d A s v v' as bs r1 r2 hc hc (by rw [Nat.min_self]; exact hu)
  rwa [SeqAt.eqv_refl d hc] at this
def endD (md : Nat → Nat) (L : List Nat) (u : Nat) : PyData := if u ∈ L then .tuple [.int (md u / 4096 * 4096 : Nat), .int (md u % 4096 : Nat)] else .none
theorem endD_ok {md : Nat → Nat} {L : List Nat} {u : Nat} : (endD md L u).canLay0 = true ∧ (endD md L u).depth ≤ 1 := by
  unfold endD; split
  · exact ⟨rfl, by show max 0 (max 0 0) + 1 ≤ 1; decide⟩
  · exact ⟨rfl, by show 0 ≤ 1; decide⟩
theorem EndC.rd {md tg : Nat → Nat} {L : List Nat} {e : Nat} {v : Value} (h : EndC md tg L g e v) : ∃ t, AtM md tg L t e ∧ Rd g v (endD md L (itr tg t e)) := by
  obtain ⟨t, h1, h2 | ⟨h2, T, t1, t2, e1, e2⟩⟩ := h
  · refine ⟨t, h1, ?_⟩
    unfold endD
    rw [if_neg h2.1, h2.2]
    exact Rd.none
  · refine ⟨t, h1, ?_⟩
    unfold endD
    rw [if_pos h2, e1]
    exact Rd.tuple e2 (RdAll.cons Rd.int (RdAll.cons Rd.int RdAll.nil))
theorem EndAt.rd {md tg : Nat → Nat} {L : List Nat} {n e : Nat} {v : Value} (hLn : ∀ p, p ∈ L ↔ p < n) (h : EndAt n md tg g e v) : ∃ t, AtM md tg L t e ∧ Rd g v (endD md L (itr tg t e)) := by
  obtain ⟨t, h1, hn, h2 | ⟨h2, T, t1, t2, e1, e2⟩⟩ := h
  · refine ⟨t, h1.at hLn hn, ?_⟩
    unfold endD
    rw [if_neg (by rw [hLn]; walk_at "om"), h2.2]
    exact Rd.none
  · refine ⟨t, h1.at hLn hn, ?_⟩
    unfold endD
    rw [if_pos ((hLn _).mpr h2), e1]
    exact Rd.tuple e2 (RdAll.cons Rd.int (RdAll.cons Rd.int RdAll.nil))
end
noncomputable section
variable {w : World} {H : Heap} {O : OsState} {g g0 : GH}
theorem hits_of {A : Around} {s : Shared} {kb : List (Str × Value)} {nm : Nat → Str} {val val' : Nat → Value} : ∀ {l : List Nat}, (∀ e ∈ l, valueAt kb (nm e) = some (val' e) ∧ SeqAt.EqAt A s (val e) (val' e) true) → KeqHits A s kb (l.map fun e => (nm e, val e)) true
  | [], _ => .nil
  | e :: l, h => by
    obtain ⟨h1, h2⟩ := h e (.head _)
    exact KeqHits.hit (e := true) (b := true) h1 h2 (hits_of fun x hx => h x (.tail _ hx))
section
variable {k n : Nat} {hdl : Option Value} {X : ExcP} {env : Env} {m : LM} {nm : Nat → Str} {md tg : Nat → Nat} {L : List Nat} {v v' : Value}
theorem IsD.of {fs : List Addr} {base : GH} {s : Shared} {d : Addr} {kvs : List (Str × Value)} (h : IsD w g d kvs) (R : Rep H O fs base g s) : s.heap.DictOf (strKind P0 w) d kvs := by obtain ⟨o, e, q⟩ := h; exact Heap.dictOf_iff.mpr ⟨o, R.kg _ _ e, q⟩
set_option maxHeartbeats 1000000 in
theorem t_same {Q : Value → GH → LM → Prop} (T : Tp (KK w.params) H) (inj : ∀ i j, nm i = nm j → i = j) (hnd : L.Nodup) (hLn : ∀ p, p ∈ L ↔ p < n) (htg : ∀ p ∈ L, tg p ≤ n) (hso : ∀ e, e ≤ n → PyData.strOk (nm e) = true) (hC : ChaseRes w nm n md tg L g v) (hT : ToldRes w nm n md tg L (rdyL (lkOf md) tg L) g v') (h : Q (.bool true) g m) :
    tri w H O k hdl X env (compareOp .Eq v v') g m Q := by
  refine .mk fun A fs base s a R F => ?_
  obtain ⟨D, E, ra, ea, lo, vr, vs, b, rfl, hD, ⟨hr1, hr2, hr3⟩, ⟨val, he1, he2⟩, ⟨hl1, hl2⟩, hE, hb⟩ := hC
  obtain ⟨D', E', ra', ea', lo', vr', vs', rfl, hD', ⟨hr1', hr2', hr3'⟩, ⟨val', he1', he2'⟩, ⟨hl1', hl2'⟩, hE'⟩ := hT
  have hL : ∀ p ∈ L, p < n := fun p hp => (hLn p).mp hp
  have hu := a.units
  have hkg := R.kg
  have hle : ∀ e ∈ ordL (lkOf md) tg L, e ≤ n := ord_le hL htg
  have hrd : ∀ t, ∀ e ∈ rdyL (lkOf md) tg L t, PyData.strOk (nm e) = true := fun t e he => hso e (hle e (mem_rdy.mp he).1)
  rw [lost_eq hLn htg] at hl2
  have hvl : vs.length = vs'.length := by rw [hl2.len, hl2'.len]
  have hbb : b = decide (0 < vs'.length) := by
    rw [hl2'.len]
    rcases hb with ⟨rfl, h⟩ | ⟨rfl, h⟩
    · rw [lost_acyc hLn htg h]; rfl
    · have := lost_cyc hLn htg h
      cases q : (L.filter fun e => !(finB n md tg e)) with
      | nil => exact absurd q this
      | cons x r => rfl
  subst hbb
  have cl : cLine = 9900 := rfl
  have i1 : A.in1.units = A.units + 1 := rfl
  have eqs : ∀ {x y : Value} {d : PyData}, Rd g x d → Rd g y d → d.canLay0 = true → d.depth ≤ 10 → EqW P0 w A.in1 s x y := fun h1 h2 h3 h4 => EqW.at (rd_eq h1 h2 hkg h3 (by rw [cl, i1]; walk_at "om"))
  have q1 : EqW P0 w A.in1 s (.ref ra) (.ref ra') := by
    have r1 := Rd.list hr1 hr3.rd
    have r2 := Rd.list hr1' hr3'.rd
    rw [hr2] at r1
    rw [hr2'] at r2
    refine eqs r1 r2 (tupD_ok hrd) ?_
    show PyData.depthAll (tupD nm _ _) + 1 ≤ 10
    have := tupD_depth (nm := nm) (r := rdyL (lkOf md) tg L) (ts := List.range (n + 2))
    walk_at "om"
  have q3 : EqW P0 w A.in1 s (.ref lo) (.ref lo') := by
    refine eqs (Rd.list hl1 hl2.rd) (Rd.list hl1' hl2'.rd) (strD_ok fun e he => hso e (Nat.le_of_lt (hL e (List.mem_filter.mp he).1))) ?_
    show PyData.depthAll (strD nm _) + 1 ≤ 10
    rw [strD_depth]; decide
  have q4 : EqW P0 w A.in1 s (.ref E) (.ref E') := by
    rw [hvl] at hE
    refine eqs (Rd.list hE (rd_trues _)) (Rd.list hE' (rd_trues _)) (trues_ok _).1 ?_
    show PyData.depthAll (List.replicate _ _) + 1 ≤ 10
    rw [(trues_ok _).2]; decide
  have q2 : EqW P0 w A.in1 s (.ref ea) (.ref ea') := by
    refine el_ea (id he1) fun o1 ee1 _ => ?_
    refine el_ea (id he1') fun o2 ee2 _ => ?_
    have hmem : ∀ e, e ∈ dnL (lkOf md) tg L (n + 2) ↔ e ∈ (ordL (lkOf md) tg L).filter (finB n md tg) := fun e => by
      rw [List.mem_filter]
      constructor
      · intro h; exact ⟨dn_ord h, (fin_dn hLn htg (dn_ord h)).mpr h⟩
      · rintro ⟨h1, h2⟩; exact (fin_dn hLn htg h1).mp h2
    have hlen : (dnL (lkOf md) tg L (n + 2)).length = ((ordL (lkOf md) tg L).filter (finB n md tg)).length :=
      Nat.le_antisymm (nodup_le (dn_nodup hnd _) fun e he => (hmem e).mp he) (nodup_le (ordL_nodup.filter _) fun e he => (hmem e).mpr he)
    refine EqW.refs fun E0 Q0 hq => keq_eq (r := true) (R.notMods T ee1) (R.notMods T ee2) (he1.of R) (he1'.of R) (by rw [cl, i1]; walk_at "om") (fun _ => hits_of (val' := val') fun e he => ⟨?_, ?_⟩) ?_
    · rw [vat_map (α := Unit) inj val', if_pos ((hmem e).mp he)]
    · refine el_ea ((he2 e he).rd) fun t h1 h2 => ?_
      refine el_ea ((he2' e ((hmem e).mp he)).rd hLn) fun t' h1' h2' => ?_
      have := At.uniq h1 h1'
      subst this
      have hd := (endD_ok (md := md) (L := L) (u := itr tg t e)).2
      refine rd_eq h2 h2' hkg (endD_ok).1 ?_
      rw [cl]
      show A.units + 1 + 1 + _ < 9900
      walk_at "om"
    · rw [List.length_map, List.length_map, hlen]
      simpa using hq
  refine cmp_tuple (hD.at R) (hD'.at R) rfl (by rw [cl]; walk_at "om") (fun j h1 h2 => ?_) ⟨g, m, R, F, h⟩
  have h6 : j < 6 := h1
  match j, h6 with
  | 0, _ => exact eqs Rd.bool Rd.bool rfl (by show 0 ≤ 10; decide)
  | 1, _ => exact q1
  | 2, _ => exact q2
  | 3, _ => exact q3
  | 4, _ => exact q4
  | 5, _ => exact eqs Rd.bool Rd.bool rfl (by show 0 ≤ 10; decide)
end
end
noncomputable section
theorem band_nat (a b : Nat) : Builtin.bitAnd (a : Int) (b : Int) = ((a &&& b : Nat) : Int) := by
  rw [bitAnd_pp (Int.natCast_nonneg _) (Int.natCast_nonneg _)]; rfl
theorem and_4095 (m : Nat) : m &&& 4095 = m % 4096 := Nat.and_two_pow_sub_one_eq_mod m 12
theorem and_61440 {m : Nat} (h : m < 65536) : m &&& 61440 = m / 4096 * 4096 := by
  have e1 : m / 4096 * 4096 = (m >>> 12) <<< 12 := by rw [Nat.shiftRight_eq_div_pow, Nat.shiftLeft_eq]
  have e2 : (61440 : Nat) = 15 <<< 12 := rfl
  rw [e1, e2]
  refine Nat.eq_of_testBit_eq fun i => ?_
  rw [Nat.testBit_and, Nat.testBit_shiftLeft, Nat.testBit_shiftLeft, Nat.testBit_shiftRight]
  by_cases c : 12 ≤ i
  · simp only [c, decide_true, Bool.true_and, ge_iff_le]
    have e3 : 12 + (i - 12) = i := by walk_at "om"
    rw [e3]
    by_cases c2 : i < 16
    · have : Nat.testBit 15 (i - 12) = true := by
        have h4 : i - 12 < 4 := by walk_at "om"
        match i - 12, h4 with
        | 0, _ => rfl
        | 1, _ => rfl
        | 2, _ => rfl
        | 3, _ => rfl
      rw [this, Bool.and_true]
    · have : Nat.testBit m i = false := Nat.testBit_lt_two_pow (Nat.lt_of_lt_of_le h (by
        have : (65536 : Nat) = 2 ^ 16 := rfl
        rw [this]
        exact Nat.pow_le_pow_right (by decide) (by walk_at "om")))
      rw [this]; rfl
  · simp [c]
theorem mdOk_of {md : Nat → Nat} {L : List Nat} (h : ∀ p ∈ L, md p < 65536) : MdOk md L :=
  ⟨fun p hp => by rw [show (61440 : Int) = ((61440 : Nat) : Int) from rfl, band_nat, and_61440 (h p hp)], fun p hp => by rw [show (4095 : Int) = ((4095 : Nat) : Int) from rfl, band_nat, and_4095]⟩
def hb (m b : Nat) : Bool := Builtin.bitAnd (m : Int) (b : Int) == (b : Int)
theorem hb_eq {m b : Nat} : hb m b = decide (m &&& b = b) := by
  unfold hb
  rw [band_nat, Bool.eq_iff_iff]
  simp only [beq_iff_eq, decide_eq_true_eq]
  walk_at "om"
theorem hb_pow {m j : Nat} : hb m (2 ^ j) = decide (m / 2 ^ j % 2 = 1) := by
  rw [hb_eq, Bool.eq_iff_iff]
  simp only [decide_eq_true_eq]
  have this : m.testBit j = decide (m / 2 ^ j % 2 = 1) := Nat.testBit_eq_decide_div_mod_eq
  constructor
  · intro q
    have h1 := congrArg (fun x => Nat.testBit x j) q
    simp only [Nat.testBit_and, Nat.testBit_two_pow_self, Bool.and_true] at h1
    rw [this] at h1
    simpa using h1
  · intro q
    have h2 : m.testBit j = true := by rw [this]; simpa using q
    refine Nat.eq_of_testBit_eq fun i => ?_
    rw [Nat.testBit_and, Nat.testBit_two_pow]
    by_cases c : j = i
    · subst c; simp [h2]
    · simp [c]
theorem hb_or {m a b : Nat} (h : (a ||| b) &&& a = a) (h' : (a ||| b) &&& b = b) : hb m (a ||| b) = (hb m a && hb m b) := by
  rw [hb_eq, hb_eq, hb_eq, Bool.eq_iff_iff]
  simp only [Bool.and_eq_true, decide_eq_true_eq]
  constructor
  · intro q
    refine ⟨?_, ?_⟩
    · have : (m &&& (a ||| b)) &&& a = m &&& a := by rw [Nat.and_assoc, h]
      rw [← this, q, h]
    · have : (m &&& (a ||| b)) &&& b = m &&& b := by rw [Nat.and_assoc, h']
      rw [← this, q, h']
  · rintro ⟨q1, q2⟩
    rw [Nat.and_or_distrib_left, q1, q2]
end
noncomputable section
def ch1 (c : Nat) : Str := ⟨#[c]⟩
theorem len1 {y : Str} (h : y.length = 1) : y = ch1 (y.cps.getD 0 0) := by
  obtain ⟨⟨l⟩⟩ := y
  match l, h with
  | [c], _ => rfl
theorem join_codes : ∀ cs : List Nat, Txt.join Str.empty (cs.map ch1) = ⟨cs.toArray⟩ := by
  intro cs
  show Builtin.Str.glued Str.empty (cs.map ch1) = _
  rw [StrLaws.glued_eq_join]
  induction cs with
  | nil => rfl
  | cons c cs ih =>
    cases cs with
    | nil => rfl
    | cons d cs =>
      show ch1 c ++ Str.empty ++ Str.join Str.empty ((d :: cs).map ch1) = _
      rw [ih]
      show (⟨_⟩ : Str) = ⟨_⟩
      rw [show ch1 c ++ Str.empty = ch1 c from rfl]
      congr 1
      simp [ch1]
theorem item_codes {cs : List Nat} {i : Nat} {c : Nat} (h : cs[i]? = some c) : Txt.item ⟨cs.toArray⟩ (i : Int) = ch1 c := by
  have hl := (List.getElem?_eq_some_iff.mp h).1
  unfold Txt.item Txt.charAt
  have e : seqIndex? (i : Int) (⟨cs.toArray⟩ : Str).length = some i := by
    unfold seqIndex?
    have : (⟨cs.toArray⟩ : Str).length = cs.length := by simp [Str.length]
    rw [this]
    simp; rw [if_neg (Int.not_lt.mpr (Int.natCast_nonneg _))]; exact ⟨⟨Int.natCast_nonneg _, Int.ofNat_lt.mpr hl⟩, rfl⟩
  rw [e]
  simp [ch1, h]
theorem fmS_codes (m : Int) : fmS m = ⟨((List.range 10).map fun i => (fmCh m i).cps.getD 0 0).toArray⟩ := by
  unfold fmS
  rw [← join_codes, List.map_map]
  congr 1
  exact List.map_congr_left fun i _ => len1 (fmCh_len m i)
theorem item_fmS {m : Int} {i : Nat} (h : i < 10) : Txt.item (fmS m) (i : Int) = fmCh m i := by
  rw [fmS_codes, item_codes (c := (fmCh m i).cps.getD 0 0) (by simp [h])]
  exact (len1 (fmCh_len m i)).symm
theorem fmS_len (m : Int) : (fmS m).length = 10 := by rw [fmS_codes]; simp [Str.length]
theorem fmCh_one {m b i : Nat} {c : Str} (hi : i ≠ 0) (h : fmRow i = [(((b : Nat) : Int), c)]) : fmCh m i = if hb m b then c else Str.ofString "-" := by
  unfold fmCh
  rw [h, List.find?_cons]
  have : fmHit i m (((b : Nat) : Int), c) = hb m b := by unfold fmHit hb; rw [if_neg hi]
  rw [this]
  cases hb m b
  · simp [hi]
  · rfl
theorem fmCh_three {m a b i : Nat} {c1 c2 c3 : Str} (hi : i ≠ 0) (h : fmRow i = [(((a ||| b : Nat) : Int), c1), (((b : Nat) : Int), c2), (((a : Nat) : Int), c3)]) (h1 : (a ||| b) &&& a = a) (h2 : (a ||| b) &&& b = b) : fmCh m i = if hb m a && hb m b then c1 else if hb m b then c2 else if hb m a then c3 else Str.ofString "-" := by
  unfold fmCh
  rw [h]
  have e1 : fmHit i m (((a ||| b : Nat) : Int), c1) = (hb m a && hb m b) := by rw [← hb_or h1 h2]; unfold fmHit hb; rw [if_neg hi]
  have e2 : fmHit i m (((b : Nat) : Int), c2) = hb m b := by unfold fmHit hb; rw [if_neg hi]
  have e3 : fmHit i m (((a : Nat) : Int), c3) = hb m a := by unfold fmHit hb; rw [if_neg hi]
  simp only [List.find?_cons, e1, e2, e3, List.find?_nil]
  cases hb m a <;> cases hb m b <;> simp [hi]
def bt (m j : Nat) : Nat := m / 2 ^ j % 2
theorem bt_cases (m j : Nat) : bt m j = 0 ∨ bt m j = 1 := by unfold bt; walk_at "om"
theorem hb_bt {m j : Nat} : hb m (2 ^ j) = decide (bt m j = 1) := hb_pow
theorem occ_one {m j i : Nat} {c : Str} {key : Str} (hi : i ≠ 0) (h : fmRow i = [((((2 ^ j : Nat)) : Int), c)]) (h0 : occ1 key (Str.ofString "-") 0) (h1 : occ1 key c 1) : occ1 key (fmCh m i) (bt m j) := by
  rw [fmCh_one hi h, hb_bt]
  rcases bt_cases m j with q | q
  · rw [q]; exact h0
  · rw [q]; exact h1
theorem occ_three {m j j' i : Nat} {c1 c2 c3 key : Str} (hi : i ≠ 0) (h : fmRow i = [(((2 ^ j ||| 2 ^ j' : Nat) : Int), c1), (((2 ^ j' : Nat) : Int), c2), (((2 ^ j : Nat) : Int), c3)]) (e1 : (2 ^ j ||| 2 ^ j') &&& 2 ^ j = 2 ^ j) (e2 : (2 ^ j ||| 2 ^ j') &&& 2 ^ j' = 2 ^ j') (h0 : occ1 key (Str.ofString "-") 0) (h1 : occ1 key c3 1) (h2 : occ1 key c2 2) (h3 : occ1 key c1 3) : occ1 key (fmCh m i) (bt m j + 2 * bt m j') := by
  rw [fmCh_three hi h e1 e2, hb_bt, hb_bt]
  rcases bt_cases m j with q | q <;> rcases bt_cases m j' with q' | q' <;> rw [q, q']
  · exact h0
  · exact h2
  · exact h1
  · exact h3
def kinds7 (K : Nat) : Prop := K = 1 ∨ K = 2 ∨ K = 4 ∨ K = 6 ∨ K = 8 ∨ K = 10 ∨ K = 12
theorem occ_kind {m K : Nat} (hm : m < 65536) (hK : m / 4096 = K) (h : kinds7 K) : occ1 (Str.ofString "?pc?d?b?-?l?s") (fmCh m 0) K := by
  have e : ∀ b : Int, fmHit 0 m (b, Str.empty) = ((K * 4096 : Nat) == b) := fun b => by
    unfold fmHit
    rw [if_pos rfl, show (61440 : Int) = ((61440 : Nat) : Int) from rfl, band_nat, and_61440 hm, hK]
  have e2 : ∀ p : Int × Str, fmHit 0 m p = (((K * 4096 : Nat) : Int) == p.1) := fun p => e p.1
  unfold fmCh
  rw [show (fmRow 0).find? (fmHit 0 (m : Int)) = (fmRow 0).find? (fun p => ((K * 4096 : Nat) : Int) == p.1) from congrArg (fun f => (fmRow 0).find? f) (funext e2)]
  rcases h with rfl | rfl | rfl | rfl | rfl | rfl | rfl <;> exact ⟨[], by decide +kernel⟩
theorem occ_of {key x : Str} {i : Nat} (h : Builtin.Str.occurrences key x 0 key.length 1 = [i]) : occ1 key x i := ⟨[], h⟩
theorem reads_r {m : Nat} : ∀ {p : Nat}, p < 3 → occ1 (Str.ofString "-r") (fmCh m (1 + 3 * p)) (bt m (8 - 3 * p))
  | 0, _ => occ_one (j := 8) (by decide) rfl (occ_of (by decide +kernel)) (occ_of (by decide +kernel))
  | 1, _ => occ_one (j := 5) (by decide) rfl (occ_of (by decide +kernel)) (occ_of (by decide +kernel))
  | 2, _ => occ_one (j := 2) (by decide) rfl (occ_of (by decide +kernel)) (occ_of (by decide +kernel))
theorem reads_v {m : Nat} : ∀ {p : Nat}, p < 3 → occ1 (Str.ofString "-w") (fmCh m (2 + 3 * p)) (bt m (7 - 3 * p))
  | 0, _ => occ_one (j := 7) (by decide) rfl (occ_of (by decide +kernel)) (occ_of (by decide +kernel))
  | 1, _ => occ_one (j := 4) (by decide) rfl (occ_of (by decide +kernel)) (occ_of (by decide +kernel))
  | 2, _ => occ_one (j := 1) (by decide) rfl (occ_of (by decide +kernel)) (occ_of (by decide +kernel))
theorem reads_l {m : Nat} : ∀ {p : Nat}, p < 3 → occ1 (rdL p) (fmCh m (3 + 3 * p)) (bt m (6 - 3 * p) + 2 * bt m (11 - p))
  | 0, _ => occ_three (j := 6) (j' := 11) (by decide) rfl (by decide) (by decide) (occ_of (by decide +kernel)) (occ_of (by decide +kernel)) (occ_of (by decide +kernel)) (occ_of (by decide +kernel))
  | 1, _ => occ_three (j := 3) (j' := 10) (by decide) rfl (by decide) (by decide) (occ_of (by decide +kernel)) (occ_of (by decide +kernel)) (occ_of (by decide +kernel)) (occ_of (by decide +kernel))
  | 2, _ => occ_three (j := 0) (j' := 9) (by decide) rfl (by decide) (by decide) (occ_of (by decide +kernel)) (occ_of (by decide +kernel)) (occ_of (by decide +kernel)) (occ_of (by decide +kernel))
theorem reads_fm {m K : Nat} (hm : m < 65536) (hK : m / 4096 = K) (h : kinds7 K) : Reads (fmS m) K (fun p => bt m (8 - 3 * p)) (fun p => bt m (7 - 3 * p)) (fun p => bt m (6 - 3 * p) + 2 * bt m (11 - p)) := by
  refine ⟨fmS_len _, ?_, fun p hp => ?_, fun p hp => ?_, fun p hp => ⟨?_, ?_⟩⟩
  · have := item_fmS (m := m) (i := 0) (by decide)
    rw [show ((0 : Nat) : Int) = 0 from rfl] at this
    rw [this]; exact occ_kind hm hK h
  · have := item_fmS (m := m) (i := 1 + 3 * p) (by walk_at "om")
    rw [show (((1 + 3 * p : Nat)) : Int) = 1 + 3 * (p : Int) by walk_at "om"] at this
    rw [this]; exact reads_r hp
  · have := item_fmS (m := m) (i := 2 + 3 * p) (by walk_at "om")
    rw [show (((2 + 3 * p : Nat)) : Int) = 2 + 3 * (p : Int) by walk_at "om"] at this
    rw [this]; exact reads_v hp
  · have := item_fmS (m := m) (i := 3 + 3 * p) (by walk_at "om")
    rw [show (((3 + 3 * p : Nat)) : Int) = 3 + 3 * (p : Int) by walk_at "om"] at this
    rw [this]; exact reads_l hp
  · rcases bt_cases m (6 - 3 * p) with q | q <;> rcases bt_cases m (11 - p) with q' | q' <;> rw [q, q'] <;> decide
theorem rd_term {a b c d j k : Nat} {e : Int} (ha : c ≤ 1) (hd : d ≤ 1) : ((((a : Int) * 4 + (b : Int) * 2) + Int.fmod ((c + 2 * d : Nat) : Int) 2) * e + Int.fdiv ((c + 2 * d : Nat) : Int) 2 * (k : Int)) = ((a : Int) * 4 + b * 2 + c) * e + d * k := by
  have e1 : Int.fmod ((c + 2 * d : Nat) : Int) 2 = (c : Int) := by
    have := fmod_nat (c + 2 * d) 2
    rw [show ((2 : Nat) : Int) = 2 from rfl] at this
    rw [this]; walk_at "om"
  have e2 : Int.fdiv ((c + 2 * d : Nat) : Int) 2 = (d : Int) := by
    have := fdiv_nat (c + 2 * d) 2
    rw [show ((2 : Nat) : Int) = 2 from rfl] at this
    rw [this]; walk_at "om"
  rw [e1, e2]
theorem bits_step (m k : Nat) : m % 2 ^ (k + 1) = 2 ^ k * bt m k + m % 2 ^ k := by
  rw [Nat.pow_succ, Nat.mod_mul, Nat.add_comm]; rfl
theorem bits12 (m : Nat) : m % 4096 = bt m 0 + 2 * bt m 1 + 4 * bt m 2 + 8 * bt m 3 + 16 * bt m 4 + 32 * bt m 5 + 64 * bt m 6 + 128 * bt m 7 + 256 * bt m 8 + 512 * bt m 9 + 1024 * bt m 10 + 2048 * bt m 11 := by
  have h : m % 2 ^ 12 = 2 ^ 11 * bt m 11 + (2 ^ 10 * bt m 10 + (2 ^ 9 * bt m 9 + (2 ^ 8 * bt m 8 + (2 ^ 7 * bt m 7 + (2 ^ 6 * bt m 6 + (2 ^ 5 * bt m 5 + (2 ^ 4 * bt m 4 + (2 ^ 3 * bt m 3 + (2 ^ 2 * bt m 2 + (2 ^ 1 * bt m 1 + (2 ^ 0 * bt m 0 + m % 2 ^ 0))))))))))) := by
    rw [← bits_step, ← bits_step, ← bits_step, ← bits_step, ← bits_step, ← bits_step, ← bits_step, ← bits_step, ← bits_step, ← bits_step, ← bits_step, ← bits_step]
  rw [Nat.pow_zero, Nat.mod_one] at h
  refine h.trans ?_
  simp only [Nat.reducePow, Nat.one_mul, Nat.add_zero]
  ac_rfl
theorem rdI_fm {m K : Nat} (hK : m / 4096 = K) : rdI K (fun p => bt m (8 - 3 * p)) (fun p => bt m (7 - 3 * p)) (fun p => bt m (6 - 3 * p) + 2 * bt m (11 - p)) 3 = (m : Nat) := by
  have hb : ∀ j, bt m j ≤ 1 := fun j => by rcases bt_cases m j with q | q <;> walk_at "om"
  have h12 := bits12 m
  unfold rdI rdI rdI rdI
  rw [show Int.fdiv 2048 (2 ^ ((0 : Nat) : Int).toNat) = ((2048 : Nat) : Int) from rfl, show Int.fdiv 2048 (2 ^ ((1 : Nat) : Int).toNat) = ((1024 : Nat) : Int) from rfl, show Int.fdiv 2048 (2 ^ ((2 : Nat) : Int).toNat) = ((512 : Nat) : Int) from rfl]
  rw [rd_term (j := 0) (hb _) (hb _), rd_term (j := 0) (hb _) (hb _), rd_term (j := 0) (hb _) (hb _)]
  rw [show (8 : Int) ^ ((2 : Int) - ((0 : Nat) : Int)).toNat = 64 from rfl, show (8 : Int) ^ ((2 : Int) - ((1 : Nat) : Int)).toNat = 8 from rfl, show (8 : Int) ^ ((2 : Int) - ((2 : Nat) : Int)).toNat = 1 from rfl]
  simp only [Nat.mul_zero, Nat.mul_one, Nat.reduceMul, Nat.sub_zero, Nat.reduceSub]
  walk_at "om"
end
noncomputable section
theorem range_pick {α : Type} (l : List α) : ∀ k : Nat, (List.range k).filterMap (l[·]?) = l.take k
  | 0 => by simp
  | k + 1 => by
    rw [List.range_succ, List.filterMap_append, range_pick l k, List.take_add_one]
    congr 1
theorem range_pick2 {α : Type} (l : List α) (a k : Nat) : ((List.range k).map (a + ·)).filterMap (l[·]?) = (l.drop a).take k := by
  rw [List.filterMap_map, ← range_pick]
  congr 1
  funext i
  simp [List.getElem?_drop]
theorem arr_pick (x : Str) (is : List Nat) : is.filterMap (x.cps[·]?) = is.filterMap (x.cps.toList[·]?) := by
  congr 1; funext i; simp
theorem slice_take (x : Str) (n : Nat) : Txt.slice x none (some (n : Int)) = ⟨(x.cps.toList.take n).toArray⟩ := by
  have e : Builtin.Str.strSliceIndices none (some (n : Int)) 1 x.length = (List.range (min n x.length)).map (0 + ·) := by
    unfold Builtin.Str.strSliceIndices
    have := sliceRange_one 0 (min n x.length)
    simp only [show (1 : Int) > 0 by decide, if_true]
    rw [if_neg (by walk_at "om")]
    rw [show max 0 (min (n : Int) (x.length : Int)) = ((min n x.length : Nat) : Int) by walk_at "om"]
    exact this
  have e2 : (Builtin.Str.strSliceIndices none (some (n : Int)) 1 x.length).filterMap (x.cps[·]?) = x.cps.toList.take n := by
    rw [e, arr_pick, range_pick2, List.drop_zero]
    rw [List.take_eq_take_iff]
    have : x.cps.toList.length = x.length := by simp [Str.length]
    rw [this, Nat.min_assoc, Nat.min_self]
  unfold Txt.slice
  split
  · rename_i h
    have hl : min n x.length = x.length := by
      rw [e] at h
      simpa using h
    rw [List.take_of_length_le (by have : x.cps.toList.length = x.length := by simp [Str.length]
                                   walk_at "om")]
  · rw [e2]
theorem slice_drop (x : Str) (n : Nat) (hn : n ≤ x.length) : Txt.slice x (some (n : Int)) none = ⟨(x.cps.toList.drop n).toArray⟩ := by
  have hx : x.cps.toList.length = x.length := by simp [Str.length]
  have e : Builtin.Str.strSliceIndices (some (n : Int)) none 1 x.length = (List.range (x.length - n)).map (n + ·) := by
    unfold Builtin.Str.strSliceIndices
    have := sliceRange_one n x.length
    simp only [show (1 : Int) > 0 by decide, if_true]
    rw [if_neg (by walk_at "om")]
    rw [show max 0 (min (n : Int) (x.length : Int)) = (n : Int) by walk_at "om"]
    exact this
  have e2 : (Builtin.Str.strSliceIndices (some (n : Int)) none 1 x.length).filterMap (x.cps[·]?) = x.cps.toList.drop n := by
    rw [e, arr_pick, range_pick2, List.take_of_length_le (by rw [List.length_drop]; walk_at "om")]
  unfold Txt.slice
  split
  · rename_i h
    rw [e] at h
    have : n = 0 := by simp at h; walk_at "om"
    subst this
    simp
  · rw [e2]
theorem cps_append (a b : Str) : (a ++ b).cps.toList = a.cps.toList ++ b.cps.toList := by
  show (a.cps ++ b.cps).toList = _
  simp
theorem str_ext {a b : Str} (h : a.cps.toList = b.cps.toList) : a = b := by
  obtain ⟨⟨x⟩⟩ := a
  obtain ⟨⟨y⟩⟩ := b
  simp at h
  subst h; rfl
abbrev arr : Str := sN " -> "
theorem arr_list : arr.cps.toList = [32, 45, 62, 32] := by decide +kernel
theorem arr_at {x : Str} {k hi : Nat} (h : StrLaws.At x arr hi k) : x.cps.toList[k + 2]? = some 62 := by
  have h2 := h.2
  rw [StrLaws.subAt_eq] at h2
  have e : (x.cps.toList.drop k).take arr.length = arr.cps.toList := by simpa using h2
  rw [arr_list] at e
  have e2 : ((x.cps.toList.drop k).take arr.length)[2]? = ([32, 45, 62, 32] : List Nat)[2]? := by rw [e]
  rw [List.getElem?_take_of_lt (by decide +kernel), List.getElem?_drop] at e2
  simpa using e2
theorem kind_arr (x : Str) : decide (Builtin.Str.strKind x < Builtin.Str.strKind arr) = false := by
  have : Builtin.Str.strKind arr = 1 := by decide +kernel
  have h2 : 1 ≤ Builtin.Str.strKind x := by
    unfold Builtin.Str.strKind
    split
    · exact Nat.le_refl _
    · split <;> decide
  simp only [this, decide_eq_false_iff_not]
  walk_at "om"
theorem arr_len : arr.length = 4 := by decide +kernel
theorem split_one {x : Str} (h : 62 ∉ x.cps.toList) : Txt.split x arr = [x] := by
  have hno : ∀ i, ¬ StrLaws.At x arr x.length i := fun i hi => h (List.mem_of_getElem? (arr_at hi))
  have ho : Builtin.Str.occurrences x arr 0 x.length (x.length + 1) = [] := by
    refine List.eq_nil_iff_forall_not_mem.mpr fun i hi => hno i ?_
    exact StrLaws.occ_spec x arr 0 x.length (x.length + 1) i hi
  unfold Txt.split
  split
  · rfl
  · rw [ho]; rfl
theorem split_two {a b : Str} (ha : 62 ∉ a.cps.toList) (hb : 62 ∉ b.cps.toList) : Txt.split (a ++ arr ++ b) arr = [a, b] := by
  have hx : (a ++ arr ++ b).cps.toList = a.cps.toList ++ [32, 45, 62, 32] ++ b.cps.toList := by rw [cps_append, cps_append, arr_list]
  have hal : a.cps.toList.length = a.length := by simp [Str.length]
  have hbl : b.cps.toList.length = b.length := by simp [Str.length]
  have hxl : (a ++ arr ++ b).length = a.length + 4 + b.length := by
    have : (a ++ arr ++ b).cps.toList.length = (a ++ arr ++ b).length := by simp [Str.length]
    rw [← this, hx]; simp only [List.length_append, List.length_cons, List.length_nil, hal, hbl]
  generalize hxx : a ++ arr ++ b = x at hx hxl
  have huniq : ∀ i, StrLaws.At x arr x.length i → i = a.length := fun i hi => by
    have h1 := arr_at hi
    rw [hx] at h1
    rcases Nat.lt_or_ge (i + 2) a.length with q | q
    · rw [List.append_assoc, List.getElem?_append_left (by walk_at "om")] at h1
      exact absurd (List.mem_of_getElem? h1) ha
    · rcases Nat.lt_or_ge (i + 2) (a.length + 4) with q2 | q2
      · rw [List.append_assoc, List.getElem?_append_right (by walk_at "om"), hal] at h1
        rw [List.getElem?_append_left (by simp; walk_at "om")] at h1
        obtain ⟨d, hd⟩ : ∃ d, i + 2 - a.length = d := ⟨_, rfl⟩
        rw [hd] at h1
        have hd4 : d < 4 := by walk_at "om"
        match d, hd4 with
        | 0, _ => simp at h1
        | 1, _ => simp at h1
        | 2, _ => walk_at "om"
        | 3, _ => simp at h1
      · rw [List.getElem?_append_right (by simp only [List.length_append, List.length_cons, List.length_nil, hal]; walk_at "om")] at h1
        exact absurd (List.mem_of_getElem? h1) hb
  have hat : StrLaws.At x arr x.length a.length := by
    refine ⟨by rw [arr_len, hxl]; walk_at "om", ?_⟩
    rw [StrLaws.subAt_eq, hx, arr_len, arr_list, List.append_assoc, List.drop_left' hal]
    rfl
  obtain ⟨f, hc, hf⟩ := StrLaws.occ_tight x arr (by rw [arr_len]; decide)
  have ho : Builtin.Str.occurrences x arr 0 x.length (x.length + 1) = [a.length] := by
    cases q : Builtin.Str.occurrences x arr 0 x.length (x.length + 1) with
    | nil =>
      rw [q] at hc
      have : f = 0 := hc
      exact absurd hat (hf _ (by walk_at "om"))
    | cons c r =>
      rw [q] at hc
      have hca := huniq c hc.2.1
      subst hca
      cases r with
      | nil => rfl
      | cons d r =>
        have h2 := hc.2.2.2
        have := huniq d h2.2.1
        have h3 := h2.1
        rw [arr_len] at h3
        walk_at "om"
  unfold Txt.split
  rw [if_neg]
  · rw [ho]
    simp only [List.isEmpty_cons, Bool.false_eq_true, if_false]
    unfold Builtin.Str.partsBetween
    simp only [List.map_cons, List.map_nil, List.singleton_append, List.zip_cons_cons, List.zip_nil_right, List.cons.injEq, and_true]
    refine ⟨str_ext ?_, str_ext ?_⟩
    · rw [StrLaws.strSub_toList, hx, List.drop_zero, Nat.sub_zero, List.append_assoc, List.take_left' hal]
    · rw [StrLaws.strSub_toList, hx, arr_len, hxl, List.drop_left' (by simp only [List.length_append, List.length_cons, List.length_nil, hal]), List.take_of_length_le (by walk_at "om")]
  · rw [kind_arr, Bool.or_false, decide_eq_true_eq, arr_len, hxl]; walk_at "om"
end
noncomputable section
def dgS (i : Nat) : Str := (toString ((i : Nat) : Int) : String)
def preS : Nat → Str
  | 0 => sN ""
  | 1 => sN " "
  | 2 => sN "é"
  | 3 => sN "-"
  | _ => sN "."
def nmS (W : Nat → Nat) (n i : Nat) : Str := if i < n then preS (W i / 11 % 5) ++ dgS i else if i = n then sN "gone" else ⟨(List.replicate (i + 5) 122).toArray⟩
def digs (x : Str) : List Nat := x.cps.toList.filter fun c => decide (48 ≤ c) && decide (c ≤ 57)
theorem dig_name : ∀ i, i < 10 → ∀ k, k < 5 → digs (preS k ++ dgS i) = [48 + i] := by decide +kernel
theorem name_ok : ∀ i, i < 10 → ∀ k, k < 5 → (decide (62 ∈ (preS k ++ dgS i).cps.toList) = false ∧ (preS k ++ dgS i).length ≤ 20 ∧ PyData.strOk (preS k ++ dgS i) = true) := by decide +kernel
theorem name_repr : ∀ i, i < 10 → ∀ k, k < 5 → (reprText (preS k ++ dgS i)).length ≤ 1000 := by decide +kernel
theorem name_lt {W : Nat → Nat} {n i : Nat} (h : i < n) : nmS W n i = preS (W i / 11 % 5) ++ dgS i := by unfold nmS; rw [if_pos h]
theorem name_gone {W : Nat → Nat} {n : Nat} : nmS W n n = sN "gone" := by unfold nmS; rw [if_neg (Nat.lt_irrefl n), if_pos rfl]
theorem name_big {W : Nat → Nat} {n i : Nat} (h : n < i) : nmS W n i = ⟨(List.replicate (i + 5) 122).toArray⟩ := by unfold nmS; rw [if_neg (by walk_at "om"), if_neg (by walk_at "om")]
theorem digs_big {i : Nat} : digs ⟨(List.replicate (i + 5) 122).toArray⟩ = [] := by
  unfold digs
  rw [List.filter_eq_nil_iff]
  intro x hx
  have hx : x ∈ List.replicate (i + 5) 122 := hx
  have : x = 122 := (List.mem_replicate.mp hx).2
  subst this; decide
theorem nm_inj {W : Nat → Nat} {n : Nat} (hn : n ≤ 10) : ∀ i j, nmS W n i = nmS W n j → i = j := by
  have hlt : ∀ i, i < n → digs (nmS W n i) = [48 + i] := fun i h => by rw [name_lt h]; exact dig_name i (by walk_at "om") _ (Nat.mod_lt _ (by decide))
  have hgone : digs (nmS W n n) = [] := by rw [name_gone]; decide +kernel
  have hbig : ∀ i, n < i → digs (nmS W n i) = [] := fun i h => by rw [name_big h]; exact digs_big
  have hge : ∀ i, n ≤ i → digs (nmS W n i) = [] := fun i h => by
    rcases Nat.lt_or_eq_of_le h with q | q
    · exact hbig i q
    · subst q; exact hgone
  have hlen : ∀ i, n < i → (nmS W n i).length = i + 5 := fun i h => by rw [name_big h]; simp [Str.length]
  have hglen : (nmS W n n).length = 4 := by rw [name_gone]; decide +kernel
  intro i j h
  rcases Nat.lt_or_ge i n with q | q <;> rcases Nat.lt_or_ge j n with q' | q'
  · have := hlt i q; rw [h, hlt j q'] at this; simp at this; walk_at "om"
  · have := hlt i q; rw [h, hge j q'] at this; cases this
  · have := hlt j q'; rw [← h, hge i q] at this; cases this
  · rcases Nat.lt_or_eq_of_le q with a | a <;> rcases Nat.lt_or_eq_of_le q' with b | b
    · have := hlen i a; rw [h, hlen j b] at this; walk_at "om"
    · subst b; have := hlen i a; rw [h, hglen] at this; walk_at "om"
    · subst a; have := hlen j b; rw [← h, hglen] at this; walk_at "om"
    · walk_at "om"
theorem nm_ok {W : Nat → Nat} {n i : Nat} (hn : n ≤ 10) (hi : i ≤ n) : 62 ∉ (nmS W n i).cps.toList ∧ (nmS W n i).length ≤ 20 ∧ PyData.strOk (nmS W n i) = true := by
  rcases Nat.lt_or_eq_of_le hi with q | q
  · rw [name_lt q]
    refine el_aa (name_ok i (by walk_at "om") (W i / 11 % 5) (Nat.mod_lt _ (by decide))) fun h1 h2 h3 => ?_
    exact ⟨by simpa using h1, h2, h3⟩
  · subst q
    rw [name_gone]
    decide +kernel
theorem nm_repr {W : Nat → Nat} {n i : Nat} (hn : n ≤ 10) (hi : i < n) : (reprText (nmS W n i)).length ≤ 1000 := by
  rw [name_lt hi]; exact name_repr i (by walk_at "om") _ (Nat.mod_lt _ (by decide))
def arrowS (nm : Nat → Str) (md tg : Nat → Nat) (p : Nat) : Str := if lkOf md p then arr ++ nm (tg p) else sN ""
def rowS (nm : Nat → Str) (md tg : Nat → Nat) (p : Nat) : Str := fmS (md p : Nat) ++ sN " " ++ nm p ++ arrowS nm md tg p
theorem row_ok {W md tg : Nat → Nat} {n p : Nat} (hn : n ≤ 10) (hp : p < n) (ht : tg p ≤ n) (hm : md p < 65536) (hk : kinds7 (md p / 4096)) : RowOk (nmS W n) md (lkOf md) tg (rowS (nmS W n) md tg p) p := by
  refine el_aa (nm_ok (W := W) hn (Nat.le_of_lt hp)) fun o1 o2 o3 => ?_
  refine el_aa (nm_ok (W := W) hn ht) fun t1 t2 t3 => ?_
  have hlenE : ∀ x : Str, x.cps.toList.length = x.length := fun x => by simp [Str.length]
  have hfl := fmS_len ((md p : Nat) : Int)
  have hcp : (rowS (nmS W n) md tg p).cps.toList = (fmS (md p : Nat)).cps.toList ++ ([32] ++ ((nmS W n p).cps.toList ++ (arrowS (nmS W n) md tg p).cps.toList)) := by
    unfold rowS
    rw [cps_append, cps_append, cps_append, show (sN " ").cps.toList = [32] by decide +kernel]
    simp only [List.append_assoc]
  have harl : (arrowS (nmS W n) md tg p).length ≤ 24 := by
    unfold arrowS
    split
    · have : (arr ++ nmS W n (tg p)).length = arr.length + (nmS W n (tg p)).length := by rw [← hlenE, cps_append, List.length_append, hlenE, hlenE]
      rw [this, arr_len]; walk_at "om"
    · have : (sN "").length = 0 := by decide +kernel
      walk_at "om"
  have hrl : (rowS (nmS W n) md tg p).length = 10 + (1 + ((nmS W n p).length + (arrowS (nmS W n) md tg p).length)) := by
    rw [← hlenE, hcp]
    simp only [List.length_append, List.length_cons, List.length_nil, hlenE, hfl]
  have htake : Txt.slice (rowS (nmS W n) md tg p) none (some 10) = fmS (md p : Nat) := by
    have := slice_take (rowS (nmS W n) md tg p) 10
    rw [show ((10 : Nat) : Int) = 10 from rfl] at this
    rw [this, hcp, List.take_left' (by rw [hlenE, hfl])]
  have hdrop : Txt.slice (rowS (nmS W n) md tg p) (some 11) none = nmS W n p ++ arrowS (nmS W n) md tg p := by
    have := slice_drop (rowS (nmS W n) md tg p) 11 (by rw [hrl]; walk_at "om")
    rw [show ((11 : Nat) : Int) = 11 from rfl] at this
    rw [this, hcp, ← List.append_assoc, List.drop_left' (by simp only [List.length_append, List.length_cons, List.length_nil, hlenE, hfl])]
    refine str_ext ?_
    rw [cps_append]
  refine ⟨by rw [hrl]; walk_at "om", ?_, ?_⟩
  · rw [hdrop]
    show Txt.split _ arr = _
    unfold arrowS gp
    cases lkOf md p
    · simp only [Bool.false_eq_true, if_false, List.map_nil]
      have : nmS W n p ++ sN "" = nmS W n p := str_ext (by rw [cps_append, show (sN "").cps.toList = [] by decide +kernel, List.append_nil])
      rw [this]; exact split_one o1
    · simp only [if_true, List.map_cons, List.map_nil]
      have : nmS W n p ++ (arr ++ nmS W n (tg p)) = nmS W n p ++ arr ++ nmS W n (tg p) := str_ext (by simp only [cps_append, List.append_assoc])
      rw [this]; exact split_two o1 t1
  · rw [htake]
    exact ⟨_, _, _, _, reads_fm hm rfl hk, rdI_fm rfl⟩
end
noncomputable section
variable {w : World} {H : Heap} {O : OsState} {g g0 : GH}
def kdS (i : Nat) : Nat := [10, 8, 10, 4, 10, 1, 10, 12, 10, 2, 10, 6].getD i 0
def mdS (W : Nat → Nat) (i : Nat) : Nat := kdS (W i / 7 % 12) * 4096 + W i / 5 % 4096
def tgS (W : Nat → Nat) (n i : Nat) : Nat := W i / 84 % (n + 1)
section
variable {L0 wa na ma ta aa la : Addr} {k n : Nat} {W : Nat → Nat} {m : LM}
noncomputable abbrev lwEnv (L : Addr) : Env := callEnvC fd243 L 243
theorem pre_at {j : Nat} (hj : j < 5) (a b c d e : Tok) : ∃ t, [Value.str (sN "") a, .str (sN " ") b, .str (sN "é") c, .str (sN "-") d, .str (sN ".") e][j]? = some (.str (preS j) t) := by
  match j, hj with
  | 0, _ => exact ⟨a, rfl⟩
  | 1, _ => exact ⟨b, rfl⟩
  | 2, _ => exact ⟨c, rfl⟩
  | 3, _ => exact ⟨d, rfl⟩
  | 4, _ => exact ⟨e, rfl⟩
set_option maxHeartbeats 1000000 in
theorem lw_names (T : Tp (KK w.params) H) (hn : n ≤ 10) (hW : IL g wa n W) {tc : Tok} (m1 : m (sN "words") = some (.ref wa)) (m2 : m (sN "count") = some (.int (n : Nat) tc)) :
    tri w H O k none noX (lwEnv L0) (exec (stAt (fBody (sAt 39)) 2) (lwEnv L0)) g m fun f g2 m2 => f = .next ∧ Sub g g2 ∧ ∃ D, m2 = mset m (sN "names") (.ref D) ∧ ∃ vs, IsL g2 D vs ∧ SVs (nmS W n) (List.range (n + 1)) vs := by
  refine tri_hide fun Q1 hQ1 => ?_
  refine el_eaa hW fun vw hvw hwl hw => ?_; clear hW
  refine t_assignN (by kernel_rfl) (t_bin ?_)
  refine t_lc (by kernel_rfl) (fun _ => by kernel_rfl) ?_
  repeat walk_at "st"
  refine t_range (n := n) rfl fun rr oo hrr hR => ?_
  refine compAt_1 T (n := n) (Src := fun _ => True) (fun i ys g' m' => Sub g g' ∧ SVs (nmS W n) (List.range i) ys ∧ m' (sN "words") = some (.ref wa)) (by kernel_rfl) (Starts.range (hR _ gset_self) (by walk_at "om")) (by walk_at "om")
    (fun i ys g m h => trivial) (fun g D o h hD => trivial) (fun mc hmc => ⟨sub_new hrr, SVs.nil, (hmc.get (by kernel_rfl)).trans m1⟩) (fun C i v new ys g' m' hj p4 p5 hf => ?_) fun D ys g' m' e p2 hD => ?_
  · first | refine tri_hide fun Q3 hQ3 => ?_ | skip
    obtain ⟨⟨tv, hv⟩, hnew⟩ := p4
    refine el_aa p5 fun h1 h2 h3 => ?_; clear p5
    subst hv hnew
    obtain ⟨t8, e8⟩ := hw i hj
    refine t_asgN (t_store (by kernel_rfl) ?_)
    refine hQ3 _ _ _ ?_
    refine t_tests0 ?_
    first | with_reducible refine ite_t ?_ | simp only [if_true]
    refine tri_hide fun Q30 hQ30 => ?_
    repeat walk_at "st"
    refine t_tuple ?_
    repeat walk_at "st"
    refine ⟨by simp, fun E hE => ?_⟩
    rename_i ta tb tc td te
    have hvw2 : IsL (gset g' E (tup [.str (sN "") ta, .str (sN " ") tb, .str (sN "é") tc, .str (sN "-") td, .str (sN ".") te] 0)) wa vw := (hvw.sub h1).sub (sub_new hE)
    repeat walk_at "st"
    refine t_idxL hvw2 (by walk_at "om") (by walk_at "om") (by simpa using e8) ?_ (by kernel_rfl)
    repeat walk_at "st"
    refine t_divc (by decide) (by decide +kernel) fun t9 => ?_
    repeat walk_at "st"
    have e11 : Int.fmod (Int.fdiv (W i : Int) 11) 5 = ((W i / 11 % 5 : Nat) : Int) := by
      have h1 := fdiv_nat (W i) 11
      rw [show ((11 : Nat) : Int) = 11 from rfl] at h1
      have h2 := fmod_nat (W i / 11) 5
      rw [show ((5 : Nat) : Int) = 5 from rfl] at h2
      rw [h1, h2]
    rw [e11]
    obtain ⟨tp, hp⟩ := pre_at (Nat.mod_lt (W i / 11) (by decide)) ta tb tc td te
    refine t_idxT (items := [Value.str (sN "") ta, .str (sN " ") tb, .str (sN "é") tc, .str (sN "-") td, .str (sN ".") te]) ⟨_, 0, gset_self, rfl, rfl⟩ (by walk_at "om") (by walk_at "om") (v := .str (preS (W i / 11 % 5)) tp) (by rw [Int.toNat_natCast]; exact hp) ?_ (by kernel_rfl)
    repeat walk_at "st"
    refine t_str ?_ fun t10 => ?_
    · rw [Int.natAbs_natCast]
      exact Nat.lt_of_le_of_lt (Nat.log2_le_self _) (by walk_at "om")
    refine t_adds ?_ fun t11 => ?_
    · refine el_aa (name_ok i (by walk_at "om") (W i / 11 % 5) (Nat.mod_lt _ (by decide))) fun _ h5 _ => ?_
      have hlenE : ∀ x : Str, x.cps.toList.length = x.length := fun x => by simp [Str.length]
      have : (preS (W i / 11 % 5) ++ dgS i).length = (preS (W i / 11 % 5)).length + (dgS i).length := by rw [← hlenE, cps_append, List.length_append, hlenE, hlenE]
      show (preS (W i / 11 % 5)).length + (dgS i).length ≤ 100000
      walk_at "om"
    refine (hQ30 _ _ _ ⟨h1.put (h1.none hE), ?_, by walk_at "look"⟩)
    rw [List.range_succ]
    exact h2.snoc ⟨t11, by rw [name_lt hj]; rfl⟩
  · refine el_aa p2 fun h1 h2 h3 => ?_; clear p2
    unfold useQ
    dsimp only
    refine t_list ?_
    repeat walk_at "st"
    refine ⟨by simp, fun E hE => ?_⟩
    rename_i tg'
    have hDE : D ≠ E := fun z => by rw [← z, gset_self] at hE; cases hE
    have hyl := h2.len
    simp only [List.length_range] at hyl
    refine t_addL (xs := ys) (ys := [.str (sN "gone") tg']) (.inl ⟨e, by rw [gset_ne hDE, gset_self]⟩) (.inl ⟨0, gset_self⟩) (by simp; walk_at "om") fun F hF => ?_
    repeat walk_at "st"
    have hEn : g' E = none := by rw [gset_ne hDE.symm] at hE; exact hE
    refine (hQ1 _ _ _ ⟨rfl, ((h1.put (h1.none hD)).put (h1.none hEn)).put ?_, F, rfl, _, ⟨0, gset_self⟩, ?_⟩)
    · have q1 : F ≠ E := fun z => by rw [z, gset_self] at hF; cases hF
      rw [gset_ne q1] at hF
      have q2 : F ≠ D := fun z => by rw [z, gset_self] at hF; cases hF
      rw [gset_ne q2] at hF
      exact h1.none hF
    · rw [List.range_succ]
      exact h2.snoc ⟨tg', by rw [name_gone]⟩
end
end
noncomputable section
variable {w : World} {H : Heap} {O : OsState} {g g0 : GH}
section
variable {L0 wa na ma ta aa la : Addr} {k n : Nat} {W : Nat → Nat} {m : LM}
theorem kd_at {j : Nat} (hj : j < 12) (a b c d e f g h i l o p : Tok) : ∃ t, [Value.int 10 a, .int 8 b, .int 10 c, .int 4 d, .int 10 e, .int 1 f, .int 10 g, .int 12 h, .int 10 i, .int 2 l, .int 10 o, .int 6 p][j]? = some (.int (kdS j : Nat) t) := by
  match j, hj with
  | 0, _ => exact ⟨a, rfl⟩
  | 1, _ => exact ⟨b, rfl⟩
  | 2, _ => exact ⟨c, rfl⟩
  | 3, _ => exact ⟨d, rfl⟩
  | 4, _ => exact ⟨e, rfl⟩
  | 5, _ => exact ⟨f, rfl⟩
  | 6, _ => exact ⟨g, rfl⟩
  | 7, _ => exact ⟨h, rfl⟩
  | 8, _ => exact ⟨i, rfl⟩
  | 9, _ => exact ⟨l, rfl⟩
  | 10, _ => exact ⟨o, rfl⟩
  | 11, _ => exact ⟨p, rfl⟩
theorem dm_nat (a b c : Nat) : Int.fmod (Int.fdiv (a : Int) (b : Int)) (c : Int) = ((a / b % c : Nat) : Int) := by rw [fdiv_nat, fmod_nat]
def Mk (f : Nat → Nat) (i : Nat) (ys : List Value) : Prop := ys.length = i ∧ ∀ j, j < i → ∃ t, ys[j]? = some (.int (f j : Nat) t)
theorem Mk.snoc {f : Nat → Nat} {i : Nat} {ys : List Value} {x : Int} {t : Tok} (h : Mk f i ys) (hx : x = (f i : Nat)) : Mk f (i + 1) (ys ++ [.int x t]) := by
  subst hx
  refine ⟨by simp [h.1], fun j hj => ?_⟩
  by_cases q : j = i
  · subst q; exact ⟨t, by rw [List.getElem?_append_right (by rw [h.1]; walk_at "om"), h.1]; simp⟩
  · obtain ⟨t', e⟩ := h.2 j (by walk_at "om")
    exact ⟨t', by rw [List.getElem?_append_left (by rw [h.1]; walk_at "om")]; exact e⟩
set_option maxHeartbeats 1000000 in
theorem lw_modes (T : Tp (KK w.params) H) (hn : n ≤ 10) (hW : IL g wa n W) (m1 : m (sN "words") = some (.ref wa)) :
    tri w H O k none noX (lwEnv L0) (exec (stAt (fBody (sAt 39)) 3) (lwEnv L0)) g m fun f g2 m2 => f = .next ∧ Sub g g2 ∧ ∃ D, m2 = mset m (sN "modes") (.ref D) ∧ IL g2 D n (mdS W) := by
  refine tri_hide fun Q1 hQ1 => ?_
  refine el_eaa hW fun vw hvw hwl hw => ?_; clear hW
  refine t_assignN (by kernel_rfl) ?_
  refine t_lc (by kernel_rfl) (fun _ => by kernel_rfl) ?_
  repeat walk_at "st"
  refine compAt_1 T (n := vw.length) (Src := fun g => IsL g wa vw) (fun i ys g' m' => Sub g g' ∧ Mk (mdS W) i ys) (by kernel_rfl) (Starts.list hvw) (by walk_at "om")
    (fun i ys g m h => hvw.sub h.1) (fun g D o h hD => h.ne (fun z => by obtain ⟨n, q⟩ := h; rw [z, hD] at q; cases q)) (fun mc hmc => ⟨sub_refl, rfl, fun j hj => absurd hj (Nat.not_lt_zero j)⟩) (fun C i v new ys g' m' hj p4 p5 hf => ?_) fun D ys g' m' e p2 hD => ?_
  · first | refine tri_hide fun Q3 hQ3 => ?_ | skip
    obtain ⟨hv, hnew⟩ := p4
    obtain ⟨h1, h2⟩ := p5
    subst hnew
    obtain ⟨t8, e8⟩ := hw i (by walk_at "om")
    rw [e8] at hv
    cases hv
    refine t_asgN (t_store (by kernel_rfl) ?_)
    refine hQ3 _ _ _ ?_
    refine t_tests0 ?_
    first | with_reducible refine ite_t ?_ | simp only [if_true]
    refine tri_hide fun Q30 hQ30 => ?_
    repeat walk_at "st"
    refine t_tuple ?_
    repeat walk_at "st"
    refine ⟨by simp, fun E hE => ?_⟩
    rename_i a b c d e f g7 h i7 l o p
    repeat walk_at "st"
    refine t_divc (by decide) (by decide +kernel) fun t9 => ?_
    repeat walk_at "st"
    have e7 := dm_nat (W i) 7 12
    rw [show ((7 : Nat) : Int) = 7 from rfl, show ((12 : Nat) : Int) = 12 from rfl] at e7
    rw [e7]
    obtain ⟨tp, hp⟩ := kd_at (Nat.mod_lt (W i / 7) (by decide)) a b c d e f g7 h i7 l o p
    refine t_idxT (items := [Value.int 10 a, .int 8 b, .int 10 c, .int 4 d, .int 10 e, .int 1 f, .int 10 g7, .int 12 h, .int 10 i7, .int 2 l, .int 10 o, .int 6 p]) ⟨_, 0, gset_self, rfl, rfl⟩ (by walk_at "om") (by walk_at "om") (v := .int (kdS (W i / 7 % 12) : Nat) tp) (by rw [Int.toNat_natCast]; exact hp) ?_ (by kernel_rfl)
    repeat walk_at "st"
    refine t_mulc (by decide +kernel) fun t10 => ?_
    repeat walk_at "st"
    refine t_divc (by decide) (by decide +kernel) fun t11 => ?_
    repeat walk_at "st"
    refine (hQ30 _ _ _ ⟨h1.put (h1.none hE), h2.snoc ?_⟩)
    have e5 := dm_nat (W i) 5 4096
    rw [show ((5 : Nat) : Int) = 5 from rfl, show ((4096 : Nat) : Int) = 4096 from rfl] at e5
    rw [e5]
    unfold mdS
    walk_at "om"
  · obtain ⟨h1, h2⟩ := p2
    unfold useQ
    dsimp only
    repeat walk_at "st"
    rw [hwl] at h2
    exact (hQ1 _ _ _ ⟨rfl, h1.put (h1.none hD), D, rfl, ys, ⟨e, gset_self⟩, h2.1, h2.2⟩)
theorem lw_targets (T : Tp (KK w.params) H) (hn : n ≤ 10) (hW : IL g wa n W) {tc : Tok} (m1 : m (sN "words") = some (.ref wa)) (m2 : m (sN "count") = some (.int (n : Nat) tc)) :
    tri w H O k none noX (lwEnv L0) (exec (stAt (fBody (sAt 39)) 4) (lwEnv L0)) g m fun f g2 m2 => f = .next ∧ Sub g g2 ∧ ∃ D, m2 = mset m (sN "targets") (.ref D) ∧ IL g2 D n (tgS W n) := by
  refine tri_hide fun Q1 hQ1 => ?_
  refine el_eaa hW fun vw hvw hwl hw => ?_; clear hW
  refine t_assignN (by kernel_rfl) ?_
  refine t_lc (by kernel_rfl) (fun _ => by kernel_rfl) ?_
  repeat walk_at "st"
  refine compAt_1 T (n := vw.length) (Src := fun g => IsL g wa vw) (fun i ys g' m' => g' = g ∧ Mk (tgS W n) i ys ∧ m' (sN "count") = some (.int (n : Nat) tc)) (by kernel_rfl) (Starts.list hvw) (by walk_at "om")
    (fun i ys g m h => h.1 ▸ hvw) (fun g D o h hD => h.ne (fun z => by obtain ⟨n, q⟩ := h; rw [z, hD] at q; cases q)) (fun mc hmc => ⟨rfl, ⟨rfl, fun j hj => absurd hj (Nat.not_lt_zero j)⟩, (hmc.get (by kernel_rfl)).trans m2⟩) (fun C i v new ys g' m' hj p5 p6 hf => ?_) fun D ys g' m' e p3 hD => ?_
  · first | refine tri_hide fun Q4 hQ4 => ?_ | skip
    obtain ⟨hv, hnew⟩ := p5
    refine el_aa p6 fun h1 h2 h3 => ?_; clear p6
    subst hnew h1
    obtain ⟨t8, e8⟩ := hw i (by walk_at "om")
    rw [e8] at hv
    cases hv
    refine t_asgN (t_store (by kernel_rfl) ?_)
    refine hQ4 _ _ _ ?_
    refine t_tests0 ?_
    first | with_reducible refine ite_t ?_ | simp only [if_true]
    refine tri_hide fun Q40 hQ40 => ?_
    repeat walk_at "st"
    refine t_divc (by decide) (by decide +kernel) fun t9 => ?_
    repeat walk_at "st"
    refine t_mod (by walk_at "om") fun t10 => ?_
    refine (hQ40 _ _ _ ⟨rfl, h2.snoc ?_, by walk_at "look"⟩)
    have e5 := dm_nat (W i) 84 (n + 1)
    rw [show ((84 : Nat) : Int) = 84 from rfl, show ((n + 1 : Nat) : Int) = (n : Int) + 1 by walk_at "om"] at e5
    rw [e5]; rfl
  · first | refine tri_hide fun Q2 hQ2 => ?_ | skip
    refine el_aa p3 fun h1 h2 h3 => ?_; clear p3
    subst h1
    repeat walk_at "st"
    rw [hwl] at h2
    exact (hQ2 _ _ _ (hQ1 _ _ _ ⟨rfl, sub_new hD, D, rfl, ys, ⟨e, gset_self⟩, h2.1, h2.2⟩))
end
end
noncomputable section
variable {w : World} {H : Heap} {O : OsState} {g g0 : GH}
def SMk (f : Nat → Str) (i : Nat) (ys : List Value) : Prop := ys.length = i ∧ ∀ j, j < i → ∃ t, ys[j]? = some (.str (f j) t)
theorem SMk.snoc {f : Nat → Str} {i : Nat} {ys : List Value} {x : Str} {t : Tok} (h : SMk f i ys) (hx : x = f i) : SMk f (i + 1) (ys ++ [.str x t]) := by
  subst hx
  refine ⟨by simp [h.1], fun j hj => ?_⟩
  by_cases q : j = i
  · subst q; exact ⟨t, by rw [List.getElem?_append_right (by rw [h.1]; walk_at "om"), h.1]; simp⟩
  · obtain ⟨t', e⟩ := h.2 j (by walk_at "om")
    exact ⟨t', by rw [List.getElem?_append_left (by rw [h.1]; walk_at "om")]; exact e⟩
def SLs (g : GH) (a : Addr) (n : Nat) (f : Nat → Str) : Prop := ∃ vs, IsL g a vs ∧ vs.length = n ∧ ∀ j, j < n → ∃ t, vs[j]? = some (.str (f j) t)
def NmL (nm : Nat → Str) (n : Nat) (g : GH) (a : Addr) : Prop := ∃ vs, IsL g a vs ∧ SVs nm (List.range (n + 1)) vs
theorem NmL.sub {nm : Nat → Str} {n : Nat} {g g' : GH} {a : Addr} (h : NmL nm n g a) (s : Sub g g') : NmL nm n g' a := by obtain ⟨vs, h1, h2⟩ := h; exact ⟨vs, h1.sub s, h2⟩
section
variable {L0 wa na ma ta aa la : Addr} {k n : Nat} {nm : Nat → Str} {md tg : Nat → Nat} {m : LM}
set_option maxHeartbeats 1000000 in
theorem lw_arrows (T : Tp (KK w.params) H) (hn : n ≤ 10) (htg : ∀ i, i < n → tg i ≤ n) (hnl : ∀ i, i ≤ n → (nm i).length ≤ 20) (hN : NmL nm n g na) (hM : IL g ma n md) (hT : IL g ta n tg) {tc : Tok} (m1 : m (sN "names") = some (.ref na)) (m2 : m (sN "count") = some (.int (n : Nat) tc)) (m3 : m (sN "modes") = some (.ref ma)) (m4 : m (sN "targets") = some (.ref ta)) :
    tri w H O k none noX (lwEnv L0) (exec (stAt (fBody (sAt 39)) 5) (lwEnv L0)) g m fun f g2 m2 => f = .next ∧ Sub g g2 ∧ ∃ D, m2 = mset m (sN "arrows") (.ref D) ∧ SLs g2 D n (arrowS nm md tg) := by
  refine tri_hide fun Q1 hQ1 => ?_
  refine el_ea hN fun vn hvn hsn => ?_; clear hN
  refine el_eaa hM fun vm hvm hml hm => ?_; clear hM
  refine el_eaa hT fun vt hvt htl ht => ?_; clear hT
  have hnln := hsn.len
  simp only [List.length_range] at hnln
  refine t_assignN (by kernel_rfl) ?_
  refine t_lc (by kernel_rfl) (fun _ => by kernel_rfl) ?_
  repeat walk_at "st"
  refine t_range (n := n) rfl fun rr oo hrr hR => ?_
  refine compAt_1 T (n := n) (Src := fun _ => True) (fun i ys g' m' => g' = gset g rr oo ∧ SMk (arrowS nm md tg) i ys ∧ m' (sN "names") = some (.ref na) ∧ m' (sN "modes") = some (.ref ma) ∧ m' (sN "targets") = some (.ref ta)) (by kernel_rfl) (Starts.range (hR _ gset_self) (by walk_at "om")) (by walk_at "om")
    (fun i ys g m h => trivial) (fun g D o h hD => trivial) (fun mc hmc => ⟨rfl, ⟨rfl, fun j hj => absurd hj (Nat.not_lt_zero j)⟩, (hmc.get (by kernel_rfl)).trans m1, (hmc.get (by kernel_rfl)).trans m3, (hmc.get (by kernel_rfl)).trans m4⟩) (fun C i v new ys g' m' hj p5 p6 hf => ?_) fun D ys g' m' e p3 hD => ?_
  · first | refine tri_hide fun Q4 hQ4 => ?_ | skip
    obtain ⟨⟨tv, hv⟩, hnew⟩ := p5
    refine el_aaaa p6 fun h1 h2 h3 h4 h5 => ?_; clear p6
    subst hv hnew h1
    have s1 : Sub g (gset g rr oo) := sub_new hrr
    obtain ⟨t8, e8⟩ := hm i hj
    obtain ⟨t9, e9⟩ := ht i hj
    have hti := htg i hj
    obtain ⟨vx, e10, t10, rfl⟩ := hsn.at (j := tg i) (i := tg i) (by rw [List.getElem?_range (by walk_at "om")])
    refine t_asgN (t_store (by kernel_rfl) ?_)
    refine hQ4 _ _ _ ?_
    refine t_tests0 ?_
    first | with_reducible refine ite_t ?_ | simp only [if_true]
    refine tri_hide fun Q40 hQ40 => ?_
    repeat walk_at "st"
    refine t_idxL (hvm.sub s1) (by walk_at "om") (by walk_at "om") (by simpa using e8) ?_ (by kernel_rfl)
    repeat walk_at "st"
    refine t_divc (by decide) (by decide +kernel) fun t11 => ?_
    repeat walk_at "st"
    rw [show Int.fdiv (md i : Int) 4096 = ((md i / 4096 : Nat) : Int) from fdiv_nat _ 4096]
    have hb : (((md i / 4096 : Nat) : Int) == 10) = lkOf md i := by
      unfold lkOf
      rw [Bool.eq_iff_iff]; simp only [beq_iff_eq]; walk_at "om"
    rw [hb]
    cases hk : lkOf md i
    · first | with_reducible refine ite_f ?_ | simp only [Bool.false_eq_true, if_false]
      repeat walk_at "st"
      exact (hQ40 _ _ _ ⟨rfl, h2.snoc (by unfold arrowS; rw [hk]; rfl), by walk_at "look", by walk_at "look", by walk_at "look"⟩)
    · first | with_reducible refine ite_t ?_ | simp only [if_true]
      repeat walk_at "st"
      refine t_idxL (hvt.sub s1) (by walk_at "om") (by walk_at "om") (by simpa using e9) ?_ (by kernel_rfl)
      refine t_idxL (hvn.sub s1) (by walk_at "om") (by walk_at "om") (by simpa using e10) ?_ (by kernel_rfl)
      repeat walk_at "st"
      refine t_adds ?_ fun t12 => ?_
      · have := hnl (tg i) hti
        have h4 : (Str.ofString " -> ").length = 4 := by decide +kernel
        walk_at "om"
      · exact (hQ40 _ _ _ ⟨rfl, h2.snoc (by unfold arrowS; rw [hk]; rfl), by walk_at "look", by walk_at "look", by walk_at "look"⟩)
  · first | refine tri_hide fun Q2 hQ2 => ?_ | skip
    refine el_aaaa p3 fun h1 h2 h3 h4 h5 => ?_; clear p3
    subst h1
    repeat walk_at "st"
    exact (hQ2 _ _ _ (hQ1 _ _ _ ⟨rfl, (sub_new hrr).put (by
      have : D ≠ rr := fun z => by rw [z, gset_self] at hD; cases hD
      rw [gset_ne this] at hD; exact hD), D, rfl, ys, ⟨e, gset_self⟩, h2.1, h2.2⟩))
set_option maxHeartbeats 1000000 in
theorem lw_rows (T : Tp (KK w.params) H) {L : List Nat} (hn : n ≤ 10) (hL : ∀ p ∈ L, p < n) (hLl : L.length ≤ 10) (hnl : ∀ i, i ≤ n → (nm i).length ≤ 20) (hN : NmL nm n g na) (hM : IL g ma n md) (hA : SLs g aa n (arrowS nm md tg)) (hLs : NLi g la L) (m1 : m (sN "names") = some (.ref na)) (m3 : m (sN "modes") = some (.ref ma)) (m4 : m (sN "arrows") = some (.ref aa)) (m5 : m (sN "listed") = some (.ref la)) (hal : ∀ i, i < n → (arrowS nm md tg i).length ≤ 30) :
    tri w H O (k + 2) none noX (lwEnv L0) (exec (stAt (fBody (sAt 39)) 7) (lwEnv L0)) g m fun f g2 m2 => f = .next ∧ Sub g g2 ∧ ∃ D, m2 = mset m (sN "rows") (.ref D) ∧ ∃ vs, IsL g2 D vs ∧ vs.length = L.length ∧ ∀ (j p : Nat), L[j]? = some p → ∃ t, vs[j]? = some (.str (rowS nm md tg p) t) := by
  refine tri_hide fun Q1 hQ1 => ?_
  refine el_ea hN fun vn hvn hsn => ?_; clear hN
  refine el_eaa hM fun vm hvm hml hm => ?_; clear hM
  refine el_eaa hA fun va hva hal' ha => ?_; clear hA
  refine el_ea hLs fun vl hvl hil => ?_; clear hLs
  have hll := IntsAre.nlen hil
  have hnln := hsn.len
  simp only [List.length_range] at hnln
  refine t_lcuse (by kernel_rfl) (by kernel_rfl) (fun _ => by kernel_rfl) ?_
  repeat walk_at "st"
  refine compAt_1 T (n := vl.length) (Src := fun g => IsL g la vl) (fun i ys g' m' => Sub g g' ∧ (ys.length = i ∧ ∀ (j p : Nat), j < i → L[j]? = some p → ∃ t, ys[j]? = some (.str (rowS nm md tg p) t)) ∧ m' (sN "names") = some (.ref na) ∧ m' (sN "modes") = some (.ref ma) ∧ m' (sN "arrows") = some (.ref aa)) (by kernel_rfl) (Starts.list hvl) (by walk_at "om")
    (fun i ys g m h => hvl.sub h.1) (fun g D o h hD => h.ne (fun z => by obtain ⟨n, q⟩ := h; rw [z, hD] at q; cases q)) (fun mc hmc => ⟨sub_refl, ⟨rfl, fun j p hj => absurd hj (Nat.not_lt_zero j)⟩, (hmc.get (by kernel_rfl)).trans m1, (hmc.get (by kernel_rfl)).trans m3, (hmc.get (by kernel_rfl)).trans m4⟩) (fun C i v new ys g' m' hj p4 p5 hf => ?_) fun D ys g' m' e p2 hD => ?_
  · first | refine tri_hide fun Q3 hQ3 => ?_ | skip
    obtain ⟨hv, hnew⟩ := p4
    refine el_aaaa p5 fun h1 yy2 h3 h4 h5 => ?_; clear p5
    obtain ⟨h2, h2'⟩ := yy2
    subst hnew
    refine el_eea (IntsAre.nat hil hv) fun p tp hp yy3 => ?_
    obtain rfl := yy3
    have hpn := hL p (List.mem_of_getElem? hp)
    obtain ⟨t8, e8⟩ := hm p hpn
    obtain ⟨t9, e9⟩ := ha p hpn
    obtain ⟨vx, e10, t10, rfl⟩ := hsn.at (j := p) (i := p) (by rw [List.getElem?_range (by walk_at "om")])
    have l1 := hnl p (by walk_at "om")
    have l2 := hal p hpn
    have l3 := fmS_len ((md p : Nat) : Int)
    have hlenE : ∀ x : Str, x.cps.toList.length = x.length := fun x => by simp [Str.length]
    have lapp : ∀ x y : Str, (x ++ y).length = x.length + y.length := fun x y => by rw [← hlenE, cps_append, List.length_append, hlenE, hlenE]
    have l4 : (Str.ofString " ").length = 1 := by decide +kernel
    refine t_asgN (t_store (by kernel_rfl) ?_)
    refine hQ3 _ _ _ ?_
    refine t_tests0 ?_
    first | with_reducible refine ite_t ?_ | simp only [if_true]
    refine tri_hide fun Q30 hQ30 => ?_
    repeat walk_at "st"
    refine t_idxL (hvm.sub h1) (by walk_at "om") (by walk_at "om") (by simpa using e8) ?_ (by kernel_rfl)
    repeat walk_at "st"
    refine tri_call (f_filemode (k := k) T) fun r g2 p6 => ?_
    refine el_ae p6 fun s2 t11 er => ?_; clear p6
    subst er
    have h1' : Sub g g2 := sub_trans h1 s2
    repeat walk_at "st"
    refine t_adds (by walk_at "om") fun t12 => ?_
    repeat walk_at "st"
    refine t_idxL (hvn.sub h1') (by walk_at "om") (by walk_at "om") (by simpa using e10) ?_ (by kernel_rfl)
    refine t_adds (by rw [lapp]; walk_at "om") fun t13 => ?_
    repeat walk_at "st"
    refine t_idxL (hva.sub h1') (by walk_at "om") (by walk_at "om") (by simpa using e9) ?_ (by kernel_rfl)
    refine t_adds (by rw [lapp, lapp]; walk_at "om") fun t14 => ?_
    refine (hQ30 _ _ _ ⟨h1', ⟨by simp [h2], fun j q hjl hq => ?_⟩, by walk_at "look", by walk_at "look", by walk_at "look"⟩)
    by_cases z : j = i
    · subst z
      rw [hp] at hq; cases hq
      exact ⟨t14, by rw [List.getElem?_append_right (by walk_at "om"), h2]; simp; rfl⟩
    · obtain ⟨t', e'⟩ := h2' j q (by walk_at "om") hq
      exact ⟨t', by rw [List.getElem?_append_left (by walk_at "om")]; exact e'⟩
  · refine el_aaaa p2 fun h1 yy5 h3 h4 h5 => ?_; clear p2
    obtain ⟨h2, h2'⟩ := yy5
    unfold useQ
    dsimp only
    refine t_all1 (t_asgN ?_)
    repeat walk_at "st"
    exact (hQ1 _ _ _ ⟨rfl, h1.put (h1.none hD), D, rfl, ys, ⟨e, gset_self⟩, by walk_at "om", fun j p hq => h2' j p (by have := (List.getElem?_eq_some_iff.mp hq).1; walk_at "om") hq⟩)
end
end
noncomputable section
variable {w : World} {H : Heap} {O : OsState} {g g0 : GH}
theorem ints_get : ∀ {p : List Nat} {vs : List Value}, vs.length = p.length → (∀ (i j : Nat), p[i]? = some j → ∃ t, vs[i]? = some (.int (j : Nat) t)) → IntsAre vs (p.map fun i => ((i : Nat) : Int))
  | [], [], _, _ => .nil
  | j :: p, v :: vs, hl, h => by
    obtain ⟨t, e⟩ := h 0 j rfl
    simp at e
    subst e
    exact .cons _ _ (ints_get (by simpa using hl) fun i k hk => by
      obtain ⟨t, e⟩ := h (i + 1) k (by simpa using hk)
      exact ⟨t, by simpa using e⟩)
  | [], _ :: _, hl, _ => by simp at hl
  | _ :: _, [], hl, _ => by simp at hl
section
variable {L0 wa na ma ta aa la : Addr} {k n : Nat} {W : Nat → Nat} {m : LM} {pm : Value}
set_option maxHeartbeats 1000000 in
theorem lw_listed (T : Tp (KK w.params) H) (hB : Bm H pm) (hn2 : 2 ≤ n) (hn : n ≤ 10) (hP : g 240 = some (tabObj #[])) (hW : IL g wa n W) {tc : Tok} (m1 : m (sN "words") = some (.ref wa)) (m2 : m (sN "count") = some (.int (n : Nat) tc)) :
    tri w H O (k + 2) none noX (lwEnv L0) (exec (stAt (fBody (sAt 39)) 6) (lwEnv L0)) g m fun f g2 m2 => f = .next ∧ Keep 240 g g2 ∧ (∃ ps, g2 240 = some (tabObj ps)) ∧ ∃ D L, m2 = mset m (sN "listed") (.ref D) ∧ NLi g2 D L ∧ L.Perm (List.range n) := by
  refine tri_hide fun Q1 hQ1 => ?_
  refine t_assignN (by kernel_rfl) ?_
  refine t_callKw (id := "sorted") (by rfl) ?_
  repeat walk_at "st"
  refine ⟨rfl, ?_⟩
  repeat walk_at "st"
  refine t_range (n := n) rfl fun rr oo hrr hR => ?_
  have hr240 : (240 : Addr) ≠ rr := fun z => by rw [← z, hP] at hrr; cases hrr
  repeat walk_at "st"
  refine t_lambda (c := 242) (P := 240) (ps := #[]) T hB (by kernel_rfl) (by kernel_rfl) (by kernel_rfl) (by kernel_rfl) (by kernel_rfl) ((gset_ne hr240).trans hP) ?_ (by kernel_rfl) fun f c' oc vs t ctv hf hc hfc hf240 hc240 hoc hvs => ?_
  · first | exact .nil | exact trivial | simp [TriplesOk]
  · refine el_eaa hW fun vw hvw hwl hw => ?_; clear hW
    have hrf : rr ≠ f := fun z => by rw [← z, gset_self] at hf; cases hf
    have hrc : rr ≠ c' := fun z => by rw [← z, gset_self] at hc; cases hc
    have hf0 : g f = none := by rw [gset_ne hrf.symm] at hf; exact hf
    have hc0 : g c' = none := by rw [gset_ne hrc.symm] at hc; exact hc
    have hwa : wa ≠ 240 := fun z => by obtain ⟨n', e⟩ := hvw; rw [z, hP] at e; simp [tabObj] at e
    generalize hk : kla_obj (Str.ofString "<lambda>") _ _ _ _ _ pm c' ctv = ko
    generalize htb : tabObj (#[] ++ _) = tb
    generalize hG : gset (gset (gset (gset g rr oo) 240 tb) c' oc) f ko = G
    have hGf : G f = some ko := by rw [← hG, gset_self]
    have hGc : G c' = some oc := by rw [← hG, gset_ne hfc.symm, gset_self]
    have hGr : G rr = some oo := by rw [← hG, gset_ne hrf, gset_ne hrc, gset_ne hr240.symm, gset_self]
    have hG240 : G 240 = some tb := by rw [← hG, gset_ne hf240.symm, gset_ne hc240.symm, gset_self]
    have kp : Keep 240 g G := by
      rw [← hG]
      refine ((Keep.put ((Keep.refl).new hrr)).new ?_).new ?_
      · rw [gset_ne hc240]; exact hc
      · rw [gset_ne hfc, gset_ne hf240]; exact hf
    have hvwG := hvw.keep kp hwa
    subst hk
    refine t_sorted (k := k + 1) (hR _ hGr) hn2 (by walk_at "om") (fun i t g' hi hs => ?_) fun D g' p vs hD hs hp hl hvl hv => ?_
    · obtain ⟨t8, e8⟩ := hw i hi
      refine tri_callLam (k := k) (binds := [(sN "place", .int i t)]) T (hs _ _ hGf) (hs _ _ hGc) hoc hvs (by kernel_rfl) (fun y hy => ?_) (by decide +kernel) (fun x c e => ?_) rfl rfl rfl fun L2 mc hm1 hm2 => ?_
      · simp at hy; subst hy; rfl
      · refine ⟨clGo_lookup _ _ (fun x c h => by cases h) x c e, ?_⟩
        rcases clGo_names _ _ x c e with h | h
        · simp only [List.mem_cons, Prod.mk.injEq, List.not_mem_nil, or_false] at h
          rcases h with ⟨_, h⟩ | ⟨rfl, _⟩
          · cases h
          · rfl
        · cases h
      · have mw : mc (sN "words") = some (.ref wa) := by
          obtain ⟨c, e⟩ := Option.isSome_iff_exists.mp (show ((clGo (lwEnv L0) [(Str.ofString "place", NameKind.local), (Str.ofString "words", NameKind.free)] []).lookup (sN "words")).isSome = true by kernel_rfl)
          exact (hm1 _ c e).trans m1
        have mp : mc (sN "place") = some (.int i t) := (hm2 _ rfl).trans (by rw [b1]; exact mset_self)
        refine t_tuple ?_
        repeat walk_at "st"
        refine t_idxL (hvwG.sub hs) (by walk_at "om") (by walk_at "om") (by simpa using e8) ?_ (by kernel_rfl)
        repeat walk_at "st"
        exact ⟨by simp, fun D hD => ⟨rfl, D, _, _, _, _, rfl, hD, rfl⟩⟩
    · repeat walk_at "st"
      refine (hQ1 _ _ _ ⟨rfl, kp.trans (Keep.of hs), ⟨_, (hs _ _ hG240).trans (by rw [← htb])⟩, D, p, rfl, ⟨vs, hl, ?_⟩, hp⟩)
      exact ints_get (by rw [hvl, hp.length_eq]; simp) fun i j hij => by
        have hin : i < n := by have := (List.getElem?_eq_some_iff.mp hij).1; rw [hp.length_eq] at this; simpa using this
        refine el_eea (hv i hin) fun j' t' e1 e2 => ?_
        rw [hij] at e1; cases e1
        exact ⟨t', e2⟩
end
end
noncomputable section
variable {w : World} {H : Heap} {O : OsState} {g g0 : GH}
theorem kds : ∀ j, j < 12 → kinds7 (kdS j) := by
  intro j hj
  unfold kinds7
  match j, hj with
  | 0, _ => decide
  | 1, _ => decide
  | 2, _ => decide
  | 3, _ => decide
  | 4, _ => decide
  | 5, _ => decide
  | 6, _ => decide
  | 7, _ => decide
  | 8, _ => decide
  | 9, _ => decide
  | 10, _ => decide
  | 11, _ => decide
theorem md_kind (W : Nat → Nat) (i : Nat) : kinds7 (mdS W i / 4096) ∧ mdS W i < 65536 := by
  have h := kds (W i / 7 % 12) (Nat.mod_lt _ (by decide))
  have e : mdS W i / 4096 = kdS (W i / 7 % 12) := by
    unfold mdS
    rw [Nat.mul_comm, Nat.mul_add_div (by decide), Nat.div_eq_of_lt (Nat.mod_lt _ (by decide)), Nat.add_zero]
  refine ⟨e ▸ h, ?_⟩
  have h12 : kdS (W i / 7 % 12) ≤ 12 := by
    unfold kinds7 at h
    rcases h with h | h | h | h | h | h | h <;> rw [h] <;> decide
  have hm := Nat.mod_lt (W i / 5) (show 4096 > 0 by decide)
  clear h e
  unfold mdS
  exact Nat.lt_of_lt_of_le (Nat.add_lt_add_left hm _) (Nat.le_trans (Nat.add_le_add_right (Nat.mul_le_mul_right 4096 h12) 4096) (by decide))
theorem IsL.k240 {a : Addr} {vs : List Value} {g' : GH} (h : IsL g a vs) (hP : g 240 = some (tabObj #[])) (k : Keep 240 g g') : IsL g' a vs := h.keep k fun z => by obtain ⟨n', e⟩ := h; rw [z, hP] at e; simp [tabObj] at e
theorem ChaseRes.sub {nm : Nat → Str} {n : Nat} {md tg : Nat → Nat} {L : List Nat} {g' : GH} {v : Value} (h : ChaseRes w nm n md tg L g v) (s : Sub g g') : ChaseRes w nm n md tg L g' v := by
  obtain ⟨D, E, ra, ea, lo, vr, vs, b, e, hD, ⟨h1, h2, h3⟩, ⟨val, ⟨o, eo, h4⟩, h5⟩, ⟨h6, h7⟩, h8, h9⟩ := h
  exact ⟨D, E, ra, ea, lo, vr, vs, b, e, hD.sub s, ⟨h1.sub s, h2, h3.sub s⟩, ⟨val, ⟨o, s _ _ eo, h4⟩, fun e he => (h5 e he).sub s⟩, ⟨h6.sub s, h7⟩, h8.sub s, h9⟩
section
variable {L0 wa na ma ta aa la sa rl : Addr} {k n : Nat} {W : Nat → Nat} {m : LM} {pm : Value} {vs : List Value} {ns : List Int}
theorem lw_words (T : Tp (KK w.params) H) (hs : IsLA H g sa vs) (hi : IntsAre vs ns) (hn : ns.length ≤ 63) (m1 : m (sN "script") = some (.ref sa)) :
    tri w H O (k + 1) none noX (lwEnv L0) (exec (stAt (fBody (sAt 39)) 0) (lwEnv L0)) g m fun f g2 m2 => f = .next ∧ Sub g g2 ∧ ∃ D n W, m2 = mset m (sN "words") (.ref D) ∧ 4 ≤ n ∧ n ≤ 10 ∧ IL g2 D n W := by
  refine tri_hide fun Q1 hQ1 => ?_
  refine t_assignN (by kernel_rfl) ?_
  repeat walk_at "st"
  refine tri_call (f_words (k := k) T hs hi hn) fun v g2 p2 => ?_
  obtain ⟨h1, D, n, W, h2, h3, h4, h5, h6⟩ := p2
  subst h2
  repeat walk_at "st"
  exact (hQ1 _ _ _ ⟨rfl, h1, D, n, W, rfl, h3, h4, h5⟩)
theorem lw_count (T : Tp (KK w.params) H) (hn : n ≤ 10) (hW : IL g wa n W) (m1 : m (sN "words") = some (.ref wa)) :
    tri w H O k none noX (lwEnv L0) (exec (stAt (fBody (sAt 39)) 1) (lwEnv L0)) g m fun f g2 m2 => f = .next ∧ g2 = g ∧ ∃ t, m2 = mset m (sN "count") (.int (n : Nat) t) := by
  refine tri_hide fun Q1 hQ1 => ?_
  refine el_eaa hW fun vw hvw hwl hw => ?_; clear hW
  refine t_assignN (by kernel_rfl) ?_
  repeat walk_at "st"
  refine t_lenL' hvw (by walk_at "om") fun t1 => ?_
  repeat walk_at "st"
  rw [hwl]
  exact (hQ1 _ _ _ ⟨rfl, rfl, t1, rfl⟩)
theorem lw_ret (T : Tp (KK w.params) H) {L : List Nat} (hn : n ≤ 10) (hp : L.Perm (List.range n)) (hN : NmL (nmS W n) n g na) (hM : IL g ma n (mdS W)) (hT : IL g ta n (tgS W n)) (hLs : NLi g la L) (hrl : IsL g rl vs) (hvl : vs.length = n) (hrow : ∀ (j p : Nat), L[j]? = some p → ∃ t, vs[j]? = some (.str (rowS (nmS W n) (mdS W) (tgS W n) p) t)) (m1 : m (sN "rows") = some (.ref rl)) (m2 : m (sN "names") = some (.ref na)) (m3 : m (sN "modes") = some (.ref ma)) (m4 : m (sN "targets") = some (.ref ta)) (m5 : m (sN "listed") = some (.ref la)) :
    tri w H O (k + 8) none noX (lwEnv L0) (exec (stAt (fBody (sAt 39)) 8) (lwEnv L0)) g m fun f g2 m2 => f = .ret (.bool true) ∧ Sub g g2 := by
  refine tri_hide fun Q1 hQ1 => ?_
  have hLn : ∀ p, p ∈ L ↔ p < n := fun p => by rw [hp.mem_iff, List.mem_range]
  have hL : ∀ p ∈ L, p < n := fun p h => (hLn p).mp h
  have hnd : L.Nodup := hp.nodup_iff.mpr List.nodup_range
  have hLl : L.length = n := by rw [hp.length_eq]; simp
  have htg : ∀ p ∈ L, tgS W n p ≤ n := fun p _ => by unfold tgS; have := Nat.mod_lt (W p / 84) (show n + 1 > 0 by walk_at "om"); walk_at "om"
  have inj := nm_inj (W := W) (n := n) hn
  refine t_ret ?_
  repeat walk_at "st"
  refine tri_call (f_chase (k := k) (n := n) (md := mdS W) (tg := tgS W n) T inj hn hL htg hnd hLl (mdOk_of fun p _ => (md_kind W p).2) hrl hvl (fun j p hp' => ?_) (rdy_end hLn htg) fun p hpL => nm_repr hn (hL p hpL)) fun v g2 p2 => ?_
  · obtain ⟨t, e⟩ := hrow j p hp'
    have hpL := List.mem_of_getElem? hp'
    exact ⟨_, t, e, row_ok hn (hL p hpL) (htg p hpL) (md_kind W p).2 (md_kind W p).1⟩
  · obtain ⟨s2, hC⟩ := p2
    repeat walk_at "st"
    have B : TB (nmS W n) n (mdS W) (tgS W n) L na ma ta la g2 := ⟨hN.sub s2, hM.sub s2, hT.sub s2, hLs.sub s2⟩
    refine tri_call (f_told (k := k + 6) (r := rdyL (lkOf (mdS W)) (tgS W n) L) T inj hn hL htg hnd (by walk_at "om") (rdy_zero hLn) (fun t => ⟨?_, fun e he => ?_⟩) (fun t => rfl) B) fun v' g3 p3 => ?_
    · have := rdy_len (lk := lkOf (mdS W)) hnd hL htg t; walk_at "om"
    · exact ord_le hL htg e (mem_rdy.mp he).1
    · obtain ⟨s3, hT'⟩ := p3
      repeat walk_at "st"
      refine t_same T inj hnd hLn htg (fun e he => (nm_ok hn he).2.2) (hC.sub s3) hT' ?_
      exact (hQ1 _ _ _ ⟨rfl, sub_trans s2 s3⟩)
end
end
noncomputable section
variable {w : World} {H : Heap} {O : OsState} {g g0 : GH}
set_option maxHeartbeats 1000000 in
theorem f_law {k : Nat} {sa : Addr} {vs : List Value} {ns : List Int} {pm : Value} (T : Tp (KK w.params) H) (hB : Bm H pm) (hP : g 240 = some (tabObj #[])) (hs : IsLA H g sa vs) (hi : IntsAre vs ns) (hn63 : ns.length ≤ 63) : fnS w H O (k + 9) (.ref 243) ⟨[.ref sa], []⟩ g (fun v g' => v = .bool true ∧ ∃ ps, g' 240 = some (tabObj ps)) no2 := by
  refine fn_introC (fd := fd243) (binds := [(Str.ofString "script", .ref sa)]) T rfl rfl (by kernel_rfl) rfl (by kernel_rfl) rfl (kinds (by kernel_rfl)) (by decide +kernel) (fun L0 => ?_) (by kernel_rfl) (by kernel_rfl) (by kernel_rfl)
  refine tri_hide fun Q1 hQ1 => ?_
  rw [b1]
  refine t_cons (tri_mono (lw_words (k := k + 7) T hs hi hn63 (by walk_at "look")) fun f g1 m1 p2 => ?_)
  obtain ⟨q1, s1, wa, n, W, q3, hn4, hn, hW⟩ := p2
  subst q1 q3
  have v1 : (mset (mset emp (Str.ofString "script") (.ref sa)) (sN "words") (.ref wa)) (sN "words") = some (.ref wa) := mset_self
  generalize mset (mset emp (Str.ofString "script") (.ref sa)) (sN "words") (.ref wa) = m1 at *
  have hP1 := s1 _ _ hP
  refine t_cons (tri_mono (lw_count (k := k + 8) T hn hW v1) fun f g2 m2 p3 => ?_)
  obtain ⟨q1, q2, tc, q3⟩ := p3
  subst q1 q2 q3
  have A2 : Agr [sN "count"] m1 (mset m1 (sN "count") (.int (n : Nat) tc)) := Agr.refl.set (by decide +kernel)
  have c2 : (mset m1 (sN "count") (.int (n : Nat) tc)) (sN "count") = some (.int (n : Nat) tc) := mset_self
  have v2 := (A2 _ (by decide +kernel)).trans v1
  generalize mset m1 (sN "count") (.int (n : Nat) tc) = m2 at *
  refine t_cons (tri_mono (lw_names (k := k + 8) T hn hW v2 c2) fun f g3 m3 p4 => ?_)
  refine el_aaea p4 fun q1 s3 na q3 hN => ?_; clear p4
  subst q1 q3
  have A3 : Agr [sN "names"] m2 (mset m2 (sN "names") (.ref na)) := Agr.refl.set (by decide +kernel)
  have a3 : (mset m2 (sN "names") (.ref na)) (sN "names") = some (.ref na) := mset_self
  have c3 := (A3 _ (by decide +kernel)).trans c2
  have v3 := (A3 _ (by decide +kernel)).trans v2
  generalize mset m2 (sN "names") (.ref na) = m3 at *
  have hW3 := hW.sub s3
  have hP3 := s3 _ _ hP1
  refine t_cons (tri_mono (lw_modes (k := k + 8) T hn hW3 v3) fun f g4 m4 p5 => ?_)
  refine el_aaea p5 fun q1 s4 ma q3 hM => ?_; clear p5
  subst q1 q3
  have A4 : Agr [sN "modes"] m3 (mset m3 (sN "modes") (.ref ma)) := Agr.refl.set (by decide +kernel)
  have d4 : (mset m3 (sN "modes") (.ref ma)) (sN "modes") = some (.ref ma) := mset_self
  have a4 := (A4 _ (by decide +kernel)).trans a3
  have c4 := (A4 _ (by decide +kernel)).trans c3
  have v4 := (A4 _ (by decide +kernel)).trans v3
  generalize mset m3 (sN "modes") (.ref ma) = m4 at *
  have hW4 := hW3.sub s4
  have hP4 := s4 _ _ hP3
  refine t_cons (tri_mono (lw_targets (k := k + 8) T hn hW4 v4 c4) fun f g5 m5 p6 => ?_)
  refine el_aaea p6 fun q1 s5 ta q3 hT => ?_; clear p6
  subst q1 q3
  have A5 : Agr [sN "targets"] m4 (mset m4 (sN "targets") (.ref ta)) := Agr.refl.set (by decide +kernel)
  have e5 : (mset m4 (sN "targets") (.ref ta)) (sN "targets") = some (.ref ta) := mset_self
  have d5 := (A5 _ (by decide +kernel)).trans d4
  have a5 := (A5 _ (by decide +kernel)).trans a4
  have c5 := (A5 _ (by decide +kernel)).trans c4
  have v5 := (A5 _ (by decide +kernel)).trans v4
  generalize mset m4 (sN "targets") (.ref ta) = m5 at *
  have hW5 := hW4.sub s5
  have hP5 := s5 _ _ hP4
  have hN5 : NmL (nmS W n) n g5 na := (NmL.sub (NmL.sub hN s4) s5)
  have hM5 := hM.sub s5
  have htg : ∀ i, i < n → tgS W n i ≤ n := fun i _ => by unfold tgS; have := Nat.mod_lt (W i / 84) (show n + 1 > 0 by walk_at "om"); walk_at "om"
  have hnl : ∀ i, i ≤ n → (nmS W n i).length ≤ 20 := fun i h => (nm_ok hn h).2.1
  refine t_cons (tri_mono (lw_arrows (k := k + 8) T hn htg hnl hN5 hM5 hT a5 c5 d5 e5) fun f g6 m6 p7 => ?_)
  refine el_aaea p7 fun q1 s6 aa q3 hA => ?_; clear p7
  subst q1 q3
  have A6 : Agr [sN "arrows"] m5 (mset m5 (sN "arrows") (.ref aa)) := Agr.refl.set (by decide +kernel)
  have f6 : (mset m5 (sN "arrows") (.ref aa)) (sN "arrows") = some (.ref aa) := mset_self
  have e6 := (A6 _ (by decide +kernel)).trans e5
  have d6 := (A6 _ (by decide +kernel)).trans d5
  have a6 := (A6 _ (by decide +kernel)).trans a5
  have c6 := (A6 _ (by decide +kernel)).trans c5
  have v6 := (A6 _ (by decide +kernel)).trans v5
  generalize mset m5 (sN "arrows") (.ref aa) = m6 at *
  have hW6 := hW5.sub s6
  have hP6 := s6 _ _ hP5
  refine el_ea (hN5.sub s6) fun vn hvn hsn => ?_
  refine el_ea (hM5.sub s6) fun vm hvm hm => ?_
  refine el_ea (hT.sub s6) fun vt hvt ht => ?_
  refine el_ea hA fun va hva ha => ?_; clear hA
  refine t_cons (tri_mono (lw_listed (k := k + 6) T hB (by walk_at "om") hn hP6 hW6 v6 c6) fun f g7 m7 p8 => ?_)
  obtain ⟨q1, k7, ⟨ps7, hP7⟩, la, L, q3, hLs, hp⟩ := p8
  subst q1 q3
  have A7 : Agr [sN "listed"] m6 (mset m6 (sN "listed") (.ref la)) := Agr.refl.set (by decide +kernel)
  have l7 : (mset m6 (sN "listed") (.ref la)) (sN "listed") = some (.ref la) := mset_self
  have f7 := (A7 _ (by decide +kernel)).trans f6
  have e7 := (A7 _ (by decide +kernel)).trans e6
  have d7 := (A7 _ (by decide +kernel)).trans d6
  have a7 := (A7 _ (by decide +kernel)).trans a6
  generalize mset m6 (sN "listed") (.ref la) = m7 at *
  have hN7 : NmL (nmS W n) n g7 na := ⟨vn, hvn.k240 hP6 k7, hsn⟩
  have hM7 : IL g7 ma n (mdS W) := ⟨vm, hvm.k240 hP6 k7, hm⟩
  have hT7 : IL g7 ta n (tgS W n) := ⟨vt, hvt.k240 hP6 k7, ht⟩
  have hA7 : SLs g7 aa n (arrowS (nmS W n) (mdS W) (tgS W n)) := ⟨va, hva.k240 hP6 k7, ha⟩
  have hLl : L.length = n := by rw [hp.length_eq]; simp
  have hal : ∀ i, i < n → (arrowS (nmS W n) (mdS W) (tgS W n) i).length ≤ 30 := fun i h => by
    have hlenE : ∀ x : Str, x.cps.toList.length = x.length := fun x => by simp [Str.length]
    unfold arrowS
    split
    · have : (arr ++ nmS W n (tgS W n i)).length = arr.length + (nmS W n (tgS W n i)).length := by rw [← hlenE, cps_append, List.length_append, hlenE, hlenE]
      have h2 := hnl _ (htg i h)
      rw [this, arr_len]; walk_at "om"
    · have : (sN "").length = 0 := by decide +kernel
      walk_at "om"
  refine t_cons (tri_mono (lw_rows (k := k + 6) T hn (fun p h => by rw [hp.mem_iff, List.mem_range] at h; exact h) (by walk_at "om") hnl hN7 hM7 hA7 hLs a7 d7 f7 l7 hal) fun f g8 m8 p9 => ?_)
  obtain ⟨q1, s8, rl, q3, vr, hvr, hvrl, hrow⟩ := p9
  subst q1 q3
  have A8 : Agr [sN "rows"] m7 (mset m7 (sN "rows") (.ref rl)) := Agr.refl.set (by decide +kernel)
  refine t_cons (tri_mono (lw_ret (k := k) T hn hp (hN7.sub s8) (hM7.sub s8) (hT7.sub s8) (hLs.sub s8) hvr (by walk_at "om") hrow mset_self ((A8 _ (by decide +kernel)).trans a7) ((A8 _ (by decide +kernel)).trans d7) ((A8 _ (by decide +kernel)).trans e7) ((A8 _ (by decide +kernel)).trans l7)) fun f g9 m9 p10 => ?_)
  obtain ⟨q, s9⟩ := p10
  subst q
  exact (hQ1 _ _ _ ⟨rfl, ps7, s9 _ _ (s8 _ _ hP7)⟩)
end
noncomputable section
theorem cut_get (h : Heap) (k b : Nat) (hb : b < k) : ({ h with objs := h.objs.extract 0 k } : Heap).get? b = h.get? b := by
  unfold Heap.get?
  have : (h.objs.extract 0 k)[b]? = h.objs[b]? := by
    rw [Array.getElem?_extract]
    simp
    intro hk
    omega
  rw [this]
theorem cut_none (h : Heap) (k b : Nat) (hb : k ≤ b) : ({ h with objs := h.objs.extract 0 k } : Heap).get? b = none := by
  unfold Heap.get?
  have : (h.objs.extract 0 k)[b]? = none := by
    rw [Array.getElem?_eq_none]
    simp; omega
  rw [this]
theorem trim_ex (h : Heap) {a : Addr} {o : Obj} (ha : h.get? a = some o) : ∃ H : Heap, (∀ b, H.get? b = h.get? b) ∧ ∃ c oc, H.get? c = some oc ∧ H.objs.size = c + 1 := by
  have key : ∀ k : Nat, k ≤ h.objs.size → (∀ b : Nat, k ≤ b → h.get? b = none) → ∃ H : Heap, (∀ b, H.get? b = h.get? b) ∧ ∃ c oc, H.get? c = some oc ∧ H.objs.size = c + 1 := by
    intro k
    induction k with
    | zero => intro _ hn; rw [hn a (Nat.zero_le _)] at ha; cases ha
    | succ k ih =>
      intro hk hn
      cases q : h.get? k with
      | none =>
        refine ih (by omega) fun b hb => ?_
        by_cases z : b = k
        · subst z; exact q
        · exact hn b (by omega)
      | some oc =>
        refine ⟨{ h with objs := h.objs.extract 0 (k + 1) }, fun b => ?_, k, oc, (cut_get h (k + 1) k (by omega)).trans q, ?_⟩
        · rcases Nat.lt_or_ge b (k + 1) with hb | hb
          · exact cut_get h (k + 1) b hb
          · rw [cut_none h (k + 1) b hb, hn b hb]
        · simp; omega
  exact key h.objs.size (Nat.le_refl _) fun b hb => get_ge_none hb
end
noncomputable section
set_option maxHeartbeats 8000000
noncomputable def qv : Program := view P0 [39]
noncomputable def lo : List Str := [Str.ofString "_wall", Str.ofString "_NODE_OUT", Str.ofString "_NODE_DONE", Str.ofString "_NodeInfo", Str.ofString "CycleError", Str.ofString "TopologicalSorter", Str.ofString "S_IMODE", Str.ofString "S_IFMT", Str.ofString "S_IFDIR", Str.ofString "S_IFCHR", Str.ofString "S_IFBLK", Str.ofString "S_IFREG", Str.ofString "S_IFIFO", Str.ofString "S_IFLNK", Str.ofString "S_IFSOCK", Str.ofString "S_ISLNK", Str.ofString "S_ISUID", Str.ofString "S_ISGID", Str.ofString "S_ISVTX", Str.ofString "S_IRUSR", Str.ofString "S_IWUSR", Str.ofString "S_IXUSR", Str.ofString "S_IRGRP", Str.ofString "S_IWGRP", Str.ofString "S_IXGRP", Str.ofString "S_IROTH", Str.ofString "S_IWOTH", Str.ofString "S_IXOTH", Str.ofString "_filemode_table", Str.ofString "filemode", Str.ofString "_law_words", Str.ofString "_law_read", Str.ofString "_law_refused", Str.ofString "_law_chase", Str.ofString "_law_follow", Str.ofString "_law_told"]
noncomputable def hk : Hook := kmHook KK [3, 35, 36, 39, 40, 41, 42, 43, 54, 55, 66, 72, 73, 79, 80, 86, 87, 91, 92, 98, 99, 105, 106, 112, 113, 119, 120, 126, 127, 136, 137, 138, 139, 147, 148, 154, 155, 161, 162, 163, 164, 165, 166, 167, 168, 169, 170, 171, 172, 173, 174, 175, 176, 177, 178, 179, 180, 181, 182, 183, 184, 185, 186, 187, 188, 189, 190, 191, 192, 193, 194, 195, 201, 202, 206, 207, 213, 214, 220, 221, 225, 226, 232, 233, 237, 238, 242, 243] (fun _ => by kernel_rfl) [240]
theorem said : PySem.Challenge.rw_mq0377_01.wellSaid = true := by kernel_rfl
theorem left : LeftO P0 qv lo (fun s => xlAt qv [] s && recOk [] s) hk.obs hk.val 4000 := fun w => by kernel_rfl
end
noncomputable section
theorem Ns.to {h h' : Heap} {a : Addr} {mg : Str → Option Value} (n : h.Ns a mg) (e : h'.get? a = h.get? a) : h'.Ns a mg := by obtain ⟨o, es, ep, ho, r⟩ := n; exact ⟨o, es, ep, e.trans ho, r⟩
theorem tp_of {P : Program} {lz : List Str} {mean : ExcName → Option Value} {mg mb : Str → Option Value} {h H : Heap} {w : World} (T : Top P lz mean mg mb h) (hi : importsNone P = true) (K : (KK w.params).In h) (he : ∀ b, b ≠ 240 → H.get? b = h.get? b) (hl : ∃ a o, H.get? a = some o ∧ H.objs.size = a + 1) : Tp (KK w.params) H := by
  obtain ⟨mc, n1, n2⟩ := T.nodigits
  obtain ⟨md, n3, n4⟩ := T.nolimit
  obtain ⟨mm, n5, _⟩ := (T.seer hi).mods
  obtain ⟨o, _, _, ho, _⟩ := n5
  exact ⟨fun a o hk => (he a (fun z => by subst z; cases hk)).trans (K a o hk), ⟨mg, Ns.to T.g (he _ (by decide))⟩, ⟨mb, Ns.to T.b (he _ (by decide)), T.builtins⟩, ⟨md, Ns.to n3 (he _ (by decide)), n4⟩, ⟨mc, Ns.to n1 (he _ (by decide)), n2⟩, hl, ⟨o, (he _ (by decide)).trans ho⟩⟩
end
noncomputable section
set_option maxHeartbeats 8000000
noncomputable def fPos : Stmt → Pos
  | .FunctionDef _ _ _ _ _ _ _ _ _ p => p
  | _ => default
noncomputable abbrev rr : OpenRow := PySem.Challenge.rw_mq0377_01.row
theorem headr (call : WalkO qv lo (XL qv []) hk.says rr.toRowW ⟨Str.ofString "law", fArgs (sAt 39), fBody (sAt 39), fScope (sAt 39), fPos (sAt 39)⟩ [] fun f vs => PySem.call f vs) : PySem.Challenge.rw_mq0377_01.Holds :=
  holds_law said fun sd => holds_open (r := rr) left hk.of hk.keeps (fun s e => xl_of s (Bool.and_eq_true_iff.mp e).1) XL.keeps (by kernel_rfl) (by kernel_rfl) (by kernel_rfl) (fun s e => recFacts_of (Bool.and_eq_true_iff.mp e).2) (by kernel_rfl) sd (by kernel_rfl) ⟨rfl, rfl, rfl, rfl, rfl, by decide +kernel⟩ ⟨[.list [.int 3]], by decide +kernel, by decide +kernel⟩ call
end
noncomputable section
theorem wints_of {P : Params} {h : Heap} {R : WRecords} : ∀ (xs : List WData) (vs : List Value), WShape.hasItems R xs .int = true → WellAll P h vs xs → ∃ ns, IntsAre vs ns ∧ ns.length = xs.length
  | [], vs, _, x => by cases x; exact ⟨[], .nil, rfl⟩
  | d :: ds, vs, hh, x => by
    cases x with
    | cons w1 w2 =>
      have hh' : WShape.has R d .int = true ∧ WShape.hasItems R ds .int = true := by simpa [WShape.hasItems] using hh
      obtain ⟨ns, h1, h2⟩ := wints_of ds _ hh'.2 w2
      obtain ⟨i, rfl⟩ := hasW_int hh'.1
      cases w1
      exact ⟨i :: ns, .cons _ _ h1, by simp [h2]⟩
theorem pre63 {R : WRecords} {xs : List WData} (h : WTm.holds R (.and (.not (.lt (.lit (.int (63 : Nat))) (.len (.arg 0)))) (.lit (.bool true))) { args := [.list xs] } = true) : xs.length ≤ 63 := by
  have hv : WTm.value R (.and (.not (.lt (.lit (.int (63 : Nat))) (.len (.arg 0)))) (.lit (.bool true))) { args := [.list xs] } = some (.bool (!decide (((63 : Nat) : Int) < xs.length))) := by
    have e1 : WTm.value R (.lit (.int (63 : Nat))) { args := [.list xs] } = some (.int (63 : Nat)) := by simp [WTm.value]
    have e2 : WTm.value R (.len (.arg 0)) { args := [.list xs] } = some (.int xs.length) := by simp [WTm.value]
    have e3 := w_not (w_lt e1 e2)
    generalize WTm.not _ = t at *
    cases q : decide (((63 : Nat) : Int) < xs.length) <;> (rw [q] at e3; simp [WTm.value, e3])
  have := condW_of h hv
  simp at this
  omega
theorem args_of {P : Params} {h : Heap} {args : List WData} {vals : List Value} (hpre : rr.toRowW.claim.pre args = true) (hwl : WellAll P h vals args) : ∃ sa vs ns, vals = [.ref sa] ∧ h.get? sa = some { cls := .type "list", data := .seq vs.toArray } ∧ IntsAre vs ns ∧ ns.length ≤ 63 := by
  obtain ⟨p1, p2⟩ := pre_splitW hpre
  obtain ⟨d, r, rfl, q1, q2⟩ := hasAllW_cons (e := .list .int) (es := []) p1
  obtain rfl := hasAllW_nil q2
  obtain ⟨xs, rfl, q3⟩ := hasW_list q1
  have q4 := pre63 p2
  cases hwl with
  | cons w1 w2 =>
    cases w2
    cases w1 with
    | list e1 e2 =>
      obtain ⟨ns, i1, i2⟩ := wints_of _ _ q3 e2
      exact ⟨_, _, ns, rfl, e1, i1, i2 ▸ q4⟩
theorem law_at {P : Params} {h : Heap} {mg : Str → Option Value} {a : Addr} (K : (KK P).In h) (G : h.Ns mainGlobals mg) (hm : mg (Str.ofString "law") = some (.ref a)) : a = 243 := by
  have e := mg_of (n := Str.ofString "law") (v := .ref 243) K G (by kernel_rfl)
  rw [hm] at e
  injection e with e
  injection e
theorem post_of {args : List WData} : rr.toRowW.claim.post args (.bool true) args = true := postW_of (X := true) (by rfl) (w_eq_bool (k := true) (l := true) (by simp [WTm.value]) (by simp [WTm.value])) rfl
theorem raises_of {args : List WData} : ∀ cls, rr.toRowW.claim.raises args cls = false := fun cls => rfl
theorem code242 (P : Params) : (KK P).lookup 242 = some (o242 P) := by kernel_rfl
theorem glob3 (P : Params) : (KK P).lookup 3 = some (o3 P) := by kernel_rfl
end
noncomputable section
theorem bm_of {P : Program} {lz : List Str} {mean : ExcName → Option Value} {mg mb : Str → Option Value} {h H : Heap} {pr : Params} (T : Top P lz mean mg mb h) (K : (KK pr).In h) (h240 : h.get? 240 = some (tabObj #[])) (he : ∀ b, b ≠ 240 → H.get? b = h.get? b) : ∃ pm, Bm H pm := by
  obtain ⟨bm, ob, h1, h2, h3, h4, h5, h6⟩ := T.bmain
  have n240 : bm ≠ 240 := fun z => by rw [z, h240] at h3; cases h3; exact nomatch h4
  have n3 : bm ≠ mainGlobals := fun z => by
    have e := K 3 _ (glob3 _)
    rw [z] at h3
    have e3 : some (o3 pr) = some ob := e.symm.trans h3
    cases e3
    have : (o3 pr).cls = .type "dict" := rfl
    rw [this] at h4
    simp at h4
  exact ⟨_, mg, bm, ob, Ns.to T.g (he _ (by decide)), h1, h2, n3, (he _ n240).trans h3, h4, h5, h6, rfl⟩
theorem old_of {h h' H : Heap} {pr : Params} {ps : Array Value} (K : (KK pr).In h) (h240 : h.get? 240 = some (tabObj #[])) (he : ∀ b, b ≠ 240 → H.get? b = h.get? b) (kb : Kept [] H.get? h') (kp : h'.get? 240 = some (tabObj ps)) : OldK h h' := by
  have key : ∀ b o, b ≠ 240 → h.get? b = some o → h'.get? b = some o := fun b o hb e => by
    obtain ⟨sl, q, z⟩ := kb b o ((he b hb).trans e)
    rw [q, z (by simp)]
  refine ⟨fun b o e => ?_, fun b o e => ?_⟩
  · by_cases z : b = 240
    · subst z
      rw [h240] at e
      cases e
      refine .inr (.inl ⟨⟨242, o242 pr, _, K 242 _ (code242 _), rfl, rfl, rfl⟩, rfl, #[], ps, rfl, ?_⟩)
      rw [kp]
      simp [tabObj]
    · exact .inl (key b o z e)
  · by_cases z : b = 240
    · exact ⟨_, z ▸ kp⟩
    · exact ⟨o, key b o z e⟩
theorem head_walk : WalkO qv lo (XL qv []) hk.says rr.toRowW ⟨Str.ofString "law", fArgs (sAt 39), fBody (sAt 39), fScope (sAt 39), fPos (sAt 39)⟩ [] fun f vs => PySem.call f vs := by
  intro w s₀ s₁ mg mb G Y a o pm cd doc dV kV ho hd hcd hD hmg hgens args vals as hpre hlay hrd hwl hlo
  have KX : (KK w.params).In s₁.heap := Y.1
  have h240 : s₁.heap.get? 240 = some (tabObj #[]) := Y.2 240 (.head _)
  obtain rfl := law_at KX G.T.g hmg
  obtain ⟨sa, vs, ns, rfl, hsa, hi, hn⟩ := args_of hpre hwl
  obtain ⟨H, hH, hl⟩ := trim_ex (s₁.heap.hide 240) (a := 3) (o := o3 w.params) ((Heap.hide_ne _ (by decide)).trans (KX 3 _ (glob3 _)))
  have he : ∀ b, b ≠ 240 → H.get? b = s₁.heap.get? b := fun b hb => (hH b).trans (Heap.hide_ne _ hb)
  have hn240 : H.get? 240 = none := (hH 240).trans (Heap.hide_self _ _)
  have hsome : ∀ b o, H.get? b = some o → b ≠ 240 := fun b o e z => by rw [z, hn240] at e; cases e
  have T := tp_of (w := w) G.T (by kernel_rfl) KX he hl
  obtain ⟨pm', B⟩ := bm_of G.T KX h240 he
  have sne : sa ≠ 240 := fun z => by rw [z, h240] at hsa; cases hsa
  have L : IsLA H (gset (fun _ => none) 240 (tabObj #[])) sa vs := .inr ⟨_, (he _ sne).trans hsa, rfl, _, rfl⟩
  have F := f_law (w := w) (O := s₁.os) (k := 0) T B gset_self L hi hn
  have R : Rep H s₁.os [] H.get? (gset (fun _ => none) 240 (tabObj #[])) s₁ := by
    refine ⟨fun a o e => ⟨e, by simp⟩, fun a o e => ⟨o.slots, (he a (hsome a o e)).symm.trans e, fun _ => rfl⟩, fun a o e => ?_, fun a o e => gset_ne (hsome a o e), hgens, rfl⟩
    by_cases z : a = 240
    · subst z; rw [gset_self] at e; cases e; exact h240
    · rw [gset_ne z] at e; cases e
  have A0 : FOk 9 [] H.get? callerA := ⟨by decide, by decide, rfl, [], rfl, rfl, fun e h => nomatch h⟩
  refine wpAny_call (codeAny_mono (F callerA [] _ s₁ A0 R) fun r s' hr => ?_)
  cases r with
  | error e => obtain ⟨_, _, _, _, q⟩ := hr; exact q.elim
  | ok f =>
    cases f with
    | ret v =>
      obtain ⟨g', R', rfl, ps, hps⟩ := hr
      exact ⟨.inl ⟨_, .bool true, [], rfl, raises_of, .bool true, post_of, fun _ => ⟨.nil, fun a h => nomatch h⟩⟩, old_of KX h240 he R'.kb (R'.kg _ _ hps), R'.os, .of_eq R'.gens⟩
    | _ => exact hr.elim
theorem head_holds : PySem.Challenge.rw_mq0377_01.Holds := headr head_walk
end
end Mine
theorem PySem.Challenge.cw_mq0377_01_holds : PySem.Challenge.rw_mq0377_01.Holds := by
  exact Mine.head_holds
