import PyProof.Rows.All
import Wide.All
import OpenK.AllK
import Wide.FinOn
import PySem.Challenge.RW_uy0002_01
open PySem PySem.W PyProof.Rows
set_option Elab.async false
set_option maxRecDepth 100000
set_option maxHeartbeats 2000000
set_option linter.unusedVariables false
set_option linter.unusedSimpArgs false

section
set_option maxHeartbeats 8000000
namespace Mine
/-! the head, at once: no pieces are laid, so no twins of the text stand in the compiled file -/
noncomputable def vw : Program := view PySem.Challenge.pw_uy0002_01 [4, 5, 6, 8, 9, 10, 11, 13, 14, 15, 16, 17, 18, 19, 20]
noncomputable def lo : List Str := [Str.ofString "insort_left", Str.ofString "bisect_left", Str.ofString "COMPILER_FLAG_NAMES"]
theorem well : OpenLaw.wellSaid PySem.Challenge.rw_uy0002_01 = true := by
  delta OpenLaw.wellSaid
  repeat' (with_reducible refine look_both ?_ ?_)
  all_goals (try (delta OpenRow.wellSaid; repeat' (with_reducible refine look_both ?_ ?_)))
  all_goals (try (delta OpenRow.partSaid; repeat' (with_reducible refine look_both ?_ ?_)))
  all_goals (try (delta looksOpen; repeat' (with_reducible refine look_both ?_ ?_)))
  all_goals (decide +kernel)
theorem head1 (H : Hook) (left : LeftO (OpenLaw.row PySem.Challenge.rw_uy0002_01).prog vw lo (fun s => xlAt vw [] s && recOk (RowW.records (OpenRow.toRowW (OpenLaw.row PySem.Challenge.rw_uy0002_01))) s) (Hook.obs H) (Hook.val H) 1428)
    {d : DefRec} {kwd : List (Str × Expr)} (hdef : defOf vw (OpenLaw.row PySem.Challenge.rw_uy0002_01).name = some (d, kwd)) (hp : (OpenLaw.row PySem.Challenge.rw_uy0002_01).prog.theDef (OpenLaw.row PySem.Challenge.rw_uy0002_01).name = some (d.params, d.body, d.scope)) (hk : kwWritten? d.params.kwonlyargs d.params.kw_defaults = some kwd)
    (k1 : (OpenLaw.row PySem.Challenge.rw_uy0002_01).wellSaid = true) (hw : (OpenLaw.row PySem.Challenge.rw_uy0002_01).toRowW.promised)
    (call : WalkO vw lo (XL vw []) (Hook.says H) (OpenLaw.row PySem.Challenge.rw_uy0002_01).toRowW d kwd fun f vs => PySem.call f vs) : (OpenLaw.row PySem.Challenge.rw_uy0002_01).Holds :=
  holds_open (XP := XL vw []) (Yf := Hook.obs H) (Ya := Hook.val H) (YP := Hook.says H) left (Hook.of H) (Hook.keeps H) (fun s e => xl_of s (Bool.and_eq_true_iff.mp e).1) XL.keeps hdef hp hk (fun s e => recFacts_of (Bool.and_eq_true_iff.mp e).2) (by rfl) k1 (by decide +kernel) ⟨rfl, rfl, rfl, rfl, rfl, by decide +kernel⟩ hw call
local macro_rules | `(tactic| o_law) => `(tactic| refine holds_law Mine.well fun said => ?_)
local macro_rules | `(tactic| o_head $H:term) => `(tactic| (
    refine Mine.head1 $H ?hl (by rfl) (by rfl) (by rfl) (by assumption) ?hw ?hc
    case hl => (refine LeftO.of_split "special-get-raises" ?_; intro w; kernel_rfl)))
open_top hd for PySem.Challenge.rw_uy0002_01
end Mine
end

open PySem.Calls
/-! A1 -/
namespace Mine
/-- what stands ahead of it is not reduced away: a named thing keeps its name in the compiled term -/
theorem hold {p : Prop} (h : p) : p := h
theorem ar_pred {N i : Nat} (h : i < N) : N - i = (N - i - 1) + 1 := by omega
theorem ar_same {N i j k : Nat} (h : j + 1 + (k + 1 - 1) = N) (h2 : N - i = k + 1) : j = i := by omega
theorem ar_step {N i k : Nat} (h : N - i = k + 1) : N - (i + 1) = k := by omega
theorem ar_mid {f l r : Nat} (h : r - l ≤ f + 1) : r - ((l + r) / 2 + 1) ≤ f := by omega
theorem ar_shift {N q m : Nat} (h : N ≤ q) : q - N < m ↔ q < N + m := by omega
theorem ar_back {N i k : Nat} (h : i + 1 ≤ N) (hk : k < i) : N - 1 - k < N ∧ N - 1 - i < N - 1 - k := by omega
theorem ar_pos {x : Int} : 0 < (1 + x % 3).toNat := by omega
theorem ar_two {y : Int} (h : 0 ≤ y ∧ y < 3) : 2 ≤ (2 + y).toNat ∧ (2 + y).toNat ≤ 4 := by omega
theorem ar_cast {y : Int} (h : 0 ≤ y) : 2 + y = (((2 + y).toNat : Nat) : Int) := by omega
theorem ar_less {N i : Nat} (h : i < N) : N - (i + 1) < N - i := by omega

/-! plain data, and how a value stands for it -/
inductive D where
  | none
  | bool (b : Bool)
  | int (i : Int)
  | str (s : Str)
  | list (l : List D)
  | tup (l : List D)
  | val (v : Value)

/-- a plain list object -/
noncomputable abbrev LO (vs : List Value) (n : Nat) : Obj := { cls := .type "list", dict := none, data := .seq vs.toArray n, slots := #[] }
noncomputable abbrev TO (vs : List Value) (n : Nat) : Obj := { cls := .type "tuple", dict := none, data := .seq vs.toArray n, slots := #[] }

mutual
noncomputable def Rel (ok : Addr → Prop) (h : Heap) : D → Value → Prop
  | .none, v => v = .none
  | .bool b, v => v = .bool b
  | .int i, v => ∃ t, v = .int i t
  | .str s, v => ∃ t, v = .str s t
  | .list ds, v => ∃ a vs n, v = .ref a ∧ ok a ∧ h.get? a = some (LO vs n) ∧ RelAll ok h ds vs
  | .tup ds, v => ∃ a vs n, v = .ref a ∧ ok a ∧ h.get? a = some (TO vs n) ∧ RelAll ok h ds vs
  | .val u, v => v = u
noncomputable def RelAll (ok : Addr → Prop) (h : Heap) : List D → List Value → Prop
  | [], vs => vs = []
  | d :: ds, vs => ∃ v r, vs = v :: r ∧ Rel ok h d v ∧ RelAll ok h ds r
end

noncomputable def NotDict (o : Obj) : Prop := ∀ es ep, o.data ≠ .dict es ep

noncomputable def IsSeq (o : Obj) : Prop := ∃ xs k, o.data = .seq xs k
noncomputable def Solid (o : Obj) : Prop := NotDict o ∧ ∀ v, o.data ≠ .cell v
theorem IsSeq.nf {o : Obj} (h : IsSeq o) : ∀ vs, o.data ≠ .fields vs := fun vs q => by obtain ⟨_, _, e⟩ := h; rw [e] at q; cases q
theorem IsSeq.nd {o : Obj} (h : IsSeq o) : NotDict o := fun _ _ q => by obtain ⟨_, _, e⟩ := h; rw [e] at q; cases q
theorem IsSeq.solid {o : Obj} (h : IsSeq o) : Solid o := ⟨h.nd, fun v q => by obtain ⟨_, _, e⟩ := h; rw [e] at q; cases q⟩

/-- all that stood stands (the code table aside; an object with a dict's data may have its slots turned) -/
noncomputable def Kept (h h' : Heap) : Prop :=
  ∀ b o, b ≠ 99 → h.get? b = some o → ∃ sl, h'.get? b = some { o with slots := sl } ∧ (NotDict o → sl = o.slots)

theorem Kept.refl (h : Heap) : Kept h h := fun _ o _ e => ⟨o.slots, e, fun _ => rfl⟩
theorem Kept.trans {h₁ h₂ h₃ : Heap} (x : Kept h₁ h₂) (y : Kept h₂ h₃) : Kept h₁ h₃ := fun b o hb e => by
  obtain ⟨sl, e1, f1⟩ := x b o hb e
  obtain ⟨sl', e2, f2⟩ := y b _ hb e1
  exact ⟨sl', e2, fun hn => (f2 hn).trans (f1 hn)⟩
theorem Kept.of {h h' : Heap} (k : ∀ b o, h.get? b = some o → h'.get? b = some o) : Kept h h' := fun b o _ e => ⟨o.slots, k b o e, fun _ => rfl⟩
theorem Kept.get {h h' : Heap} (x : Kept h h') {b : Addr} {o : Obj} (hb : b ≠ 99) (e : h.get? b = some o) (hn : NotDict o) : h'.get? b = some o := by
  obtain ⟨sl, e1, f1⟩ := x b o hb e
  rw [e1, f1 hn]
theorem Kept.ns {h h' : Heap} (x : Kept h h') {a : Addr} {m : Str → Option Value} (ha : a ≠ 99) (n : h.Ns a m) : h'.Ns a m := by
  obtain ⟨o, es, ep, ho, hd, r⟩ := n
  obtain ⟨sl, e1, _⟩ := x a o ha ho
  exact ⟨_, es, ep, e1, hd, r⟩
theorem Kept.cell {h h' : Heap} (x : Kept h h') {c : Addr} {v : Option Value} (hc : c ≠ 99) (n : h.IsCell c v) : h'.IsCell c v := by
  obtain ⟨o, ho, hd⟩ := n
  exact ⟨o, x.get hc ho (fun es ep q => by rw [hd] at q; cases q), hd⟩

/-- the code table of the def that makes a lambda: empty, or the lambda's own code alone -/
noncomputable def lamPos : Pos := ⟨109, 33, 109, 55⟩
noncomputable def lamQual : Str := "_law_collated.<locals>.<lambda>"
noncomputable def TabOk (h : Heap) : Prop := h.get? 99 = some (tabObj #[]) ∨
  ∃ c, h.get? 99 = some (tabObj #[rawInt lamPos.line, rawInt lamPos.col, .ref c]) ∧ c ≠ 99 ∧ h.CodeRec (.ref c) lamQual
theorem TabOk.fields {h : Heap} (t : TabOk h) : ∃ vs, h.get? 99 = some (tabObj vs) := by
  rcases t with e | ⟨c, e, _⟩ <;> exact ⟨_, e⟩
theorem TabOk.keeps {h h' : Heap} (t : TabOk h) (k : ∀ b o, h.get? b = some o → h'.get? b = some o) : TabOk h' := by
  rcases t with e | ⟨c, e, hc, r⟩
  · exact .inl (k _ _ e)
  · exact .inr ⟨c, k _ _ e, hc, r.keeps k⟩
theorem ne_tab {h : Heap} (t : TabOk h) {a : Addr} {o : Obj} (e : h.get? a = some o) (hn : ∀ vs, o.data ≠ .fields vs) : a ≠ 99 := fun q => by
  subst q
  obtain ⟨vs, e2⟩ := t.fields
  rw [e] at e2
  cases e2
  exact hn vs rfl

mutual
theorem Rel.mono {ok ok' : Addr → Prop} {h h' : Heap} (hok : ∀ a o, ok a → h.get? a = some o → IsSeq o → ok' a ∧ h'.get? a = some o) : ∀ (d : D) (v : Value), Rel ok h d v → Rel ok' h' d v
  | .none, _, r => by simpa only [Rel] using r
  | .bool _, _, r => by simpa only [Rel] using r
  | .int _, _, r => by simpa only [Rel] using r
  | .str _, _, r => by simpa only [Rel] using r
  | .val _, _, r => by simpa only [Rel] using r
  | .list ds, v, r => by
    simp only [Rel] at r ⊢
    obtain ⟨a, vs, n, hv, ha, hg, hr⟩ := r
    obtain ⟨h1, h2⟩ := hok a _ ha hg ⟨_, _, rfl⟩
    exact ⟨a, vs, n, hv, h1, h2, RelAll.mono hok ds vs hr⟩
  | .tup ds, v, r => by
    simp only [Rel] at r ⊢
    obtain ⟨a, vs, n, hv, ha, hg, hr⟩ := r
    obtain ⟨h1, h2⟩ := hok a _ ha hg ⟨_, _, rfl⟩
    exact ⟨a, vs, n, hv, h1, h2, RelAll.mono hok ds vs hr⟩
theorem RelAll.mono {ok ok' : Addr → Prop} {h h' : Heap} (hok : ∀ a o, ok a → h.get? a = some o → IsSeq o → ok' a ∧ h'.get? a = some o) : ∀ (ds : List D) (vs : List Value), RelAll ok h ds vs → RelAll ok' h' ds vs
  | [], _, r => by simpa only [RelAll] using r
  | d :: ds, vs, r => by
    simp only [RelAll] at r ⊢
    obtain ⟨v, t, hv, h1, h2⟩ := r
    exact ⟨v, t, hv, Rel.mono hok d v h1, RelAll.mono hok ds t h2⟩
end

theorem Rel.kept {ok : Addr → Prop} {h h' : Heap} {d : D} {v : Value} (r : Rel ok h d v) (t : TabOk h) (k : Kept h h') : Rel ok h' d v :=
  Rel.mono (fun _ _ ha e hs => ⟨ha, k.get (ne_tab t e hs.nf) e hs.nd⟩) d v r
theorem RelAll.kept {ok : Addr → Prop} {h h' : Heap} {d : List D} {v : List Value} (r : RelAll ok h d v) (t : TabOk h) (k : Kept h h') : RelAll ok h' d v :=
  RelAll.mono (fun _ _ ha e hs => ⟨ha, k.get (ne_tab t e hs.nf) e hs.nd⟩) d v r
theorem Rel.weak {ok ok' : Addr → Prop} {h : Heap} {d : D} {v : Value} (r : Rel ok h d v) (w : ∀ a, ok a → ok' a) : Rel ok' h d v :=
  Rel.mono (fun _ _ ha e _ => ⟨w _ ha, e⟩) d v r
theorem RelAll.weak {ok ok' : Addr → Prop} {h : Heap} {d : List D} {v : List Value} (r : RelAll ok h d v) (w : ∀ a, ok a → ok' a) : RelAll ok' h d v :=
  RelAll.mono (fun _ _ ha e _ => ⟨w _ ha, e⟩) d v r
theorem RelAll.length {ok : Addr → Prop} {h : Heap} : ∀ {ds : List D} {vs : List Value}, RelAll ok h ds vs → vs.length = ds.length
  | [], _, r => by simp only [RelAll] at r; simp [r]
  | _ :: _, _, r => by
    obtain ⟨v, t, rfl, _, h2⟩ := r
    simp [RelAll.length h2]
theorem RelAll.get {ok : Addr → Prop} {h : Heap} : ∀ {ds : List D} {vs : List Value}, RelAll ok h ds vs → ∀ {i : Nat} {d : D}, ds[i]? = some d → ∃ v, vs[i]? = some v ∧ Rel ok h d v
  | [], _, _, i, d, e => by simp at e
  | d :: ds, _, r, i, d', e => by
    obtain ⟨v, t, rfl, h1, h2⟩ := r
    cases i with
    | zero => simp at e; subst e; exact ⟨v, by simp, h1⟩
    | succ i => simp at e; obtain ⟨v', e', r'⟩ := RelAll.get h2 e; exact ⟨v', by simpa using e', r'⟩
theorem RelAll.cons' {ok : Addr → Prop} {h : Heap} {d : D} {ds : List D} {v : Value} {vs : List Value} (a : Rel ok h d v) (b : RelAll ok h ds vs) : RelAll ok h (d :: ds) (v :: vs) := by
  simp only [RelAll]; exact ⟨v, vs, rfl, a, b⟩
theorem RelAll.nil' {ok : Addr → Prop} {h : Heap} : RelAll ok h [] [] := by simp only [RelAll]
theorem RelAll.append {ok : Addr → Prop} {h : Heap} : ∀ {ds es : List D} {vs us : List Value}, RelAll ok h ds vs → RelAll ok h es us → RelAll ok h (ds ++ es) (vs ++ us)
  | [], _, _, _, a, b => by simp only [RelAll] at a; subst a; exact b
  | d :: ds, es, _, us, a, b => by
    obtain ⟨v, t, rfl, h1, h2⟩ := a
    exact RelAll.cons' h1 (RelAll.append h2 b)

/-- what the whole proof stands on -/
structure W0 where
  w : World
  base : Heap
  mg : Str → Option Value
  mb : Str → Option Value
  kin : (hd.heap_1 w.params).In base
  g : base.Ns mainGlobals mg
  b : base.Ns builtinsNs mb
  bi : ∀ x : Str, x ≠ "__name__" → mb x = bootBuiltins x
  nolim : base.NoLimit
  nodig : ∃ mc, base.Ns cStatics mc ∧ mc "sys.int_max_str_digits" = none
  notab : base.get? 99 = none

noncomputable abbrev prg : Program := PySem.Challenge.rw_uy0002_01.row.prog
noncomputable abbrev W0.M (G : W0) : Model := model prg G.w

noncomputable def FX (base h : Heap) (env : Env) : Prop := ∃ L o es ep, env.frame = some L ∧ base.get? L = none ∧ L ≠ 99 ∧ h.get? L = some o ∧ o.data = .dict es ep
noncomputable def FF (base h : Heap) : List Env → Prop
  | [] => True
  | env :: r => env.scope.kind ≠ .module ∧ FX base h env ∧ FF base h r
theorem FF.map {base h base' h' : Heap} (f : ∀ env, FX base h env → FX base' h' env) : ∀ {l : List Env}, FF base h l → FF base' h' l
  | [], _ => trivial
  | _ :: _, x => ⟨x.1, f _ x.2.1, FF.map f x.2.2⟩
theorem FF.kept {base h h' : Heap} (k : Kept h h') {l : List Env} (x : FF base h l) : FF base h' l := x.map fun env y => by
  obtain ⟨L, o, es, ep, b, c, n, d, e⟩ := y
  obtain ⟨sl, e1, _⟩ := k L o n d
  exact ⟨L, _, es, ep, b, c, n, e1, e⟩

structure Cx (G : W0) (n : Nat) (A : Around) (s : Shared) : Prop where
  stays : G.base.StaysIn s.heap
  tab : TabOk s.heap
  fr : ∃ outer, A.frames = some outer ∧ FF G.base s.heap outer
  hh : A.handled = none
  dep : A.depth + n ≤ 990
  un : A.units + 20 * n ≤ 9800
  bare : AllBare s.gens

structure Ext (s s' : Shared) : Prop where
  kept : Kept s.heap s'.heap
  os : s'.os = s.os
  gens : ∀ (i : Nat) (g : GenState), s.gens[i]? = some g → s'.gens[i]? = some g
theorem Ext.refl (s : Shared) : Ext s s := ⟨.refl _, rfl, fun _ _ e => e⟩
theorem Ext.trans {a b c : Shared} (x : Ext a b) (y : Ext b c) : Ext a c := ⟨x.kept.trans y.kept, y.os.trans x.os, fun i g e => y.gens i g (x.gens i g e)⟩

/-- after a step -/
noncomputable def Aft (G : W0) (n : Nat) (A : Around) (s s' : Shared) : Prop := Ext s s' ∧ Cx G n A s'
theorem Aft.trans {G : W0} {n n' : Nat} {A A' : Around} {a b c : Shared} (x : Aft G n A a b) (y : Aft G n' A' b c) : Aft G n' A' a c := ⟨x.1.trans y.1, y.2⟩
theorem Cx.refl {G : W0} {n : Nat} {A : Around} {s : Shared} (c : Cx G n A s) : Aft G n A s s := ⟨.refl s, c⟩
theorem Cx.keeps {G : W0} {n : Nat} {A : Around} {s : Shared} (c : Cx G n A s) {h' : Heap} {tk : Nat} (k : ∀ b o, s.heap.get? b = some o → h'.get? b = some o) : Aft G n A s { s with heap := h', toks := tk } :=
  ⟨⟨.of k, rfl, fun _ _ e => e⟩, ⟨fun b o e => k b o (c.stays b o e), c.tab.keeps k, let ⟨l, a, b⟩ := c.fr; ⟨l, a, b.kept (.of k)⟩, c.hh, c.dep, c.un, c.bare⟩⟩
theorem Cx.tok {G : W0} {n : Nat} {A : Around} {s : Shared} (c : Cx G n A s) {tk : Nat} : Aft G n A s { s with toks := tk } := c.keeps (h' := s.heap) fun _ _ e => e
theorem Cx.less {G : W0} {n m : Nat} {A : Around} {s : Shared} (c : Cx G n A s) (h : m ≤ n) : Cx G m A s :=
  ⟨c.stays, c.tab, c.fr, c.hh, by have := c.dep; (first | lia | omega), by have := c.un; (first | lia | omega), c.bare⟩
/-- the same surroundings after a callee's -/
theorem Cx.back {G : W0} {n m : Nat} {A A' : Around} {s s' : Shared} (c : Cx G n A s) (e : Ext s s') (c' : Cx G m A' s') : Cx G n A s' :=
  ⟨c'.stays, c'.tab, let ⟨l, a, b⟩ := c.fr; ⟨l, a, b.kept e.kept⟩, c.hh, c.dep, c.un, c'.bare⟩

noncomputable def Var (env : Env) (h : Heap) (x : Str) (v : Value) : Prop :=
  (env.kindOf x = some .local ∧ ∃ m, h.Ns env.locals m ∧ m x = some v) ∨
  ((env.kindOf x = some .cell ∨ env.kindOf x = some .free) ∧ ∃ c, env.cells.lookup x = some c ∧ h.IsCell c (some v))

theorem Var.kept {env : Env} {h h' : Heap} {x : Str} {v : Value} (r : Var env h x v) (t : TabOk h) (k : Kept h h') : Var env h' x v := by
  rcases r with ⟨a, m, b, c⟩ | ⟨a, c, b, d⟩
  · obtain ⟨o, es, ep, ho, hd, _⟩ := id b
    exact .inl ⟨a, m, k.ns (ne_tab t ho (fun _ q => by rw [hd] at q; cases q)) b, c⟩
  · obtain ⟨o, ho, hd⟩ := id d
    exact .inr ⟨a, c, b, k.cell (ne_tab t ho (fun _ q => by rw [hd] at q; cases q)) d⟩

/-- a frame's surroundings -/
structure EnvOk (G : W0) (env : Env) (h : Heap) : Prop where
  kind : env.scope.kind = .function
  glob : env.globals = mainGlobals
  blt : env.builtins = builtinsNs
  ns : ∃ m, h.Ns env.locals m
  nsNew : G.base.get? env.locals = none
  cells : ∀ x c, env.cells.lookup x = some c → (∃ v, h.IsCell c v) ∧ G.base.get? c = none
  apart : ∀ x y c, env.cells.lookup x = some c → env.cells.lookup y = some c → x = y
theorem ns_ne {h : Heap} (t : TabOk h) {a : Addr} {m : Str → Option Value} (n : h.Ns a m) : a ≠ 99 := by
  obtain ⟨o, es, ep, ho, hd, _⟩ := n
  exact ne_tab t ho fun _ q => by rw [hd] at q; cases q
theorem cell_ne {h : Heap} (t : TabOk h) {a : Addr} {v : Option Value} (n : h.IsCell a v) : a ≠ 99 := by
  obtain ⟨o, ho, hd⟩ := n
  exact ne_tab t ho fun _ q => by rw [hd] at q; cases q
theorem EnvOk.kept {G : W0} {env : Env} {h h' : Heap} (e : EnvOk G env h) (t : TabOk h) (k : Kept h h') : EnvOk G env h' :=
  ⟨e.kind, e.glob, e.blt, let ⟨m, x⟩ := e.ns; ⟨m, k.ns (ns_ne t x) x⟩, e.nsNew, fun x c q => let ⟨⟨v, a⟩, b⟩ := e.cells x c q; ⟨⟨v, k.cell (cell_ne t a) a⟩, b⟩, e.apart⟩

structure Sat (G : W0) (ok : Addr → Prop) (env : Env) (ρ : List (String × D)) (s : Shared) : Prop where
  eo : EnvOk G env s.heap
  fresh : ∀ b, s.heap.get? b = none → ok b
  vars : ∀ p ∈ ρ, ∃ v, Var env s.heap (Str.ofString p.1) v ∧ Rel ok s.heap p.2 v

theorem Kept.none {h h' : Heap} (k : Kept h h') {b : Addr} (hb : b ≠ 99) (e : h'.get? b = none) : h.get? b = none := by
  cases q : h.get? b with
  | none => rfl
  | some o => obtain ⟨sl, e1, _⟩ := k b o hb q; rw [e] at e1; cases e1
theorem Cx.not99 {G : W0} {n : Nat} {A : Around} {s : Shared} (c : Cx G n A s) {b : Addr} (e : s.heap.get? b = none) : b ≠ 99 := fun q => by
  subst q; obtain ⟨vs, e2⟩ := c.tab.fields; rw [e] at e2; cases e2
theorem Sat.aft {G : W0} {n m : Nat} {A A' : Around} {ok : Addr → Prop} {env : Env} {ρ : List (String × D)} {s s' : Shared} (S : Sat G ok env ρ s) (c : Cx G n A s) (a : Aft G m A' s s') : Sat G ok env ρ s' :=
  ⟨S.eo.kept c.tab a.1.kept, fun b e => S.fresh b (a.1.kept.none (a.2.not99 e) e), fun p hp => let ⟨v, h1, h2⟩ := S.vars p hp; ⟨v, h1.kept c.tab a.1.kept, h2.kept c.tab a.1.kept⟩⟩

/-- evaluation of an expression: to d, the heap only extended -/
noncomputable def Ev (G : W0) (n : Nat) (A : Around) (env : Env) (ok : Addr → Prop) (ρ : List (String × D)) (e : Expr) (d : D) : Prop :=
  ∀ s, Cx G n A s → Sat G ok env ρ s → wpAny G.M A (eval e env) (fun v s' => Aft G n A s s' ∧ Rel ok s'.heap d v) (fun _ _ => False) s

section
variable {G : W0} {n : Nat} {A : Around} {env : Env} {ok : Addr → Prop} {ρ : List (String × D)}

theorem Ev.to {α : Type} {t : Sem α} {P Q : α → Shared → Prop} {E : Value → Shared → Prop} {s : Shared} {M : Model} (h : wpAny M A t P (fun _ _ => False) s) (k : ∀ v s', P v s' → Q v s') : wpAny M A t Q E s :=
  wpAny_mono h k fun _ _ f => f.elim

theorem ev_int {i : Int} {k : Nat} {pos : Pos} : Ev G n A env ok ρ (.Constant (.int i) k pos) (.int i) := fun s c S =>
  wpAny_Constant_int ⟨c.tok, ⟨_, rfl⟩⟩
theorem ev_none {k : Nat} {pos : Pos} : Ev G n A env ok ρ (.Constant .none k pos) .none := fun s c S => by
  rw [eval_Constant]; exact wpAny_pure ⟨c.refl, rfl⟩
theorem ev_str {x : Str} {k : Nat} {pos : Pos} : Ev G n A env ok ρ (.Constant (.str x) k pos) (.str x) := fun s c S => by
  rw [eval_Constant]; exact wpAny_mkText ⟨c.tok, ⟨_, rfl⟩⟩

theorem load_var {x : Str} {v : Value} {s : Shared} {Q : Value → Shared → Prop} {E : Value → Shared → Prop} {M : Model} (hk : env.scope.kind = .function) (V : Var env s.heap x v) (hx : (x == ("__classdict__" : Str)) = false) (h : Q v s) :
    wpAny M A (loadName env x) Q E s := by
  rcases V with ⟨a, m, b, c⟩ | ⟨a | a, c, b, d⟩
  · exact wpAny_loadName_local hk a b c h
  · exact wpAny_loadName_cell hk a b d h
  · exact wpAny_loadName_free hk a b d h hx

theorem ev_name {x : String} {d : D} {pos : Pos} (hm : (x, d) ∈ ρ) (h1 : (Str.ofString x == ("__debug__" : Str)) = false := by decide) (h2 : (Str.ofString x == ("__classdict__" : Str)) = false := by decide) :
    Ev G n A env ok ρ (.Name (Str.ofString x) pos) d := fun s c S => by
  obtain ⟨v, V, R⟩ := S.vars _ hm
  exact wpAny_Name (load_var S.eo.kind V h2 ⟨c.refl, R⟩) h1

theorem ev_bin {l r : Expr} {op : Operator} {pos : Pos} {d1 d2 d : D} (hl : Ev G n A env ok ρ l d1) (hr : Ev G n A env ok ρ r d2)
    (hop : ∀ s a b, Cx G n A s → (∀ b, s.heap.get? b = none → ok b) → Rel ok s.heap d1 a → Rel ok s.heap d2 b → wpAny G.M A (binaryOp op a b) (fun v s' => Aft G n A s s' ∧ Rel ok s'.heap d v) (fun _ _ => False) s) :
    Ev G n A env ok ρ (.BinOp l op r pos) d := fun s c S => by
  refine wpAny_BinOp (Ev.to (hl s c S) fun a s₁ h00 => ?_)
  obtain ⟨a1, r1⟩ := h00
  refine Ev.to (hr s₁ a1.2 (S.aft c a1)) fun b s₂ h00 => ?_
  obtain ⟨a2, r2⟩ := h00
  refine Ev.to (hop s₂ a b a2.2 (S.aft c (a1.trans a2)).fresh (r1.kept a1.2.tab a2.1.kept) r2) fun v s₃ h00 => ?_
  obtain ⟨a3, r3⟩ := h00
  exact ⟨(a1.trans a2).trans a3, r3⟩

theorem ev_add {l r : Expr} {pos : Pos} {a b : Int} (hl : Ev G n A env ok ρ l (.int a)) (hr : Ev G n A env ok ρ r (.int b)) : Ev G n A env ok ρ (.BinOp l .Add r pos) (.int (a + b)) :=
  ev_bin hl hr fun s x y c f ⟨t, hx⟩ ⟨u, hy⟩ => by subst hx hy; exact add_int ⟨c.tok, ⟨_, rfl⟩⟩
end
end Mine
/-! A2 -/
namespace Mine
section
variable {G : W0} {n : Nat} {A : Around} {env : Env} {ok : Addr → Prop} {ρ : List (String × D)}

theorem ev_sub {l r : Expr} {pos : Pos} {a b : Int} (hl : Ev G n A env ok ρ l (.int a)) (hr : Ev G n A env ok ρ r (.int b)) : Ev G n A env ok ρ (.BinOp l .Sub r pos) (.int (a - b)) :=
  ev_bin hl hr fun s x y c f ⟨t, hx⟩ ⟨u, hy⟩ => by subst hx hy; exact sub_int' ⟨c.tok, ⟨_, rfl⟩⟩
theorem ev_mul {l r : Expr} {pos : Pos} {a b : Int} (hl : Ev G n A env ok ρ l (.int a)) (hr : Ev G n A env ok ρ r (.int b)) (hb : b.natAbs < 2 ^ 64) : Ev G n A env ok ρ (.BinOp l .Mult r pos) (.int (a * b)) :=
  ev_bin hl hr fun s x y c f ⟨t, hx⟩ ⟨u, hy⟩ => by subst hx hy; exact PyProof.Rows.mul_int ⟨c.tok, ⟨_, rfl⟩⟩ (IntMulOk.of_right (intBits_le hb))
theorem noPylong {a b : Int} (hb : b.natAbs < 2 ^ 64) : Builtin.divisionGoesByPylong a b = false := by
  unfold Builtin.divisionGoesByPylong
  have h : b.natAbs.log2 < 64 := by
    by_cases h0 : b.natAbs = 0
    · rw [h0]; decide
    · exact (Nat.log2_lt h0).mpr hb
  simp only [Bool.and_eq_false_iff, decide_eq_false_iff_not]
  left
  split <;> (first | lia | omega)
theorem ev_fdiv {l r : Expr} {pos : Pos} {a b : Int} (hl : Ev G n A env ok ρ l (.int a)) (hr : Ev G n A env ok ρ r (.int b)) (h0 : 0 < b) (hb : b.natAbs < 2 ^ 64) : Ev G n A env ok ρ (.BinOp l .FloorDiv r pos) (.int (a / b)) :=
  ev_bin hl hr fun s x y c f ⟨t, hx⟩ ⟨u, hy⟩ => by
    subst hx hy
    refine floordiv_int (by omega) ⟨c.tok, ⟨_, by rw [Int.fdiv_eq_ediv_of_nonneg _ (by omega)]⟩⟩ (.inl (noPylong hb))
theorem ev_mod {l r : Expr} {pos : Pos} {a b : Int} (hl : Ev G n A env ok ρ l (.int a)) (hr : Ev G n A env ok ρ r (.int b)) (h0 : 0 < b) : Ev G n A env ok ρ (.BinOp l .Mod r pos) (.int (a % b)) :=
  ev_bin hl hr fun s x y c f ⟨t, hx⟩ ⟨u, hy⟩ => by
    subst hx hy
    exact mod_int' (by (first | lia | omega)) ⟨c.tok, ⟨_, by rw [Int.fmod_eq_emod_of_nonneg _ (by (first | lia | omega))]⟩⟩
theorem ev_pow {l r : Expr} {pos : Pos} {a : Int} {k : Nat} (hl : Ev G n A env ok ρ l (.int a)) (hr : Ev G n A env ok ρ r (.int k)) (h1 : k ≤ 1000000) (ha : a.natAbs < 2 ^ 64) : Ev G n A env ok ρ (.BinOp l .Pow r pos) (.int (a ^ k)) :=
  ev_bin hl hr fun s x y c f ⟨t, hx⟩ ⟨u, hy⟩ => by
    subst hx hy
    exact pow_int_small (by (first | lia | omega)) (by (first | lia | omega)) ha ⟨c.tok, ⟨s.toks, by rw [Int.toNat_natCast]⟩⟩
theorem ev_shl {l r : Expr} {pos : Pos} {a : Int} {k : Nat} (hl : Ev G n A env ok ρ l (.int a)) (hr : Ev G n A env ok ρ r (.int k)) (h1 : k ≤ 1000000) (ha : a.natAbs < 2 ^ 64) : Ev G n A env ok ρ (.BinOp l .LShift r pos) (.int (a * 2 ^ k)) :=
  ev_bin hl hr fun s x y c f ⟨t, hx⟩ ⟨u, hy⟩ => by
    subst hx hy
    exact lshift_int_small (by (first | lia | omega)) (by (first | lia | omega)) ha ⟨c.tok, ⟨s.toks, by rw [Int.toNat_natCast]⟩⟩
theorem ev_and {l r : Expr} {pos : Pos} {a b : Int} (hl : Ev G n A env ok ρ l (.int a)) (hr : Ev G n A env ok ρ r (.int b)) : Ev G n A env ok ρ (.BinOp l .BitAnd r pos) (.int (Builtin.bitAnd a b)) :=
  ev_bin hl hr fun s x y c f ⟨t, hx⟩ ⟨u, hy⟩ => by subst hx hy; exact and_int ⟨c.tok, ⟨_, rfl⟩⟩
theorem ev_addS {l r : Expr} {pos : Pos} {a b : Str} (hl : Ev G n A env ok ρ l (.str a)) (hr : Ev G n A env ok ρ r (.str b)) (hz : a.length + b.length ≤ sizeLine) : Ev G n A env ok ρ (.BinOp l .Add r pos) (.str (a ++ b)) :=
  ev_bin hl hr fun s x y c f ⟨t, hx⟩ ⟨u, hy⟩ => by subst hx hy; exact PyProof.Rows.add_str (fun t' tk => ⟨c.tok, ⟨_, rfl⟩⟩) hz

theorem LO.isList {h : Heap} {a : Addr} {vs : List Value} {k : Nat} (e : h.get? a = some (LO vs k)) : h.IsList a vs.toArray := ⟨_, e, rfl, k, rfl⟩
theorem TO.isTup {h : Heap} {a : Addr} {vs : List Value} {k : Nat} (e : h.get? a = some (TO vs k)) : IsTup h a vs.toArray := ⟨_, e, rfl, k, rfl⟩

/-- a new list -/
theorem new_list {s : Shared} {ds : List D} {vs : List Value} (c : Cx G n A s) (f : ∀ b, s.heap.get? b = none → ok b) (r : RelAll ok s.heap ds vs) :
    Aft G n A s { s with heap := s.heap.push (LO vs 0) } ∧ Rel ok (s.heap.push (LO vs 0)) (.list ds) (.ref s.heap.objs.size) := by
  have a := c.keeps (h' := s.heap.push (LO vs 0)) (tk := s.toks) fun b o e => Heap.get?_push_of_some _ e
  refine ⟨a, ?_⟩
  simp only [Rel]
  refine ⟨_, vs, 0, rfl, f _ ?_, Heap.get?_push_size _ rfl, r.kept c.tab a.1.kept⟩
  cases q : s.heap.get? s.heap.objs.size with
  | none => rfl
  | some o => exact absurd (Heap.lt_size q) (Nat.lt_irrefl _)
theorem new_tup {s : Shared} {ds : List D} {vs : List Value} (c : Cx G n A s) (f : ∀ b, s.heap.get? b = none → ok b) (r : RelAll ok s.heap ds vs) :
    Aft G n A s { s with heap := s.heap.push (TO vs 0) } ∧ Rel ok (s.heap.push (TO vs 0)) (.tup ds) (.ref s.heap.objs.size) := by
  have a := c.keeps (h' := s.heap.push (TO vs 0)) (tk := s.toks) fun b o e => Heap.get?_push_of_some _ e
  refine ⟨a, ?_⟩
  simp only [Rel]
  refine ⟨_, vs, 0, rfl, f _ ?_, Heap.get?_push_size _ rfl, r.kept c.tab a.1.kept⟩
  cases q : s.heap.get? s.heap.objs.size with
  | none => rfl
  | some o => exact absurd (Heap.lt_size q) (Nat.lt_irrefl _)
theorem no_get {h : Heap} : h.get? h.objs.size = none := by
  cases q : h.get? h.objs.size with
  | none => rfl
  | some o => exact absurd (Heap.lt_size q) (Nat.lt_irrefl _)

theorem ev_addL {l r : Expr} {pos : Pos} {a b : List D} (hl : Ev G n A env ok ρ l (.list a)) (hr : Ev G n A env ok ρ r (.list b)) (hz : a.length + b.length ≤ sizeLine) : Ev G n A env ok ρ (.BinOp l .Add r pos) (.list (a ++ b)) :=
  ev_bin hl hr fun s x y c f hx hy => by
    obtain ⟨p, vs, k, rfl, hp, hg, r1⟩ := hx
    obtain ⟨q, us, j, rfl, hq, hg', r2⟩ := hy
    have hz' : vs.toArray.size + us.toArray.size ≤ sizeLine := by simp [r1.length, r2.length]; exact hz
    have key := new_list (ok := ok) (vs := vs ++ us) c f (r1.append r2)
    refine P.add_list (n := k) (n2 := j) hg hg' ?_ (by first | exact hz' | (first | lia | omega))
    simpa using key

/-- displays -/
noncomputable def Evs (G : W0) (n : Nat) (A : Around) (env : Env) (ok : Addr → Prop) (ρ : List (String × D)) (es : List Expr) (ds : List D) : Prop :=
  ∀ pos s, Cx G n A s → Sat G ok env ρ s → wpAny G.M A (spliced (backTo pos (starEach es env))) (fun vs s' => Aft G n A s s' ∧ RelAll ok s'.heap ds vs) (fun _ _ => False) s
theorem evs_nil : Evs G n A env ok ρ [] [] := fun pos s c S => by
  simp only [starEach, backTo, List.map_nil, spliced]
  exact wpAny_pure ⟨c.refl, RelAll.nil'⟩
theorem evs_cons {e : Expr} {es : List Expr} {d : D} {ds : List D} (h : Ev G n A env ok ρ e d) (hs : Evs G n A env ok ρ es ds) (he : ∀ rest : List Expr, starEach (e :: rest) env = (false, eval e env) :: starEach rest env := by intro _; rfl) :
    Evs G n A env ok ρ (e :: es) (d :: ds) := fun pos s c S => by
  rw [he]
  simp only [backTo, List.map_cons, spliced, Bool.false_eq_true, if_false]
  refine wpAny_bind (Ev.to (h s c S) fun v s₁ h00 => ?_)
  obtain ⟨a1, r1⟩ := h00
  refine wpAny_bind (wpAny_pure (wpAny_bind (wpAny_holding (Ev.to (hs pos s₁ a1.2 (S.aft c a1)) fun vs s₂ h00 => ?_))))
  obtain ⟨a2, r2⟩ := h00
  exact wpAny_pure ⟨a1.trans a2, RelAll.cons' (r1.kept a1.2.tab a2.1.kept) r2⟩
theorem ev_list {es : List Expr} {pos : Pos} {ds : List D} (h : Evs G n A env ok ρ es ds) (hz : ds.length ≤ sizeLine := by decide) : Ev G n A env ok ρ (.List es pos) (.list ds) := fun s c S => by
  refine List_ (Ev.to (h pos s c S) fun vs s₁ h00 => ?_)
  obtain ⟨a1, r1⟩ := h00
  have key := new_list a1.2 (S.aft c a1).fresh r1
  refine wpAny_newObj_type ⟨a1.trans key.1, key.2⟩ (by show vs.toArray.size ≤ sizeLine; simp [r1.length]; exact hz)
theorem ev_tup {es : List Expr} {k : Nat} {pos : Pos} {ds : List D} (h : Evs G n A env ok ρ es ds) (hz : ds.length ≤ sizeLine := by decide) : Ev G n A env ok ρ (.Tuple es k pos) (.tup ds) := fun s c S => by
  refine Tuple_ (Ev.to (h pos s c S) fun vs s₁ h00 => ?_)
  obtain ⟨a1, r1⟩ := h00
  have key := new_tup a1.2 (S.aft c a1).fresh r1
  refine wpAny_newObj_type ⟨a1.trans key.1, key.2⟩ (by show vs.toArray.size ≤ sizeLine; simp [r1.length]; exact hz)

/-- comparisons, one sign -/
theorem ev_cmp {l r : Expr} {op : CmpOp} {pos : Pos} {d1 d2 : D} {b : Bool} (hl : Ev G n A env ok ρ l d1) (hr : Ev G n A env ok ρ r d2)
    (hop : ∀ s x y, Cx G n A s → Rel ok s.heap d1 x → Rel ok s.heap d2 y → wpAny G.M A (compareOp op x y) (fun v s' => Aft G n A s s' ∧ v = .bool b) (fun _ _ => False) s)
    (hm : behindInMarks op r = false := by rfl) : Ev G n A env ok ρ (.Compare l [op] [r] pos) (.bool b) := fun s c S => by
  refine wpAny_Compare1 (Ev.to (hl s c S) fun x s₁ h00 => ?_) hm
  obtain ⟨a1, r1⟩ := h00
  refine Ev.to (hr s₁ a1.2 (S.aft c a1)) fun y s₂ h00 => ?_
  obtain ⟨a2, r2⟩ := h00
  refine Ev.to (hop s₂ x y a2.2 (r1.kept a1.2.tab a2.1.kept) r2) fun v s₃ h00 => ?_
  obtain ⟨a3, e⟩ := h00
  exact ⟨(a1.trans a2).trans a3, e⟩

/-- a test -/
noncomputable def Tst (G : W0) (n : Nat) (A : Around) (env : Env) (ok : Addr → Prop) (ρ : List (String × D)) (e : Expr) (b : Bool) : Prop :=
  ∀ s, Cx G n A s → Sat G ok env ρ s → wpAny G.M A (isTrue e env (eval e env)) (fun v s' => Aft G n A s s' ∧ v = b) (fun _ _ => False) s
theorem tst_cmp {l r : Expr} {op : CmpOp} {pos : Pos} {d1 d2 : D} {b : Bool} (hl : Ev G n A env ok ρ l d1) (hr : Ev G n A env ok ρ r d2)
    (hop : ∀ s x y, Cx G n A s → Rel ok s.heap d1 x → Rel ok s.heap d2 y → wpAny G.M A (compareOp op x y) (fun v s' => Aft G n A s s' ∧ v = .bool b) (fun _ _ => False) s)
    (hm : behindInMarks op r = false := by rfl) : Tst G n A env ok ρ (.Compare l [op] [r] pos) b := fun s c S => by
  refine wpAny_isTrue_Compare1 (Ev.to (hl s c S) fun x s₁ h00 => ?_) hm
  obtain ⟨a1, r1⟩ := h00
  refine Ev.to (hr s₁ a1.2 (S.aft c a1)) fun y s₂ h00 => ?_
  obtain ⟨a2, r2⟩ := h00
  exact Ev.to (hop s₂ x y a2.2 (r1.kept a1.2.tab a2.1.kept) r2) fun v s₃ ⟨a3, e⟩ => by subst e; exact wpAny_truthy_bool ⟨(a1.trans a2).trans a3, rfl⟩

/-- what a comparison says -/
noncomputable def Cmp (G : W0) (n : Nat) (A : Around) (ok : Addr → Prop) (op : CmpOp) (d1 d2 : D) (b : Bool) : Prop :=
  ∀ s x y, Cx G n A s → Rel ok s.heap d1 x → Rel ok s.heap d2 y → wpAny G.M A (compareOp op x y) (fun v s' => Aft G n A s s' ∧ v = .bool b) (fun _ _ => False) s
theorem cmp_lt {a b : Int} : Cmp G n A ok .Lt (.int a) (.int b) (decide (a < b)) := fun s x y c ⟨t, hx⟩ ⟨u, hy⟩ => by subst hx hy; exact wpAny_lt_int ⟨c.refl, rfl⟩
theorem cmp_gt {a b : Int} : Cmp G n A ok .Gt (.int a) (.int b) (decide (a > b)) := fun s x y c ⟨t, hx⟩ ⟨u, hy⟩ => by subst hx hy; exact P.gt_int ⟨c.refl, rfl⟩
theorem cmp_ge {a b : Int} : Cmp G n A ok .GtE (.int a) (.int b) (decide (a ≥ b)) := fun s x y c ⟨t, hx⟩ ⟨u, hy⟩ => by subst hx hy; exact P.ge_int ⟨c.refl, rfl⟩
theorem cmp_eq {a b : Int} : Cmp G n A ok .Eq (.int a) (.int b) (a == b) := fun s x y c ⟨t, hx⟩ ⟨u, hy⟩ => by subst hx hy; exact PyProof.Rows.eq_int ⟨c.refl, rfl⟩
theorem cmp_ne {a b : Int} : Cmp G n A ok .NotEq (.int a) (.int b) (a != b) := fun s x y c ⟨t, hx⟩ ⟨u, hy⟩ => by subst hx hy; exact P.ne_int ⟨c.refl, rfl⟩
theorem cmp_ltS {a b : Str} : Cmp G n A ok .Lt (.str a) (.str b) (decide (a.cps.toList < b.cps.toList)) := fun s x y c ⟨t, hx⟩ ⟨u, hy⟩ => by subst hx hy; exact P.lt_str ⟨c.refl, rfl⟩
theorem cmp_gtS {a b : Str} : Cmp G n A ok .Gt (.str a) (.str b) (decide (b.cps.toList < a.cps.toList)) := fun s x y c ⟨t, hx⟩ ⟨u, hy⟩ => by subst hx hy; exact P.gt_str ⟨c.refl, rfl⟩
theorem cmp_isNone : Cmp G n A ok .Is .none .none true := fun s x y c hx hy => by
  subst hx hy; exact wpAny_is_plain rfl ⟨c.refl, rfl⟩
theorem cmp_isNot {a : Addr} : Cmp G n A ok .Is (.val (.ref a)) .none false := fun s x y c hx hy => by
  subst hx hy; exact wpAny_is_plain rfl ⟨c.refl, rfl⟩
theorem cmp_isNotI {i : Int} : Cmp G n A ok .Is (.int i) .none false := fun s x y c ⟨t, hx⟩ hy => by
  subst hx hy; exact wpAny_is_plain rfl ⟨c.refl, rfl⟩
end
end Mine
/-! A3 -/
namespace Mine
section
variable {G : W0} {n : Nat} {A : Around} {env : Env} {ok : Addr → Prop} {ρ : List (String × D)}

theorem RelAll.drop {h : Heap} : ∀ {ds : List D} {vs : List Value} (k : Nat), RelAll ok h ds vs → RelAll ok h (ds.drop k) (vs.drop k)
  | ds, vs, 0, r => by simpa using r
  | [], vs, k + 1, r => by simp only [RelAll] at r; subst r; simp [RelAll]
  | d :: ds, vs, k + 1, r => by
    obtain ⟨v, t, rfl, _, h2⟩ := r
    simpa using RelAll.drop k h2
theorem RelAll.take {h : Heap} : ∀ {ds : List D} {vs : List Value} (k : Nat), RelAll ok h ds vs → RelAll ok h (ds.take k) (vs.take k)
  | ds, vs, 0, r => by simp [RelAll]
  | [], vs, k + 1, r => by simp only [RelAll] at r; obtain rfl := r; simp [RelAll]
  | d :: ds, vs, k + 1, r => by
    obtain ⟨v, t, rfl, h1, h2⟩ := r
    simpa using RelAll.cons' h1 (RelAll.take k h2)

theorem ev_neg {e : Expr} {pos : Pos} {a : Int} (h : Ev G n A env ok ρ e (.int a)) : Ev G n A env ok ρ (.UnaryOp .USub e pos) (.int (-a)) := fun s c S => by
  show wpAny _ _ (do let v ← eval e env; standAt pos; holding [v] (unaryOp .USub v)) _ _ s
  refine wpAny_bind (Ev.to (h s c S) fun v s₁ h00 => ?_)
  obtain ⟨a1, r1⟩ := h00
  refine wpAny_bind (wpAny_standAt (wpAny_holding ?_))
  obtain ⟨t, rfl⟩ := r1
  exact P.neg_int ⟨a1.trans a1.2.tok, ⟨_, rfl⟩⟩

theorem ev_sub' {value slice : Expr} {pos : Pos} {d1 d2 d : D} (hv : Ev G n A env ok ρ value d1) (hs : Ev G n A env ok ρ slice d2)
    (hop : ∀ s o i, Cx G n A s → (∀ b, s.heap.get? b = none → ok b) → Rel ok s.heap d1 o → Rel ok s.heap d2 i → wpAny G.M A (subscriptTail value slice o i) (fun v s' => Aft G n A s s' ∧ Rel ok s'.heap d v) (fun _ _ => False) s) :
    Ev G n A env ok ρ (.Subscript value slice pos) d := fun s c S => by
  refine Subscript_ (Ev.to (hv s c S) fun a s₁ h00 => ?_)
  obtain ⟨a1, r1⟩ := h00
  refine Ev.to (hs s₁ a1.2 (S.aft c a1)) fun b s₂ h00 => ?_
  obtain ⟨a2, r2⟩ := h00
  refine Ev.to (hop s₂ a b a2.2 (S.aft c (a1.trans a2)).fresh (r1.kept a1.2.tab a2.1.kept) r2) fun v s₃ h00 => ?_
  obtain ⟨a3, r3⟩ := h00
  exact ⟨(a1.trans a2).trans a3, r3⟩

noncomputable abbrev PlainSlice (slice : Expr) : Prop := ∀ o i, subscripted slice false o i = operate [o, i] (getItem o i)

theorem ev_item {value slice : Expr} {pos : Pos} {ds : List D} {k : Int} {d : D} (hv : Ev G n A env ok ρ value (.list ds)) (hs : Ev G n A env ok ρ slice (.int k)) (h0 : 0 ≤ k) (hk : k < 2 ^ 63) (hd : ds[k.toNat]? = some d)
    (hp : PlainSlice slice := by intro _ _; rfl) : Ev G n A env ok ρ (.Subscript value slice pos) d :=
  ev_sub' hv hs fun s o i c f ho ⟨t, hi⟩ => by
    obtain ⟨p, vs, j, rfl, _, hg, r1⟩ := ho
    subst hi
    obtain ⟨v, e, r⟩ := r1.get hd
    exact tail_any (LO.isList hg).typeIs slot_list_getitem.lookup (wpAny_getItem_list (LO.isList hg) h0 hk (by simpa using e) ⟨c.refl, r⟩) (hp _ _)
theorem ev_last {value slice : Expr} {pos : Pos} {ds : List D} {d : D} (hv : Ev G n A env ok ρ value (.list ds)) (hs : Ev G n A env ok ρ slice (.int (-1))) (hd : ds.getLast? = some d)
    (hp : PlainSlice slice := by intro _ _; rfl) : Ev G n A env ok ρ (.Subscript value slice pos) d :=
  ev_sub' hv hs fun s o i c f ho ⟨t, hi⟩ => by
    obtain ⟨p, vs, j, rfl, _, hg, r1⟩ := ho
    subst hi
    have hne : ds ≠ [] := fun q => by subst q; simp at hd
    have hlen : 0 < ds.length := List.length_pos_iff.mpr hne
    have hvl := r1.length
    rw [List.getLast?_eq_getElem?] at hd
    obtain ⟨v, e, r⟩ := r1.get hd
    refine tail_any (LO.isList hg).typeIs slot_list_getitem.lookup (wpAny_getItem_list_neg (x := v) (LO.isList hg) (by decide) (by simp; (first | lia | omega)) (by decide) ?_ ⟨c.refl, r⟩) (hp _ _)
    have : (-1 + (vs.toArray.size : Int)).toNat = ds.length - 1 := by simp; (first | lia | omega)
    rw [this]; simpa using e
theorem ev_itemT {value slice : Expr} {pos : Pos} {ds : List D} {k : Nat} {d : D} (hv : Ev G n A env ok ρ value (.tup ds)) (hs : Ev G n A env ok ρ slice (.int k)) (hk : (k : Int) < 2 ^ 63) (hd : ds[k]? = some d)
    (hp : PlainSlice slice := by intro _ _; rfl) : Ev G n A env ok ρ (.Subscript value slice pos) d :=
  ev_sub' hv hs fun s o i c f ho ⟨t, hi⟩ => by
    obtain ⟨p, vs, j, rfl, _, hg, r1⟩ := ho
    subst hi
    obtain ⟨v, e, r⟩ := r1.get hd
    have hlt : k < vs.length := (List.getElem?_eq_some_iff.mp e).1
    refine item_tupleT (TO.isTup hg) (by (first | lia | omega)) hk (j := k) ?_ e ⟨c.refl, r⟩ (hp _ _)
    rw [seqIndex_of (by (first | lia | omega)) (by (first | lia | omega))]; simp
theorem ev_itemS {value slice : Expr} {pos : Pos} {x : Str} {k : Int} {ch : Nat} (hv : Ev G n A env ok ρ value (.str x)) (hs : Ev G n A env ok ρ slice (.int k)) (h0 : 0 ≤ k) (hk : k < 2 ^ 63) (hd : x.cps[k.toNat]? = some ch)
    (hp : PlainSlice slice := by intro _ _; rfl) : Ev G n A env ok ρ (.Subscript value slice pos) (.str ⟨#[ch]⟩) :=
  ev_sub' hv hs fun s o i c f ⟨u, ho⟩ ⟨t, hi⟩ => by
    subst ho hi
    have hlt : k.toNat < x.cps.size := (Array.getElem?_eq_some_iff.mp hd).1
    have hx : x.length = x.cps.size := rfl
    refine tail_any (typeIs_str _ _ _) F.slot_str_getitem.lookup (P.getItem_str (by simp only [Bool.or_eq_false_iff, decide_eq_false_iff_not]; (first | lia | omega)) (c := ch) ?_ ⟨c.tok, ⟨_, rfl⟩⟩) (hp _ _)
    rw [seqIndex_of h0 (by (first | lia | omega))]; exact hd

/-- a slice's bound -/
noncomputable def Part (G : W0) (n : Nat) (A : Around) (env : Env) (ok : Addr → Prop) (ρ : List (String × D)) (e : Option Expr) (k : Option Int) : Prop :=
  ∀ s, Cx G n A s → Sat G ok env ρ s → wpAny G.M A (evalPart e env) (fun v s' => Aft G n A s s' ∧ (match k with | none => v = .none | some i => ∃ t, v = .int i t)) (fun _ _ => False) s
theorem part_none : Part G n A env ok ρ none none := fun s c S => by rw [evalPart_none]; exact wpAny_pure ⟨c.refl, rfl⟩
theorem part_some {e : Expr} {k : Int} (h : Ev G n A env ok ρ e (.int k)) : Part G n A env ok ρ (some e) (some k) := fun s c S => by
  rw [evalPart_some]; exact Ev.to (h s c S) fun v s' ⟨a, r⟩ => ⟨a, r⟩
theorem isPart {k : Option Int} {v : Value} (h : match k with | none => v = .none | some i => ∃ t, v = .int i t) : IsPart v k := by
  cases k with
  | none => simp only at h; subst h; exact .none
  | some i => simp only at h; obtain ⟨t, rfl⟩ := h; exact .int i t

theorem ev_slice {value : Expr} {lower upper : Option Expr} {p pos : Pos} {ds : List D} {lo hi : Option Int} (hv : Ev G n A env ok ρ value (.list ds)) (hl : Part G n A env ok ρ lower lo) (hu : Part G n A env ok ρ upper hi) (hz : ds.length ≤ sizeLine)
    (ht : ∀ o r, letTemporaryGo value o r = pure () := by intro _ _; rfl) :
    Ev G n A env ok ρ (.Subscript value (.Slice lower upper none p) pos) (.list ((ds.drop (lo.elim 0 (clipAt ds.length))).take (hi.elim ds.length (clipAt ds.length) - lo.elim 0 (clipAt ds.length)))) := fun s c S => by
  refine wpAny_Subscript_list_slice (Ev.to (hv s c S) fun o s₁ h00 => ?_) ht
  obtain ⟨a1, r1⟩ := h00
  refine Ev.to (hl s₁ a1.2 (S.aft c a1)) fun vl s₂ ⟨a2, r2⟩ => Ev.to (hu s₂ a2.2 (S.aft c (a1.trans a2))) fun vu s₃ h00 => ?_
  obtain ⟨a3, r3⟩ := h00
  have r1' := (r1.kept a1.2.tab a2.1.kept).kept a2.2.tab a3.1.kept
  obtain ⟨q, vs, j, rfl, _, hg, rr⟩ := r1'
  have hlen := rr.length
  have S3 := S.aft c ((a1.trans a2).trans a3)
  refine ⟨q, vs.toArray, lo, hi, rfl, LO.isList hg, by simp; (first | lia | omega), isPart r2, isPart r3, ?_⟩
  have aP := a3.2.keeps (h' := s₃.heap.push { cls := .type "slice", data := .fields #[vl, vu, .none] }) (tk := s₃.toks) fun b o e => Heap.get?_push_of_some _ e
  have r' := (rr.kept a3.2.tab aP.1.kept)
  have key := new_list (ok := ok) aP.2 (S3.aft a3.2 aP).fresh ((r'.drop (lo.elim 0 (clipAt ds.length))).take (hi.elim ds.length (clipAt ds.length) - lo.elim 0 (clipAt ds.length)))
  have e1 : slicePick vs.toArray lo hi none = ((vs.drop (lo.elim 0 (clipAt ds.length))).take (hi.elim ds.length (clipAt ds.length) - lo.elim 0 (clipAt ds.length))).toArray := by
    rw [slicePick_plain]; simp [hlen]
  rw [e1]
  refine ⟨(((a1.trans a2).trans a3).trans aP).trans key.1, ?_⟩
  have k2 := key.2
  rw [Heap.size_push] at k2
  exact k2
end
end Mine
/-! A4 -/
namespace Mine


/-- nothing but the addresses of X has turned -/
structure Mod (X : Addr → Prop) (s s' : Shared) : Prop where
  kept : ∀ b o, b ≠ 99 → ¬ X b → s.heap.get? b = some o → ∃ sl, s'.heap.get? b = some { o with slots := sl } ∧ (NotDict o → sl = o.slots)
  os : s'.os = s.os
  gens : ∀ (i : Nat) (g : GenState), s.gens[i]? = some g → s'.gens[i]? = some g
theorem Mod.refl {X : Addr → Prop} (s : Shared) : Mod X s s := ⟨fun b o _ _ e => ⟨o.slots, e, fun _ => rfl⟩, rfl, fun _ _ e => e⟩
theorem Mod.trans {X : Addr → Prop} {a b c : Shared} (x : Mod X a b) (y : Mod X b c) : Mod X a c :=
  ⟨fun p o hp hx e => by
    obtain ⟨sl, e1, f1⟩ := x.kept p o hp hx e
    obtain ⟨sl', e2, f2⟩ := y.kept p _ hp hx e1
    exact ⟨sl', e2, fun hn => (f2 hn).trans (f1 hn)⟩, y.os.trans x.os, fun i g e => y.gens i g (x.gens i g e)⟩
theorem Ext.mod {X : Addr → Prop} {s s' : Shared} (e : Ext s s') : Mod X s s' := ⟨fun b o h _ => e.kept b o h, e.os, e.gens⟩
theorem Mod.weak {X Y : Addr → Prop} {s s' : Shared} (m : Mod X s s') (h : ∀ a, X a → Y a) : Mod Y s s' := ⟨fun b o hb hy => m.kept b o hb fun x => hy (h b x), m.os, m.gens⟩
/-- what is not in s₀ may have turned -/
theorem Ext.step {X : Addr → Prop} {s₀ s s' : Shared} (e : Ext s₀ s) (m : Mod X s s') (hX : ∀ a, X a → s₀.heap.get? a = none) : Ext s₀ s' :=
  ⟨fun b o hb h => by
    have hx : ¬ X b := fun q => by rw [hX b q] at h; cases h
    obtain ⟨sl, e1, f1⟩ := e.kept b o hb h
    obtain ⟨sl', e2, f2⟩ := m.kept b _ hb hx e1
    exact ⟨sl', e2, fun hn => (f2 hn).trans (f1 hn)⟩, m.os.trans e.os, fun i g q => m.gens i g (e.gens i g q)⟩
theorem Mod.get {X : Addr → Prop} {s s' : Shared} (m : Mod X s s') {b : Addr} {o : Obj} (hb : b ≠ 99) (hx : ¬ X b) (hn : NotDict o) (e : s.heap.get? b = some o) : s'.heap.get? b = some o := by
  obtain ⟨sl, e1, f1⟩ := m.kept b o hb hx e
  rw [e1, f1 hn]
theorem Mod.same {a : Addr} {s s' : Shared} (hs : Heap.SameBut a s.heap s'.heap) (ho : s'.os = s.os) (hg : s'.gens = s.gens) : Mod (· = a) s s' :=
  ⟨fun b o _ hx e => ⟨o.slots, by rw [hs.2 b hx]; exact e, fun _ => rfl⟩, ho, fun i g e => by rw [hg]; exact e⟩

inductive Upd (x : String) (d : D) : List (String × D) → List (String × D) → Prop
  | nil : Upd x d [] [(x, d)]
  | head {o : D} {r : List (String × D)} (h : (r.all fun p => !(Str.ofString p.1 == Str.ofString x)) = true := by rfl) : Upd x d ((x, o) :: r) ((x, d) :: r)
  | tail {y : String} {o : D} {r r' : List (String × D)} (u : Upd x d r r') (h : (Str.ofString y == Str.ofString x) = false := by rfl) : Upd x d ((y, o) :: r) ((y, o) :: r')
theorem Upd.mem {x : String} {d : D} {ρ ρ' : List (String × D)} (u : Upd x d ρ ρ') : ∀ p ∈ ρ', p = (x, d) ∨ (p ∈ ρ ∧ Str.ofString p.1 ≠ Str.ofString x) := by
  induction u with
  | nil => intro p hp; simp at hp; exact .inl hp
  | head h => intro p hp; rcases List.mem_cons.mp hp with e | e
              · exact .inl e
              · exact .inr ⟨List.mem_cons_of_mem _ e, fun q => by have := List.all_eq_true.mp h p e; rw [q] at this; simp at this⟩
  | tail _ hne ih => intro p hp; rcases List.mem_cons.mp hp with e | e
                     · subst e; exact .inr ⟨List.mem_cons_self, fun q => by rw [show (Str.ofString _ == Str.ofString x) = true from beq_iff_eq.mpr q] at hne; cases hne⟩
                     · rcases ih p e with q | ⟨q1, q2⟩
                       · exact .inl q
                       · exact .inr ⟨List.mem_cons_of_mem _ q1, q2⟩

/-- where a name of the frame's own is kept -/
noncomputable def At (env : Env) (x : Str) (a : Addr) : Prop := (env.kindOf x = some .local ∧ a = env.locals) ∨ (env.kindOf x = some .cell ∧ env.cells.lookup x = some a)

section
variable {G : W0} {n : Nat} {A : Around} {env : Env} {ok : Addr → Prop} {ρ : List (String × D)}

theorem FF.same {base h h' : Heap} {a : Addr} (hs : Heap.SameBut a h h') (hd : ∀ o es ep, h.get? a = some o → o.data = .dict es ep → ∃ o' es' ep', h'.get? a = some o' ∧ o'.data = .dict es' ep') {l : List Env} (x : FF base h l) : FF base h' l := x.map fun env y => by
  obtain ⟨L, o, es, ep, b, c, n, d, e⟩ := y
  by_cases q : L = a
  · subst q
    obtain ⟨o', es', ep', e1, e2⟩ := hd o es ep d e
    exact ⟨L, o', es', ep', b, c, n, e1, e2⟩
  · exact ⟨L, o, es, ep, b, c, n, by rw [hs.2 L q]; exact d, e⟩
theorem Cx.same {s s' : Shared} (c : Cx G n A s) {a : Addr} (hs : Heap.SameBut a s.heap s'.heap) (hb : G.base.get? a = none) (h9 : a ≠ 99)
    (hd : ∀ o es ep, s.heap.get? a = some o → o.data = .dict es ep → ∃ o' es' ep', s'.heap.get? a = some o' ∧ o'.data = .dict es' ep')
    (hc : ∀ o vs, s.heap.get? a = some o → o.data = .fields vs → s'.heap.get? a = some o)
    (hg : s'.gens = s.gens) : Cx G n A s' := by
  refine ⟨fun b o e => ?_, ?_, let ⟨l, x, y⟩ := c.fr; ⟨l, x, y.same hs hd⟩, c.hh, c.dep, c.un, by rw [hg]; exact c.bare⟩
  · have hne : b ≠ a := fun q => by subst q; rw [hb] at e; cases e
    rw [hs.2 b hne]; exact c.stays b o e
  · have key : ∀ b, b ≠ a → s'.heap.get? b = s.heap.get? b := hs.2
    rcases c.tab with e | ⟨q, e, hq, r⟩
    · exact .inl ((key 99 (Ne.symm h9)).trans e)
    · refine .inr ⟨q, (key 99 (Ne.symm h9)).trans e, hq, ?_⟩
      obtain ⟨c', o, vs, t, e1, e2, e3, e4⟩ := r
      cases e1
      by_cases hqa : q = a
      · subst hqa; exact ⟨_, o, vs, t, rfl, hc o vs e2 e3, e3, e4⟩
      · exact ⟨_, o, vs, t, rfl, (key q hqa).trans e2, e3, e4⟩


theorem Rel.solid {ok : Addr → Prop} {h h' : Heap} (k : ∀ b o, Solid o → h.get? b = some o → h'.get? b = some o) {d : D} {v : Value} (r : Rel ok h d v) : Rel ok h' d v :=
  Rel.mono (fun b o hb e hs => ⟨hb, k b o hs.solid e⟩) d v r
theorem At.ne_base {s : Shared} {x : Str} {a : Addr} (eo : EnvOk G env s.heap) (hx : At env x a) : G.base.get? a = none := by
  rcases hx with ⟨_, rfl⟩ | ⟨_, e⟩
  · exact eo.nsNew
  · exact (eo.cells _ _ e).2
theorem ns_notcell {h : Heap} {a : Addr} {m : Str → Option Value} {v : Option Value} (x : h.Ns a m) (y : h.IsCell a v) : False := by
  obtain ⟨o, es, ep, e, hd, _⟩ := x
  obtain ⟨o', e', hd'⟩ := y
  rw [e] at e'; cases e'; rw [hd] at hd'; cases hd'

theorem wp_store {x : String} {v : Value} {d : D} {ρ' : List (String × D)} {a : Addr} {s : Shared} {E : Value → Shared → Prop} {Q : Unit → Shared → Prop} (c : Cx G n A s) (S : Sat G ok env ρ s) (hx : At env (Str.ofString x) a) (R : Rel ok s.heap d v) (U : Upd x d ρ ρ')
    (h : ∀ s', Mod (· = a) s s' → Cx G n A s' → Sat G ok env ρ' s' → (∀ b o, Solid o → s.heap.get? b = some o → s'.heap.get? b = some o) → Q () s') : wpAny G.M A (storeName env (Str.ofString x) v) Q E s := by
  have hb := hx.ne_base S.eo
  rcases hx with ⟨hk, rfl⟩ | ⟨hk, hl⟩
  · obtain ⟨m, hn⟩ := S.eo.ns
    have h9 := ns_ne c.tab hn
    refine wpAny_storeName_local hk hn (fun h' hn' hs => ?_) (by rw [S.eo.kind]; rfl)
    have hsol : ∀ b o, Solid o → s.heap.get? b = some o → h'.get? b = some o := fun b o ho e => by
      have hne : b ≠ env.locals := fun q => by
        subst q
        obtain ⟨o', es, ep, e', hd, _⟩ := hn
        rw [e] at e'; cases e'; exact ho.1 _ _ hd
      rw [hs.2 b hne]; exact e
    have hcx : Cx G n A { s with heap := h', toks := s.toks + 1 } := c.same (s' := { s with heap := h', toks := s.toks + 1 }) hs hb h9
      (fun o es ep e hd => by obtain ⟨o', es', ep', e', hd', _⟩ := hn'; exact ⟨o', es', ep', e', hd'⟩)
      (fun o vs e hd => by obtain ⟨o', es', ep', e', hd', _⟩ := hn; rw [e] at e'; cases e'; rw [hd] at hd'; cases hd') rfl
    have ce : ∀ {y : Addr} {u : Option Value}, s.heap.IsCell y u → h'.IsCell y u := fun {y u} q => by
      obtain ⟨o, e, hd⟩ := q
      have hne : y ≠ env.locals := fun p => by subst p; exact ns_notcell hn ⟨o, e, hd⟩
      exact ⟨o, by rw [hs.2 y hne]; exact e, hd⟩
    refine h _ (Mod.same hs rfl rfl) hcx ⟨⟨S.eo.kind, S.eo.glob, S.eo.blt, ⟨_, hn'⟩, S.eo.nsNew, fun y cc q => ?_, S.eo.apart⟩, fun b e => S.fresh b ?_, fun p hp => ?_⟩ hsol
    · obtain ⟨⟨u, q1⟩, q2⟩ := S.eo.cells y cc q
      exact ⟨⟨u, ce q1⟩, q2⟩
    · by_cases q : b = env.locals
      · subst q; obtain ⟨o', es', ep', e', _⟩ := hn'; rw [show h'.get? env.locals = none from e] at e'; cases e'
      · rw [← hs.2 b q]; exact e
    · rcases U.mem p hp with rfl | ⟨hp', hne⟩
      · exact ⟨v, .inl ⟨hk, _, hn', by simp⟩, R.solid hsol⟩
      · obtain ⟨u, V, R'⟩ := S.vars p hp'
        refine ⟨u, ?_, R'.solid hsol⟩
        rcases V with ⟨k1, m', n', e'⟩ | ⟨k1, cc, l1, e'⟩
        · refine .inl ⟨k1, _, hn', ?_⟩
          rw [if_neg hne]
          obtain ⟨o1, es1, ep1, g1, d1, _, f1⟩ := hn
          obtain ⟨o2, es2, ep2, g2, d2, _, f2⟩ := n'
          rw [g1] at g2; cases g2; rw [d1] at d2; cases d2
          rw [← f1, f2]; exact e'
        · exact .inr ⟨k1, cc, l1, ce e'⟩
  · obtain ⟨⟨v₀, hc⟩, _⟩ := S.eo.cells _ _ hl
    have h9 := cell_ne c.tab hc
    refine wpAny_storeName_cell S.eo.kind hk hl hc fun h' hc' hs => ?_
    have hsol : ∀ b o, Solid o → s.heap.get? b = some o → h'.get? b = some o := fun b o ho e => by
      have hne : b ≠ a := fun q => by
        subst q
        obtain ⟨o', e', hd⟩ := hc
        rw [e] at e'; cases e'; exact ho.2 _ hd
      rw [hs.2 b hne]; exact e
    have hcx : Cx G n A { s with heap := h' } := c.same (s' := { s with heap := h' }) hs hb h9
      (fun o es ep e hd => by obtain ⟨o', e', hd'⟩ := hc; rw [e] at e'; cases e'; rw [hd] at hd'; cases hd')
      (fun o vs e hd => by obtain ⟨o', e', hd'⟩ := hc; rw [e] at e'; cases e'; rw [hd] at hd'; cases hd') rfl
    have ne : ∀ {y : Addr} {m : Str → Option Value}, s.heap.Ns y m → h'.Ns y m := fun {y m} q => by
      have hne : y ≠ a := fun p => by subst p; exact ns_notcell q hc
      exact q.sameBut hs hne
    have ce : ∀ {y : Addr} {u : Option Value}, y ≠ a → s.heap.IsCell y u → h'.IsCell y u := fun hne q => q.sameBut hs hne
    refine h _ (Mod.same hs rfl rfl) hcx ⟨⟨S.eo.kind, S.eo.glob, S.eo.blt, let ⟨m, q⟩ := S.eo.ns; ⟨m, ne q⟩, S.eo.nsNew, fun y cc q => ?_, S.eo.apart⟩, fun b e => S.fresh b ?_, fun p hp => ?_⟩ hsol
    · obtain ⟨⟨u, q1⟩, q2⟩ := S.eo.cells y cc q
      by_cases hca : cc = a
      · subst hca; exact ⟨⟨_, hc'⟩, q2⟩
      · exact ⟨⟨u, ce hca q1⟩, q2⟩
    · by_cases q : b = a
      · subst q; obtain ⟨o', e', _⟩ := hc'; rw [show h'.get? b = none from e] at e'; cases e'
      · rw [← hs.2 b q]; exact e
    · rcases U.mem p hp with rfl | ⟨hp', hne⟩
      · exact ⟨v, .inr ⟨.inl hk, a, hl, hc'⟩, R.solid hsol⟩
      · obtain ⟨u, V, R'⟩ := S.vars p hp'
        refine ⟨u, ?_, R'.solid hsol⟩
        rcases V with ⟨k1, m', n', e'⟩ | ⟨k1, cc, l1, e'⟩
        · exact .inl ⟨k1, m', ne n', e'⟩
        · have hca : cc ≠ a := fun q => by subst q; exact hne (S.eo.apart _ _ _ l1 hl)
          exact .inr ⟨k1, cc, l1, ce hca e'⟩

/-- a target of an assignment -/
noncomputable def Tgt (G : W0) (n : Nat) (A : Around) (env : Env) (ok : Addr → Prop) (X : Addr → Prop) (t : Expr) (d : D) (ρ ρ' : List (String × D)) : Prop :=
  ∀ s v, Cx G n A s → Sat G ok env ρ s → Rel ok s.heap d v → wpAny G.M A (assign t env v) (fun _ s' => Mod X s s' ∧ Cx G n A s' ∧ Sat G ok env ρ' s' ∧ (∀ b o, Solid o → s.heap.get? b = some o → s'.heap.get? b = some o)) (fun _ _ => False) s
theorem tgt_name {x : String} {pos : Pos} {d : D} {ρ' : List (String × D)} {X : Addr → Prop} (hx : ∃ a, At env (Str.ofString x) a ∧ X a) (U : Upd x d ρ ρ') : Tgt G n A env ok X (.Name (Str.ofString x) pos) d ρ ρ' := fun s v c S R => by
  obtain ⟨a, ha, hX⟩ := hx
  exact assign_Name (wp_store c S ha R U fun s' m c' S' k => ⟨m.weak fun b q => by subst q; exact hX, c', S', k⟩)
theorem tgt_pair {t1 t2 : Expr} {k : Nat} {pos : Pos} {d1 d2 : D} {ρ1 ρ2 : List (String × D)} {X : Addr → Prop} (h1 : Tgt G n A env ok X t1 d1 ρ ρ1) (h2 : Tgt G n A env ok X t2 d2 ρ1 ρ2)
    (he : assignEach [t1, t2] env = [(false, assign t1 env), (false, assign t2 env)] := by rfl) : Tgt G n A env ok X (.Tuple [t1, t2] k pos) (.tup [d1, d2]) ρ ρ2 := fun s v c S R => by
  obtain ⟨p, vs, j, rfl, _, hg, rr⟩ := R
  have hlen := rr.length
  refine assign_Tuple_tuple c.hh (TO.isTup hg) (by rw [he]; simp; exact hlen.symm) (by rw [he]; rfl) fun h' hx => ?_
  have a0 := c.keeps (h' := h') (tk := s.toks) fun b o e => hx b o (Nat.ne_of_lt (Heap.lt_size e)) e
  have r0 := rr.kept c.tab a0.1.kept
  obtain ⟨v1, _, rfl, q1, v2, _, rfl, q2, rfl⟩ := r0
  rw [he]
  refine assignInOrder_cons (Ev.to (h1 _ v1 a0.2 (S.aft c a0) q1) fun _ s₁ h00 => ?_)
  obtain ⟨m1, c1, S1, k1⟩ := h00
  refine assignInOrder_cons (Ev.to (h2 _ v2 c1 S1 (q2.solid k1)) fun _ s₂ h00 => ?_)
  obtain ⟨m2, c2, S2, k2⟩ := h00
  refine assignInOrder_nil ⟨(a0.1.mod.trans m1).trans m2, c2, S2, fun b o ho e => k2 b o ho (k1 b o ho ?_)⟩
  exact hx b o (Nat.ne_of_lt (Heap.lt_size e)) e
end
end Mine
/-! A5 -/
namespace Mine
section
variable {G : W0} {n : Nat} {A : Around} {env : Env} {ok : Addr → Prop} {ρ : List (String × D)}

theorem solid_fields {o : Obj} {vs : Array Value} (h : o.data = .fields vs) : Solid o := ⟨fun _ _ q => (by rw [h] at q; cases q), fun _ q => (by rw [h] at q; cases q)⟩
/-- an object that is none of a frame, a cell, a list, a code object -/
noncomputable def Itr (o : Obj) : Prop := NotDict o ∧ (∀ v, o.data ≠ .cell v) ∧ ¬ IsSeq o ∧ ∀ vs q t, o.data = .fields vs → vs[1]? ≠ some (.str q t)
theorem Itr.solid {o : Obj} (h : Itr o) : Solid o := ⟨h.1, h.2.1⟩
theorem itr_fields {o : Obj} {vs : Array Value} (h : o.data = .fields vs) (h1 : ∀ q t, vs[1]? ≠ some (.str q t)) : Itr o :=
  ⟨fun _ _ q => (by rw [h] at q; cases q), fun _ q => (by rw [h] at q; cases q), fun ⟨_, _, q⟩ => (by rw [h] at q; cases q), fun ws q t e => (by rw [h] at e; cases e; exact h1 q t)⟩

/-- an iterator over what ds stand for -/
structure ItAt (G : W0) (A : Around) (ok : Addr → Prop) (isL : Bool) (I : Addr) (ds : List D) (fp : List Addr) (P : Nat → Value → Prop) (St : Nat → Heap → Prop) (h0 : Heap) : Prop where
  W : Walks prg G.w A I fp [I] ds.length P St
  mem : I ∈ fp
  fpo : ∀ b ∈ fp, b ≠ I → ok b ∧ ∃ o, h0.get? b = some o ∧ IsSeq o
  shape : ∀ i h, St i h → ∃ o, h.get? I = some o ∧ Itr o
  val : ∀ i v, P i v → ∃ d, ds[i]? = some d ∧ Rel ok h0 d v
  lst : isL = true → ∀ i h, St i h → ∃ l j, h.IsListIter I l j

noncomputable def Src (G : W0) (n : Nat) (A : Around) (env : Env) (ok : Addr → Prop) (ρ : List (String × D)) (isL : Bool) (iter : Expr) (ds : List D) : Prop :=
  ∀ s, Cx G n A s → Sat G ok env ρ s → wpAny G.M A (eval iter env) (fun x s₁ => wpAny G.M A (pyIter x) (fun it s₂ => Aft G n A s s₂ ∧ ∃ I fp P St, it = .ref I ∧ s.heap.get? I = none ∧ ItAt G A ok isL I ds fp P St s₂.heap ∧ St 0 s₂.heap) (fun _ _ => False) s₁) (fun _ _ => False) s

theorem src_list {iter : Expr} {ds : List D} (h : Ev G n A env ok ρ iter (.list ds)) : Src G n A env ok ρ true iter ds := fun s c S => by
  refine Ev.to (h s c S) fun x s₁ h00 => ?_
  obtain ⟨a1, r1⟩ := h00
  obtain ⟨p, vs, k, rfl, hp, hg, rr⟩ := r1
  have hlen := rr.length
  refine wpAny_pyIter_list (LO.isList hg) ?_
  have a2 := a1.2.keeps (h' := s₁.heap.push { cls := .type "list_iterator", data := .fields #[.ref p, .int 0 0] }) (tk := s₁.toks) fun b o e => Heap.get?_push_of_some _ e
  have hne : p ≠ s₁.heap.objs.size := Nat.ne_of_lt (Heap.lt_size hg)
  have hI : s.heap.get? s₁.heap.objs.size = none := a1.1.kept.none (a1.2.not99 no_get) no_get
  have hW := Walks.list (prog := prg) (w := G.w) (A := A) c.hh s₁.heap.objs.size p hne vs.toArray
  have hsz : vs.toArray.size = ds.length := by simp [hlen]
  refine ⟨a1.trans a2, s₁.heap.objs.size, _, _, _, rfl, hI, ⟨hsz ▸ hW, by simp, fun b hb hne' => ?_, fun i h st => ?_, fun i v hv => ?_, fun _ i h st => ⟨p, i, st.1⟩⟩, ⟨_, Heap.get?_push_size _ rfl, rfl, rfl⟩, LO.isList (Heap.get?_push_of_some _ hg)⟩
  · have : b = p := by simp at hb; rcases hb with q | q; exact absurd q hne'; exact q
    subst this
    exact ⟨hp, _, Heap.get?_push_of_some _ hg, ⟨_, _, rfl⟩⟩
  · obtain ⟨o', e', _, hd⟩ := st.1
    exact ⟨o', e', itr_fields hd (by intro q t; simp)⟩
  · have hv' : vs[i]? = some v := by simpa using hv
    have hi : i < ds.length := by rw [← hlen]; exact (List.getElem?_eq_some_iff.mp hv').1
    obtain ⟨u, e, r⟩ := rr.get (List.getElem?_eq_getElem hi)
    rw [hv'] at e; cases e
    exact ⟨_, List.getElem?_eq_getElem hi, Rel.mono (fun b o hb e hs => ⟨hb, Heap.get?_push_of_some _ e⟩) _ _ r⟩

/-- the surroundings of a comprehension -/
structure IsComp (scope : Scope) (cenv : Env) (X : Addr → Prop) : Prop where
  kinds : ∀ x k, scope.names.lookup x = some k → k ≠ .free → cenv.kindOf x = some k
  atX : ∀ x k, scope.names.lookup x = some k → k = .local ∨ k = .cell → ∃ a, At cenv x a ∧ X a
  has : ∀ x k, scope.names.lookup x = some k → k = .free ∨ k = .cell → (cenv.cells.lookup x).isSome = true
  fr : ∀ x, scope.names.lookup x = some .free → cenv.kindOf x ≠ some .local

inductive Sub (scope : Scope) (env : Env) (ρ : List (String × D)) : List (String × D) → Prop
  | nil : Sub scope env ρ []
  | cons {x : String} {d : D} {r : List (String × D)} : (x, d) ∈ ρ → scope.names.lookup (Str.ofString x) = some .free → env.kindOf (Str.ofString x) ≠ some .local → Sub scope env ρ r → Sub scope env ρ ((x, d) :: r)
theorem Sub.mem {scope : Scope} {env : Env} {ρ ρ' : List (String × D)} (h : Sub scope env ρ ρ') : ∀ p ∈ ρ', p ∈ ρ ∧ scope.names.lookup (Str.ofString p.1) = some .free ∧ env.kindOf (Str.ofString p.1) ≠ some .local := by
  induction h with
  | nil => intro p hp; cases hp
  | cons a b c _ ih => intro p hp; rcases List.mem_cons.mp hp with rfl | hp
                       · exact ⟨a, b, c⟩
                       · exact ih p hp
noncomputable def FreeOk (scope : Scope) (env : Env) : Prop := ∀ y ∈ scope.names, y.2 = .free → (env.cells.lookup y.1).isSome = true

theorem closure_ok {scope : Scope} {env : Env} (hf : FreeOk scope env) : ∃ cl, closureFor scope env = pure cl ∧ (∀ x c, cl.lookup x = some c → env.cells.lookup x = some c) ∧ (∀ y ∈ scope.names, y.2 = .free → (cl.lookup y.1).isSome = true) := by
  unfold closureFor
  have key : ∀ (names : List (Str × NameKind)) (cs : List (Str × Addr)), (∀ y ∈ names, y.2 = .free → (env.cells.lookup y.1).isSome = true) → (∀ x c, cs.lookup x = some c → env.cells.lookup x = some c) →
      ∃ cl, (forIn names cs (fun x cs => (do
        if (x.2 == NameKind.free) = true then
          let c ← cellOf env x.1
          pure (ForInStep.yield ((x.1, c) :: cs))
        else pure (ForInStep.yield cs) : Sem (ForInStep (List (Str × Addr)))) : Str × NameKind → List (Str × Addr) → Sem (ForInStep (List (Str × Addr)))) : Sem (List (Str × Addr))) = pure cl ∧
        (∀ x c, cl.lookup x = some c → env.cells.lookup x = some c) ∧ (∀ x, (cs.lookup x).isSome = true → (cl.lookup x).isSome = true) ∧ (∀ y ∈ names, y.2 = .free → (cl.lookup y.1).isSome = true) := by
    intro names
    induction names with
    | nil => intro cs _ hc; exact ⟨cs, rfl, hc, fun _ h => h, fun _ h => by cases h⟩
    | cons y r ih =>
      intro cs hn hc
      by_cases hk : y.2 = .free
      · obtain ⟨c, hl⟩ := Option.isSome_iff_exists.mp (hn y List.mem_cons_self hk)
        obtain ⟨cl, e1, e2, e3, e4⟩ := ih ((y.1, c) :: cs) (fun z hz => hn z (List.mem_cons_of_mem _ hz)) (fun x c' h => by
          rw [List.lookup_cons] at h
          cases hb : x == y.1 with
          | true => rw [hb] at h; cases h; rw [beq_iff_eq.mp hb]; exact hl
          | false => rw [hb] at h; exact hc x c' h)
        refine ⟨cl, ?_, e2, fun x hx => e3 x (by rw [List.lookup_cons]; cases x == y.1 <;> simp_all), fun z hz hzk => ?_⟩
        · rw [List.forIn_cons]
          have : (y.2 == NameKind.free) = true := by simp [hk]
          simp only [this, if_true, cellOf, hl]
          exact e1
        · rcases List.mem_cons.mp hz with rfl | hz
          · exact e3 z.1 (by rw [List.lookup_cons, beq_self_eq_true]; rfl)
          · exact e4 z hz hzk
      · obtain ⟨cl, e1, e2, e3, e4⟩ := ih cs (fun z hz => hn z (List.mem_cons_of_mem _ hz)) hc
        refine ⟨cl, ?_, e2, e3, fun z hz hzk => ?_⟩
        · rw [List.forIn_cons]
          have : (y.2 == NameKind.free) = false := by simpa using hk
          simp only [this, Bool.false_eq_true, if_false]
          exact e1
        · rcases List.mem_cons.mp hz with rfl | hz
          · exact absurd hzk hk
          · exact e4 z hz hzk
  obtain ⟨cl, e1, e2, _, e4⟩ := key scope.names [] hf (fun _ _ h => by simp at h)
  refine ⟨cl, ?_, e2, e4⟩
  rw [← bind_pure (forIn scope.names [] _)] at e1
  exact e1
end
end Mine
/-! A6 -/
namespace Mine

/-! the cells of a block -/
theorem cells_new : ∀ (names : List (Str × NameKind)) (h : Heap) (acc : List (Str × Addr)) (x : Str) (c : Addr), (cellsFrom h.objs.size names acc).lookup x = some c →
    acc.lookup x = some c ∨ (h.objs.size ≤ c ∧ (pushCells h names).IsCell c none)
  | [], _, _, _, _, e => .inl e
  | (nm, k) :: r, h, acc, x, c, e => by
    unfold cellsFrom at e
    unfold pushCells
    split
    · rename_i hk
      rw [if_pos hk] at e
      have e' : (cellsFrom (h.push { cls := .type "cell", data := .cell none }).objs.size r ((nm, h.objs.size) :: acc)).lookup x = some c := by rw [Heap.size_push]; exact e
      rcases cells_new r _ _ x c e' with q | ⟨q1, q2⟩
      · rw [List.lookup_cons] at q
        cases hb : x == nm with
        | true =>
          rw [hb] at q; cases q
          exact .inr ⟨Nat.le_refl _, ⟨_, pushCells_keeps r _ _ _ (Heap.get?_push_size _ rfl), rfl⟩⟩
        | false => rw [hb] at q; exact .inl q
      · rw [Heap.size_push] at q1
        exact .inr ⟨by (first | lia | omega), q2⟩
    · rename_i hk
      rw [if_neg hk] at e
      exact cells_new r h acc x c e
theorem cells_own : ∀ (names : List (Str × NameKind)) (n0 n : Nat) (acc : List (Str × Addr)) (x : Str), n0 ≤ n → ((x, NameKind.cell) ∈ names ∨ ∃ c, acc.lookup x = some c ∧ n0 ≤ c) → ∃ c, (cellsFrom n names acc).lookup x = some c ∧ n0 ≤ c
  | [], n0, n, acc, x, hn, h => by
    rcases h with h | h
    · cases h
    · exact h
  | (nm, k) :: r, n0, n, acc, x, hn, h => by
    unfold cellsFrom
    split
    · rename_i hk
      refine cells_own r n0 _ _ x (by (first | lia | omega)) ?_
      by_cases hx : x = nm
      · exact .inr ⟨n, by subst hx; rw [List.lookup_cons, beq_self_eq_true], hn⟩
      · rcases h with h | ⟨c, h, hc⟩
        · rcases List.mem_cons.mp h with e | e
          · cases e; exact absurd rfl hx
          · exact .inl e
        · exact .inr ⟨c, by rw [List.lookup_cons]; have : (x == nm) = false := by simpa using hx
                            rw [this]; exact h, hc⟩
    · rename_i hk
      refine cells_own r n0 _ _ x hn ?_
      rcases h with h | h
      · rcases List.mem_cons.mp h with e | e
        · cases e; exact absurd (beq_self_eq_true NameKind.cell) hk
        · exact .inl e
      · exact .inr h
theorem cells_free : ∀ (names : List (Str × NameKind)) (n : Nat) (acc : List (Str × Addr)) (x : Str), (∀ k, (x, k) ∈ names → k ≠ NameKind.cell) → (cellsFrom n names acc).lookup x = acc.lookup x
  | [], n, acc, x, h => rfl
  | (nm, k) :: r, n, acc, x, h => by
    unfold cellsFrom
    split
    · rename_i hk
      rw [cells_free r _ _ x fun k hk => h k (List.mem_cons_of_mem _ hk), List.lookup_cons]
      have : (x == nm) = false := by
        cases hb : x == nm with
        | false => rfl
        | true =>
          have := beq_iff_eq.mp hb; subst this
          exact absurd (beq_iff_eq.mp hk) (h k List.mem_cons_self)
      rw [this]
    · exact cells_free r _ _ x fun k hk => h k (List.mem_cons_of_mem _ hk)
theorem cells_apart : ∀ (names : List (Str × NameKind)) (n : Nat) (acc : List (Str × Addr)), (∀ x c, acc.lookup x = some c → c < n) → (∀ x y c, acc.lookup x = some c → acc.lookup y = some c → x = y) →
    ∀ x y c, (cellsFrom n names acc).lookup x = some c → (cellsFrom n names acc).lookup y = some c → x = y
  | [], n, acc, hb, ha => ha
  | (nm, k) :: r, n, acc, hb, ha => by
    unfold cellsFrom
    split
    · refine cells_apart r (n + 1) ((nm, n) :: acc) (fun x c h => ?_) fun x y c hx hy => ?_
      · rw [List.lookup_cons] at h
        cases hq : x == nm with
        | true => rw [hq] at h; cases h; exact Nat.lt_succ_self _
        | false => rw [hq] at h; exact Nat.lt_succ_of_lt (hb x c h)
      · rw [List.lookup_cons] at hx hy
        cases hq : x == nm with
        | true =>
          rw [hq] at hx; cases hx
          cases hq' : y == nm with
          | true => rw [beq_iff_eq.mp hq, beq_iff_eq.mp hq']
          | false => rw [hq'] at hy; exact absurd (hb y _ hy) (Nat.lt_irrefl _)
        | false =>
          rw [hq] at hx
          cases hq' : y == nm with
          | true => rw [hq'] at hy; cases hy; exact absurd (hb x _ hx) (Nat.lt_irrefl _)
          | false => rw [hq'] at hy; exact ha x y c hx hy
    · exact cells_apart r n acc hb ha

/-- the surroundings that a comprehension makes -/
noncomputable def compEnvW (scope : Scope) (env : Env) (C : Addr) (cl : List (Str × Addr)) : Env :=
  { scope := scope, locals := C, globals := env.globals, cells := cellsFrom (C + 1) scope.names cl, qual := env.qual, func := none, code := env.code, frame := env.frame, builtins := env.builtins }
theorem wp_compEnv {M : Model} {A : Around} {E : Value → Shared → Prop} {s : Shared} {scope : Scope} {env : Env} {cl : List (Str × Addr)} {Q : Env → Shared → Prop}
    (h : Q (compEnvW scope env s.heap.objs.size cl) { s with heap := pushCells (s.heap.push { cls := .type "dict", data := .dict #[] }) scope.names }) :
    wpAny M A (newFunctionEnv scope env.globals cl [] env.qual none .none (some env)) Q E s := by
  simp only [newFunctionEnv, Option.isSome_some, if_true]
  refine wpAny_bind (wpAny_alloc ?_)
  refine wpAny_bind (wpAny_layCells _ (fun name kind cells => by cases hkc : kind == NameKind.cell <;> simp [hkc]) _ _ _ _ ?_)
  rw [show ({ s with heap := s.heap.push { cls := .type "dict", data := .dict #[] } } : Shared).heap.objs.size = s.heap.objs.size + 1 from Heap.size_push ..]
  rw [List.forIn_nil]
  exact wpAny_pure h

theorem codeAny_comp1 {prog : Program} {w : World} {A : Around} {R : Result → Shared → Prop} {s : Shared} {elt target iter : Expr} {ifs : List Expr} {scope : Scope} {pos : Pos} {it acc : Value} {env : Env} (I : Nat → Shared → Prop)
    (turn : ∀ n s, I n s → wpAny (model prog w) A (pyNext it) (fun r s₁ => match r with
      | none => R (.ok .next) s₁
      | some v => wpAny (model prog w) A (letOwnedTupleGo target it v) (fun _ s₁' => wpAny (model prog w) A (assign target env v) (fun _ s₂ =>
          wpAny (model prog w) A (forIn ifs true fun c r => if r = true then do let ok ← isTrue c env (eval c env); pure (ForInStep.yield ok) else pure (ForInStep.yield r)) (fun ok s₃ =>
            if ok = true then wpAny (model prog w) A (eval elt env) (fun x s₄ =>
              wpAny (model prog w) A (call (.builtin "list.append") [acc, x]) (fun _ s₅ => ∃ m, m < n ∧ I m s₅) (fun _ _ => False) s₄) (fun _ _ => False) s₃
            else ∃ m, m < n ∧ I m s₃) (fun _ _ => False) s₂) (fun _ _ => False) s₁') (fun _ _ => False) s₁) (fun _ _ => False) s)
    (n : Nat) (h : I n s) : codeAny (model prog w) A (.compLoop (.ListComp elt [⟨target, iter, ifs, 0⟩] scope pos) 0 it acc env) R s := by
  refine codeAny_loop rfl I (fun n s hI => ?_) n h
  show wpAny _ A ((compTurn (.ListComp elt [⟨target, iter, ifs, 0⟩] scope pos) 0 it acc env).onRaise (fun x => do noteFrame x env; theTreesLotGoes x)) _ _ s
  refine wpAny_noted ?_
  rw [compTurn_list]
  refine wpAny_bind (wpAny_standAt (wpAny_bind (wpAny_mono (turn n s hI) (fun r s₁ h₁ => ?_) fun _ _ h' => h'.elim)))
  cases r with
  | none => exact wpAny_pure h₁
  | some v =>
    refine wpAny_bind (wpAny_mono h₁ (fun _ s₁' h₁' => ?_) fun _ _ h' => h'.elim)
    refine wpAny_bind (wpAny_mono h₁' (fun _ s₂ h₂ => wpAny_bind (wpAny_mono h₂ (fun ok s₃ h₃ => ?_) fun _ _ h' => h'.elim)) fun _ _ h' => h'.elim)
    cases ok with
    | false => exact wpAny_pure ⟨rfl, h₃⟩
    | true => exact wpAny_bind (wpAny_bind (wpAny_mono h₃ (fun x s₄ h₄ => wpAny_bind (wpAny_mono h₄ (fun _ s₅ h₅ => wpAny_pure (wpAny_pure ⟨rfl, h₅⟩)) fun _ _ h' => h'.elim)) fun _ _ h' => h'.elim))
end Mine
/-! A7 -/
namespace Mine

noncomputable def Tests (G : W0) (n : Nat) (A : Around) (env : Env) (ok : Addr → Prop) (ρ : List (String × D)) (ifs : List Expr) (b : Bool) : Prop :=
  ∀ s, Cx G n A s → Sat G ok env ρ s → wpAny G.M A (forIn ifs true fun c r => if r = true then do let ok ← isTrue c env (eval c env); pure (ForInStep.yield ok) else pure (ForInStep.yield r)) (fun v s' => Aft G n A s s' ∧ v = b) (fun _ _ => False) s

theorem lookup_map_kind {f : Str × NameKind → NameKind} : ∀ {names : List (Str × NameKind)} {x : Str}, (names.map fun p => (p.1, f p)).lookup x = (names.lookup x).map fun k => f (x, k)
  | [], _ => rfl
  | (n, k) :: r, x => by
    simp only [List.map_cons, List.lookup_cons]
    cases h : x == n with
    | true => have := beq_iff_eq.mp h; subst this; rfl
    | false => exact lookup_map_kind
theorem relabel_lookup {scope : Scope} {env : Env} {x : Str} : (relabel scope env).names.lookup x =
    (scope.names.lookup x).map fun k => if (k == NameKind.free && env.scope.kind == .function && env.kindOf x == some .cell) = true then NameKind.cell else k := by
  have e : (relabel scope env).names = scope.names.map fun p => (p.1, if (p.2 == NameKind.free && env.scope.kind == .function && env.kindOf p.1 == some .cell) = true then NameKind.cell else p.2) := by
    unfold relabel
    apply List.map_congr_left
    rintro ⟨n, k⟩ _
    dsimp only
    split <;> rfl
  rw [e, lookup_map_kind]
theorem lookup_mem {names : List (Str × NameKind)} {x : Str} {k : NameKind} (h : names.lookup x = some k) : (x, k) ∈ names := mem_of_lookup h
theorem lookup_nodup : ∀ {names : List (Str × NameKind)}, (names.map (·.1)).Nodup → ∀ {x : Str} {k : NameKind}, (x, k) ∈ names → names.lookup x = some k
  | [], _, _, _, h => by cases h
  | (n, k') :: r, hn, x, k, h => by
    rw [List.map_cons, List.nodup_cons] at hn
    rw [List.lookup_cons]
    rcases List.mem_cons.mp h with e | e
    · cases e; rw [beq_self_eq_true]
    · have : (x == n) = false := by
        cases hb : x == n with
        | false => rfl
        | true => have := beq_iff_eq.mp hb; subst this; exact absurd (List.mem_map_of_mem e) hn.1
      rw [this]; exact lookup_nodup hn.2 e

section
variable {G : W0} {n : Nat} {A : Around} {env : Env} {ok : Addr → Prop} {ρ : List (String × D)}

theorem Sat.sub {ok : Addr → Prop} {env : Env} {ρ ρ' : List (String × D)} {s : Shared} (S : Sat G ok env ρ s) (h : ∀ p ∈ ρ', p ∈ ρ) : Sat G ok env ρ' s := ⟨S.eo, S.fresh, fun p hp => S.vars p (h p hp)⟩

theorem Cx.but {s : Shared} (c : Cx G n A s) {I : Addr} {h₁ : Heap} {tk : Nat} (hk : ∀ b o, b ≠ I → s.heap.get? b = some o → h₁.get? b = some o) (hb : G.base.get? I = none) (h9 : I ≠ 99)
    (hI : ∀ o, s.heap.get? I = some o → Itr o) : Cx G n A { s with heap := h₁, toks := tk } := by
  refine ⟨fun b o q => hk b o (fun h => by subst h; rw [hb] at q; cases q) (c.stays b o q), ?_, ?_, c.hh, c.dep, c.un, c.bare⟩
  · rcases c.tab with e | ⟨q, e, hq, r⟩
    · exact .inl (hk _ _ (Ne.symm h9) e)
    · refine .inr ⟨q, hk _ _ (Ne.symm h9) e, hq, ?_⟩
      obtain ⟨c', o, vs, t, e1, e2, e3, e4⟩ := r
      cases e1
      exact ⟨_, o, vs, t, rfl, hk q o (fun h => by subst h; exact (hI o e2).2.2.2 vs _ _ e3 e4) e2, e3, e4⟩
  · obtain ⟨l, x, y⟩ := c.fr
    refine ⟨l, x, ?_⟩
    clear x
    induction l with
    | nil => trivial
    | cons env r ih =>
      obtain ⟨k, ⟨L, o, es, ep, b, cc, n9, d, e⟩, rr⟩ := y
      exact ⟨k, ⟨L, o, es, ep, b, cc, n9, hk L o (fun h => by subst h; exact (hI o d).1 es ep e) d, e⟩, ih rr⟩

theorem wp_append {s : Shared} {D₀ : Addr} {ys : List Value} {k : Nat} {y : Value} {Q : Value → Shared → Prop} {E : Value → Shared → Prop} (hg : s.heap.get? D₀ = some (LO ys k)) (hz : ys.length ≤ sizeLine)
    (h : ∀ h' k', h'.get? D₀ = some (LO (ys ++ [y]) k') → Heap.SameBut D₀ s.heap h' → Q .none { s with heap := h' }) : wpAny G.M A (call (.builtin "list.append") [.ref D₀, y]) Q E s := by
  refine wpAny_list_append_plain (l := D₀) (items := ys.toArray) (hsz := by simpa using hz) ⟨k, hg⟩ fun h' hl hs => ?_
  obtain ⟨k', e⟩ := hl
  exact h h' k' (by simpa using e) hs

theorem comp_core {α : Type} {elt t iter : Expr} {ifs : List Expr} {scope : Scope} {pos : Pos} {isL : Bool} (xs : List α) (mk : α → D) (p : α → Bool) (f : α → D) (new : α → List (String × D)) {ρc : List (String × D)}
    (hkind : scope.kind = .function) (hnd : (scope.names.map (·.1)).Nodup) (hsub : Sub scope env ρ ρc)
    (hlet : (∀ it v, letOwnedTupleGo t it v = pure ()) ∨ (isL = true ∧ (∃ es k p, t = .Tuple es k p) ∧ ∀ x ∈ xs, ∃ l, mk x = .tup l))
    (ht : ∀ cenv ok' X, IsComp scope cenv X → ∀ x ∈ xs, Tgt G n A cenv ok' X t (mk x) ρc (ρc ++ new x))
    (hif : ∀ cenv ok' X, IsComp scope cenv X → ∀ x ∈ xs, Tests G n A cenv ok' (ρc ++ new x) ifs (p x))
    (helt : ∀ cenv ok' X, IsComp scope cenv X → ∀ x ∈ xs, p x = true → Ev G n A cenv ok' (ρc ++ new x) elt (f x)) (hz : xs.length ≤ sizeLine)
    {s s₂ : Shared} {cl : List (Str × Addr)} {I : Addr} {fp : List Addr} {P : Nat → Value → Prop} {St : Nat → Heap → Prop} {Rr : Value → Addr → Result → Shared → Prop} {E : Value → Shared → Prop}
    (hcl : ∀ x c, cl.lookup x = some c → env.cells.lookup x = some c) (hcf : ∀ y ∈ scope.names, y.2 = .free → (cl.lookup y.1).isSome = true)
    (c : Cx G n A s) (S : Sat G ok env ρ s) (a2 : Aft G n A s s₂) (hI : s.heap.get? I = none) (it : ItAt G A ok isL I (xs.map mk) fp P St s₂.heap) (st : St 0 s₂.heap)
    (hR : ∀ D₀ C s' ys k, s.heap.get? D₀ = none → s.heap.get? C = none → Ext s s' → Cx G n A s' → (∃ m, s'.heap.Ns C m) → s'.heap.get? D₀ = some (LO ys k) → D₀ ≠ C → RelAll ok s'.heap ((xs.filter p).map f) ys → Rr (.ref D₀) C (.ok .next) s') :
    wpAny G.M A (newList []) (fun acc s₃ => wpAny G.M A (newFunctionEnv scope env.globals cl [] env.qual none .none (some env)) (fun cenv s₄ =>
      codeAny G.M A (.compStart (.ListComp elt [⟨t, iter, ifs, 0⟩] scope pos) 0 (.ref I) acc { cenv with scope := relabel scope env }) (Rr acc cenv.locals) s₄) E s₃) E s₂ := by
  have S2 := S.aft c a2
  refine wpAny_newObj_type (wp_compEnv ?_)
  dsimp only
  generalize hD : s₂.heap.objs.size = D₀; revert D₀; refine hold ?_; intro D₀ hD
  generalize hH3 : s₂.heap.push (LO [] 0) = H3; revert H3; refine hold ?_; intro H3 hH3
  have hg3 : H3.get? D₀ = some (LO [] 0) := by rw [← hH3, ← hD]; exact Heap.get?_push_size _ rfl
  have k3 : ∀ b o, s₂.heap.get? b = some o → H3.get? b = some o := fun b o e => by rw [← hH3]; exact Heap.get?_push_of_some _ e
  have hz3 : H3.objs.size = D₀ + 1 := by rw [← hH3, Heap.size_push, hD]
  show codeAny G.M A (.compStart (.ListComp elt [⟨t, iter, ifs, 0⟩] scope pos) 0 (.ref I) (.ref D₀) { compEnvW scope env H3.objs.size cl with scope := relabel scope env }) (Rr (.ref D₀) H3.objs.size)
    { s₂ with heap := pushCells (H3.push { cls := .type "dict", data := .dict #[] }) scope.names }
  generalize hC : H3.objs.size = C; revert C; refine hold ?_; intro C hC
  generalize hH4 : pushCells (H3.push { cls := .type "dict", data := .dict #[] }) scope.names = H4; revert H4; refine hold ?_; intro H4 hH4
  have k34 : ∀ b o, H3.get? b = some o → H4.get? b = some o := fun b o e => by rw [← hH4]; exact pushCells_keeps _ _ _ _ (Heap.get?_push_of_some _ e)
  have k4 : ∀ b o, s₂.heap.get? b = some o → H4.get? b = some o := fun b o e => k34 b o (k3 b o e)
  have hg4 : H4.get? D₀ = some (LO [] 0) := k34 _ _ hg3
  have nC : H4.Ns C (fun _ => none) := by
    rw [← hH4, ← hC]; exact (Heap.Ns.new H3 (.type "dict")).keeps (pushCells_keeps _ _)
  have c4 : Aft G n A s₂ { s₂ with heap := H4 } := a2.2.keeps (tk := s₂.toks) k4
  have none2 : ∀ {b : Addr}, s₂.heap.objs.size ≤ b → s₂.heap.get? b = none := fun {b} hb => by
    cases q : s₂.heap.get? b with
    | none => rfl
    | some o => exact absurd (Heap.lt_size q) (Nat.not_lt.mpr hb)
  have back : ∀ {b : Addr}, s₂.heap.get? b = none → s.heap.get? b = none := fun {b} e => a2.1.kept.none (a2.2.not99 e) e
  have hDs : s₂.heap.get? D₀ = none := none2 (by rw [hD]; exact Nat.le_refl _)
  have hCs : s₂.heap.get? C = none := none2 (by rw [← hC, hz3, ← hD]; exact Nat.le_succ _)
  have hDC : D₀ ≠ C := by rw [← hC, hz3]; exact Nat.ne_of_lt (Nat.lt_succ_self _)
  have base : ∀ {b : Addr}, s₂.heap.get? b = none → G.base.get? b = none := fun {b} e => by
    cases q : G.base.get? b with
    | none => rfl
    | some o => rw [a2.2.stays b o q] at e; cases e
  generalize hce : ({ compEnvW scope env C cl with scope := relabel scope env } : Env) = cenv; revert cenv; refine hold ?_; intro cenv hce
  have hloc : cenv.locals = C := by rw [← hce]; rfl
  have hcells : cenv.cells = cellsFrom (C + 1) scope.names cl := by rw [← hce]; rfl
  have hkd : ∀ x, cenv.kindOf x = (relabel scope env).names.lookup x := fun x => by rw [← hce]; rfl
  have hC1 : C + 1 = (H3.push { cls := .type "dict", data := .dict #[] }).objs.size := by rw [Heap.size_push, hC]
  have lt2 : ∀ {b : Addr} {o : Obj}, s₂.heap.get? b = some o → b < C + 1 := fun {b o} e => by
    have := Heap.lt_size e
    rw [hD] at this
    rw [← hC, hz3]; exact Nat.lt_of_lt_of_le this (by (first | lia | omega))
  have nfree : ∀ x, scope.names.lookup x = some .free → ∀ k, (x, k) ∈ scope.names → k ≠ NameKind.cell := fun x h k hm q => by
    rw [lookup_nodup hnd hm] at h; cases h; cases q
  have eo : EnvOk G cenv H4 := by
    refine ⟨by rw [← hce]; exact hkind, by rw [← hce]; exact S.eo.glob, by rw [← hce]; exact S.eo.blt, ⟨_, by rw [hloc]; exact nC⟩, by rw [hloc]; exact base hCs, fun x cc q => ?_, ?_⟩
    · rw [hcells, hC1] at q
      rcases cells_new _ _ _ x cc q with q | ⟨q1, q2⟩
      · obtain ⟨⟨v, e1⟩, e2⟩ := S2.eo.cells x cc (hcl x cc q)
        exact ⟨⟨v, e1.keeps k4⟩, e2⟩
      · refine ⟨⟨none, by rw [← hH4]; exact q2⟩, base (none2 ?_)⟩
        rw [← hC1, ← hC, hz3, ← hD] at q1
        exact Nat.le_trans (by (first | lia | omega)) q1
    · rw [hcells]
      refine cells_apart _ _ _ (fun x cc q => ?_) fun x y cc hx hy => S.eo.apart x y cc (hcl _ _ hx) (hcl _ _ hy)
      obtain ⟨⟨v, o, e, _⟩, _⟩ := S2.eo.cells x cc (hcl x cc q)
      exact lt2 e
  have isC : IsComp scope cenv (fun a => s.heap.get? a = none) := by
    refine ⟨fun x k h hk => ?_, fun x k h hk => ?_, fun x k h hk => ?_, fun x h => ?_⟩
    · rw [hkd, relabel_lookup, h]
      have : (k == NameKind.free) = false := by simpa using hk
      simp only [Option.map_some, this, Bool.false_and, Bool.false_eq_true, if_false]
    · rcases hk with rfl | rfl
      · exact ⟨C, .inl ⟨by rw [hkd, relabel_lookup, h]; rfl, hloc.symm⟩, back hCs⟩
      · obtain ⟨cc, e1, e2⟩ := cells_own scope.names (C + 1) (C + 1) cl x (Nat.le_refl _) (.inl (lookup_mem h))
        refine ⟨cc, .inr ⟨by rw [hkd, relabel_lookup, h]; rfl, by rw [hcells]; exact e1⟩, back (none2 ?_)⟩
        rw [← hC, hz3, ← hD] at e2
        exact Nat.le_trans (by (first | lia | omega)) e2
    · rw [hcells]
      rcases hk with rfl | rfl
      · rw [cells_free _ _ _ x (nfree x h)]
        exact hcf _ (lookup_mem h) rfl
      · obtain ⟨cc, e1, e2⟩ := cells_own scope.names (C + 1) (C + 1) cl x (Nat.le_refl _) (.inl (lookup_mem h))
        rw [e1]; rfl
    · rw [hkd, relabel_lookup, h]
      simp only [Option.map_some]
      split <;> simp
  -- inside the loop, the list that is built is not looked at
  let ok' : Addr → Prop := fun b => ok b ∧ b ≠ D₀
  have relD : ∀ {d : D} {v : Value}, Rel ok s₂.heap d v → Rel ok' H4 d v := fun r =>
    Rel.mono (fun b o hb e hs => ⟨⟨hb, fun q => by subst q; rw [hDs] at e; cases e⟩, k4 b o e⟩) _ _ r
  have sat : Sat G ok' cenv ρc { s₂ with heap := H4 } := by
    refine ⟨eo, fun b e => ?_, fun q hq => ?_⟩
    · have e2 : s₂.heap.get? b = none := c4.1.kept.none (c4.2.not99 e) e
      exact ⟨S2.fresh b e2, fun q => by subst q; rw [show H4.get? b = none from e] at hg4; cases hg4⟩
    · obtain ⟨h1, h2, h3⟩ := hsub.mem q hq
      obtain ⟨v, V, r⟩ := S2.vars q h1
      refine ⟨v, ?_, relD r⟩
      rcases V with ⟨k1, _⟩ | ⟨k1, cc, l1, e1⟩
      · exact absurd k1 h3
      · refine .inr ⟨?_, cc, ?_, e1.keeps k4⟩
        · rw [hkd, relabel_lookup, h2]; simp only [Option.map_some]
          split
          · exact .inl rfl
          · exact .inr rfl
        · rw [hcells, cells_free _ _ _ _ (nfree _ h2)]
          have hs := hcf _ (lookup_mem h2) rfl
          obtain ⟨c', hc'⟩ := Option.isSome_iff_exists.mp hs
          rw [hc']; rw [hcl _ _ hc'] at l1; exact l1
  have ext4 : Ext s { s₂ with heap := H4 } := (a2.trans c4).1
  have fpD : ∀ b ∈ fp, b ≠ D₀ := fun b hb q => by
    subst q
    by_cases hbI : b = I
    · subst hbI; obtain ⟨o, e, _⟩ := it.shape _ _ st; rw [hDs] at e; cases e
    · obtain ⟨_, o, e, _⟩ := it.fpo b hb hbI; rw [hDs] at e; cases e
  have hI9 : I ≠ 99 := c.not99 hI
  -- the loop
  let Inv : Nat → Shared → Prop := fun k s' => ∃ i ys kk, k = xs.length + 1 - i ∧ i ≤ xs.length ∧ Ext s s' ∧ Cx G n A s' ∧ Sat G ok' cenv ρc s' ∧ St i s'.heap ∧ s'.heap.get? D₀ = some (LO ys kk) ∧
    RelAll ok' s'.heap (((xs.take i).filter p).map f) ys ∧ (∀ b o, IsSeq o → s₂.heap.get? b = some o → s'.heap.get? b = some o)
  have frameSt : ∀ {i : Nat} {h h' : Heap}, St i h → (∀ b o, IsSeq o → s₂.heap.get? b = some o → h.get? b = some o) → (∀ b ∈ fp, ∀ o, Solid o → h.get? b = some o → h'.get? b = some o) → St i h' := fun {i h h'} q kk hk =>
    it.W.frame _ _ _ q fun b hb o e => hk b hb o (by
      by_cases hbI : b = I
      · subst hbI; obtain ⟨o', e', x⟩ := it.shape i h q; rw [e] at e'; cases e'; exact x.solid
      · obtain ⟨_, o', e', hs⟩ := it.fpo b hb hbI
        rw [kk b o' hs e'] at e; cases e; exact hs.solid) e
  have fp9 : ∀ b ∈ fp, b ≠ 99 := fun b hb => by
    by_cases hbI : b = I
    · subst hbI; exact hI9
    · obtain ⟨_, o', e', hs⟩ := it.fpo b hb hbI
      exact ne_tab a2.2.tab e' hs.nf
  have loop : codeAny G.M A (.compLoop (.ListComp elt [⟨t, iter, ifs, 0⟩] scope pos) 0 (.ref I) (.ref D₀) cenv) (Rr (.ref D₀) C) { s₂ with heap := H4 } := by
    refine codeAny_comp1 Inv ?_ (xs.length + 1) ⟨0, [], 0, rfl, Nat.zero_le _, ext4, c4.2, sat, it.W.frame _ _ _ st (fun b _ o e => k4 b o e), hg4, by simp [RelAll], fun b o _ e => k4 b o e⟩
    rintro k s' ⟨i, ys, kk, rfl, hi, e, cx, sa, hst, hd, hr, ks⟩
    have hys : ys.length ≤ i := by
      rw [hr.length, List.length_map]
      exact Nat.le_trans (List.length_filter_le _ _) (by rw [List.length_take]; (first | lia | omega))
    by_cases hlt : i < xs.length
    · refine it.W.item i _ _ _ (by simpa using hlt) hst fun v h₁ tk₁ hP hst₁ hk₁ => ?_
      obtain ⟨oI, eI, hsI⟩ := it.shape i _ hst
      obtain ⟨oJ, eJ, hsJ⟩ := it.shape _ _ hst₁
      have hk₁' : ∀ b o, b ≠ I → s'.heap.get? b = some o → h₁.get? b = some o := fun b o hb q => hk₁ b o (by simpa using hb) q
      have hDI : D₀ ≠ I := fun q => fpD I it.mem q.symm
      have seqI : ∀ {b : Addr} {o : Obj}, IsSeq o → s'.heap.get? b = some o → b ≠ I := fun {b o} hs q h => by
        subst h; rw [eI] at q; cases q; exact hsI.2.2.1 hs
      have m₁ : Mod (· = I) s' { s' with heap := h₁, toks := tk₁ } := ⟨fun b o _ hb q => ⟨o.slots, hk₁' b o hb q, fun _ => rfl⟩, rfl, fun _ _ q => q⟩
      have hbI : G.base.get? I = none := by
        cases q : G.base.get? I with
        | none => rfl
        | some o => rw [c.stays I o q] at hI; cases hI
      have cx₁ : Cx G n A { s' with heap := h₁, toks := tk₁ } := cx.but hk₁' hbI hI9 fun o q => by rw [eI] at q; cases q; exact hsI
      have ext₁ : Ext s { s' with heap := h₁, toks := tk₁ } := e.step m₁ fun a q => by subst q; exact hI
      have ns_keep : ∀ {a : Addr} {m : Str → Option Value}, s'.heap.Ns a m → h₁.Ns a m := fun {a m} q => by
        refine q.at' fun o e => hk₁' a o (fun h => ?_) e
        subst h
        obtain ⟨o', es, ep, e', hd', _⟩ := q
        rw [eI] at e'; cases e'; exact hsI.1 _ _ hd'
      have cell_keep : ∀ {a : Addr} {v : Option Value}, s'.heap.IsCell a v → h₁.IsCell a v := fun {a v} q => by
        obtain ⟨o', e', hd'⟩ := q
        exact ⟨o', hk₁' a o' (fun h => by subst h; rw [eI] at e'; cases e'; exact hsI.2.1 _ hd') e', hd'⟩
      have ks₁ : ∀ b o, IsSeq o → s'.heap.get? b = some o → h₁.get? b = some o := fun b o hs q => hk₁' b o (seqI hs q) q
      have sa₁ : Sat G ok' cenv ρc { s' with heap := h₁, toks := tk₁ } := by
        refine ⟨⟨sa.eo.kind, sa.eo.glob, sa.eo.blt, let ⟨m, q⟩ := sa.eo.ns; ⟨m, ns_keep q⟩, sa.eo.nsNew, fun x cc q => let ⟨⟨v, a⟩, b⟩ := sa.eo.cells x cc q; ⟨⟨v, cell_keep a⟩, b⟩, sa.eo.apart⟩, fun b q => sa.fresh b ?_, fun q hq => ?_⟩
        · by_cases hb : b = I
          · subst hb; rw [show h₁.get? b = none from q] at eJ; cases eJ
          · cases qq : s'.heap.get? b with
            | none => rfl
            | some o2 => exact absurd (hk₁' b o2 hb qq) (by rw [show h₁.get? b = none from q]; nofun)
        · obtain ⟨v, V, r⟩ := sa.vars q hq
          refine ⟨v, ?_, Rel.mono (fun b o hb e hs => ⟨hb, ks₁ b o hs e⟩) _ _ r⟩
          rcases V with ⟨k1, m, q1, q2⟩ | ⟨k1, cc, l1, q1⟩
          · exact .inl ⟨k1, m, ns_keep q1, q2⟩
          · exact .inr ⟨k1, cc, l1, cell_keep q1⟩
      obtain ⟨d, hdi, rd⟩ := it.val i v hP
      have hxi : xs[i]? = some xs[i] := List.getElem?_eq_getElem hlt
      rw [List.getElem?_map, hxi] at hdi
      cases hdi
      generalize hx : xs[i] = x at *
      have hxm : x ∈ xs := hx ▸ List.getElem_mem hlt
      have rd₁ : Rel ok' h₁ (mk x) v := Rel.mono (fun b o hb q hs => ⟨⟨hb, fun h => by subst h; rw [hDs] at q; cases q⟩, ks₁ b o hs (ks b o hs q)⟩) _ _ rd
      have htk : xs.take (i + 1) = xs.take i ++ [x] := by rw [List.take_add_one, hxi]; rfl
      have hlets : wpAny G.M A (letOwnedTupleGo t (.ref I) v) (fun _ s'' => s'' = { s' with heap := h₁, toks := tk₁ }) (fun _ _ => False) { s' with heap := h₁, toks := tk₁ } := by
        rcases hlet with h | ⟨hL, ⟨es, k₀, p₀, rfl⟩, hall⟩
        · rw [h]; exact wpAny_pure rfl
        · obtain ⟨l, hl⟩ := hall x hxm
          rw [hl] at rd₁
          obtain ⟨T, _, _, rfl, _⟩ := rd₁
          obtain ⟨l', j', hit'⟩ := it.lst hL _ _ hst₁
          exact wpAny_letOwnedTupleGo_listiter hit' rfl
      refine Ev.to hlets fun _ s₁' q => ?_
      subst q
      refine Ev.to (ht cenv ok' _ isC x hxm _ v cx₁ sa₁ rd₁) fun _ s₂' h00 => ?_
      obtain ⟨m₂, cx₂, sa₂, sol₂⟩ := h00
      have hd₁ : h₁.get? D₀ = some (LO ys kk) := hk₁' D₀ _ hDI hd
      have hd₂ := sol₂ D₀ _ (IsSeq.solid ⟨_, _, rfl⟩) hd₁
      have ext₂ : Ext s s₂' := ext₁.step m₂ fun a q => q
      have ks₂ : ∀ b o, IsSeq o → s₂.heap.get? b = some o → s₂'.heap.get? b = some o := fun b o hs q => sol₂ b o hs.solid (ks₁ b o hs (ks b o hs q))
      have hst₂ : St (i + 1) s₂'.heap := frameSt hst₁ (fun b o hs q => ks₁ b o hs (ks b o hs q)) fun b hb o ho q => sol₂ b o ho q
      have rr₂ : RelAll ok' s₂'.heap (((xs.take i).filter p).map f) ys := RelAll.mono (fun b o hb q hs => ⟨hb, sol₂ b o hs.solid (ks₁ b o hs q)⟩) _ _ hr
      refine Ev.to (hif cenv ok' _ isC x hxm s₂' cx₂ sa₂) fun okb s₃ h00 => ?_
      obtain ⟨a₃, hb⟩ := h00
      subst hb
      have sa₂c : Sat G ok' cenv ρc s₂' := sa₂.sub fun q hq => List.mem_append_left _ hq
      have kp : ∀ {s₄ s₅ : Shared}, Aft G n A s₄ s₅ → Cx G n A s₄ → ∀ b o, IsSeq o → s₄.heap.get? b = some o → s₅.heap.get? b = some o := fun a cc b o hs q => a.1.kept.get (ne_tab cc.tab q hs.nf) q hs.nd
      have hst₃ : St (i + 1) s₃.heap := frameSt hst₂ ks₂ fun b hb o ho q => a₃.1.kept.get (fp9 b hb) q ho.1
      have ks₃ : ∀ b o, IsSeq o → s₂.heap.get? b = some o → s₃.heap.get? b = some o := fun b o hs q => kp a₃ cx₂ b o hs (ks₂ b o hs q)
      have hd₃ := kp a₃ cx₂ D₀ _ ⟨_, _, rfl⟩ hd₂
      have rr₃ := rr₂.kept cx₂.tab a₃.1.kept
      by_cases hpx : p x = true
      · rw [if_pos hpx]
        refine Ev.to (helt cenv ok' _ isC x hxm hpx s₃ a₃.2 (sa₂.aft cx₂ a₃)) fun y s₄ h00 => ?_
        obtain ⟨a₄, ry⟩ := h00
        have hd₄ := kp a₄ a₃.2 D₀ _ ⟨_, _, rfl⟩ hd₃
        have rr₄ := rr₃.kept a₃.2.tab a₄.1.kept
        have hst₄ : St (i + 1) s₄.heap := frameSt hst₃ ks₃ fun b hb o ho q => a₄.1.kept.get (fp9 b hb) q ho.1
        refine wp_append hd₄ (by (first | lia | omega)) fun h₅ k₅ hd₅ hs₅ => ?_
        have hD9 : D₀ ≠ 99 := c.not99 (back hDs)
        have m₅ : Mod (· = D₀) s₄ { s₄ with heap := h₅ } := Mod.same hs₅ rfl rfl
        have seq₅ : ∀ b o, b ≠ D₀ → s₄.heap.get? b = some o → h₅.get? b = some o := fun b o hb q => by rw [hs₅.2 b hb]; exact q
        have cx₅ : Cx G n A { s₄ with heap := h₅ } := a₄.2.same (s' := { s₄ with heap := h₅ }) hs₅ (base hDs) hD9
          (fun o es ep q hd => by rw [hd₄] at q; cases q; cases hd) (fun o vs q hd => by rw [hd₄] at q; cases q; cases hd) rfl
        have sa₄ := ((sa₂c.aft cx₂ a₃).aft a₃.2 a₄)
        have rel₅ : ∀ {d : D} {v : Value}, Rel ok' s₄.heap d v → Rel ok' h₅ d v := fun r => Rel.mono (fun b o hb q hs => ⟨hb, seq₅ b o hb.2 q⟩) _ _ r
        have ne5 : ∀ {b : Addr} {o : Obj}, ¬ IsSeq o → s₄.heap.get? b = some o → b ≠ D₀ := fun hns q h => by subst h; rw [hd₄] at q; cases q; exact hns ⟨_, _, rfl⟩
        have sa₅ : Sat G ok' cenv ρc { s₄ with heap := h₅ } := by
          refine ⟨⟨sa₄.eo.kind, sa₄.eo.glob, sa₄.eo.blt, ?_, sa₄.eo.nsNew, fun x cc q => ?_, sa₄.eo.apart⟩, fun b q => sa₄.fresh b ?_, fun q hq => ?_⟩
          · obtain ⟨m, q⟩ := sa₄.eo.ns
            refine ⟨m, q.at' fun o e => seq₅ _ o (ne5 ?_ e) e⟩
            obtain ⟨o', es, ep, e', hd', _⟩ := q
            rw [e] at e'; cases e'
            exact fun ⟨_, _, z⟩ => by rw [hd'] at z; cases z
          · obtain ⟨⟨v, o', e', hd'⟩, b⟩ := sa₄.eo.cells x cc q
            exact ⟨⟨v, o', seq₅ _ o' (ne5 (fun ⟨_, _, z⟩ => by rw [hd'] at z; cases z) e') e', hd'⟩, b⟩
          · cases qq : s₄.heap.get? b with
            | none => rfl
            | some o2 =>
              exfalso
              by_cases hb : b = D₀
              · subst hb; rw [show h₅.get? b = none from q] at hd₅; cases hd₅
              · have := seq₅ b o2 hb qq; rw [show h₅.get? b = none from q] at this; cases this
          · obtain ⟨v, V, r⟩ := sa₄.vars q hq
            refine ⟨v, ?_, rel₅ r⟩
            rcases V with ⟨k1, m, q1, q2⟩ | ⟨k1, cc, l1, q1⟩
            · refine .inl ⟨k1, m, q1.at' fun o e => seq₅ _ o (ne5 ?_ e) e, q2⟩
              obtain ⟨o', es, ep, e', hd', _⟩ := q1
              rw [e] at e'; cases e'
              exact fun ⟨_, _, z⟩ => by rw [hd'] at z; cases z
            · obtain ⟨o', e', hd'⟩ := q1
              exact .inr ⟨k1, cc, l1, o', seq₅ _ o' (ne5 (fun ⟨_, _, z⟩ => by rw [hd'] at z; cases z) e') e', hd'⟩
        refine ⟨xs.length + 1 - (i + 1), by (first | lia | omega), i + 1, ys ++ [y], k₅, rfl, hlt, ?_, cx₅, sa₅, ?_, hd₅, ?_, fun b o hs q => ?_⟩
        · exact ((ext₂.trans a₃.1).trans a₄.1).step m₅ fun a q => by subst q; exact back hDs
        · exact frameSt hst₄ (fun b o hs q => kp a₄ a₃.2 b o hs (ks₃ b o hs q)) fun b hb o ho q => seq₅ b o (fpD b hb) q
        · rw [htk, List.filter_append, List.map_append]
          have : (List.filter p [x]).map f = [f x] := by simp [hpx]
          rw [this]
          refine RelAll.append (RelAll.mono (fun b o hb q hs => ⟨hb, seq₅ b o hb.2 q⟩) _ _ rr₄) (RelAll.cons' (rel₅ ry) RelAll.nil')
        · exact seq₅ b o (fun h => by subst h; rw [hDs] at q; cases q) (kp a₄ a₃.2 b o hs (ks₃ b o hs q))
      · rw [if_neg hpx]
        refine ⟨xs.length + 1 - (i + 1), by (first | lia | omega), i + 1, ys, kk, rfl, hlt, ext₂.trans a₃.1, a₃.2, sa₂c.aft cx₂ a₃, hst₃, hd₃, ?_, ks₃⟩
        rw [htk, List.filter_append, List.map_append]
        have : (List.filter p [x]).map f = [] := by simp [hpx]
        rw [this, List.append_nil]; exact rr₃
    · have hin : i = xs.length := by (first | lia | omega)
      subst hin
      refine it.W.done _ _ _ (by simpa using hst) fun h₁ tk₁ hk₁ => ?_
      obtain ⟨oI, eI, hsI⟩ := it.shape _ _ hst
      have hk₁' : ∀ b o, b ≠ I → s'.heap.get? b = some o → h₁.get? b = some o := fun b o hb q => hk₁ b o (by simpa using hb) q
      have hbI : G.base.get? I = none := by
        cases q : G.base.get? I with
        | none => rfl
        | some o => rw [c.stays I o q] at hI; cases hI
      have m₁ : Mod (· = I) s' { s' with heap := h₁, toks := tk₁ } := ⟨fun b o _ hb q => ⟨o.slots, hk₁' b o hb q, fun _ => rfl⟩, rfl, fun _ _ q => q⟩
      have cx₁ : Cx G n A { s' with heap := h₁, toks := tk₁ } := cx.but hk₁' hbI hI9 fun o q => by rw [eI] at q; cases q; exact hsI
      have hDI : D₀ ≠ I := fun q => fpD I it.mem q.symm
      refine hR D₀ C _ ys kk (back hDs) (back hCs) (e.step m₁ fun a q => by subst q; exact hI) cx₁ ?_ (hk₁' D₀ _ hDI hd) hDC ?_
      · obtain ⟨m, q⟩ := sa.eo.ns
        rw [hloc] at q
        refine ⟨m, q.at' fun o e => hk₁' C o (fun h => ?_) e⟩
        subst h
        obtain ⟨o', es, ep, e', hd', _⟩ := q
        rw [eI] at e'; cases e'; exact hsI.1 _ _ hd'
      · have hr' : RelAll ok' s'.heap ((xs.filter p).map f) ys := by rw [List.take_length] at hr; exact hr
        exact RelAll.mono (fun b o hb q hs => ⟨hb.1, hk₁' b o (fun h => by subst h; rw [eI] at q; cases q; exact hsI.2.2.1 hs) q⟩) _ _ hr'
  exact codeAny_compStart_list loop (it.W.self 0 _ _ _ (it.W.frame _ _ _ st fun b _ o e => k4 b o e) loop)
end
end Mine
/-! A8 -/
namespace Mine
section
variable {G : W0} {n : Nat} {A : Around} {env : Env} {ok : Addr → Prop} {ρ : List (String × D)}

theorem hnames_of {scope : Scope} (hnd : (scope.names.map (·.1)).Nodup) : ∀ x ∈ scope.names, x.2 = .local → scope.names.lookup x.1 = some .local := fun x hx hl => by
  obtain ⟨a, k⟩ := x; simp only at hl; subst hl; exact lookup_nodup hnd hx

theorem Cx.sameNew {n₀ : Nat} {s₀ s s' : Shared} (c₀ : Cx G n₀ A s₀) (c : Cx G n A s) {a : Addr} (ha : s₀.heap.get? a = none) (hs : Heap.SameBut a s.heap s'.heap)
    (hc : ∀ o vs, s.heap.get? a = some o → o.data = .fields vs → False) (hg : s'.gens = s.gens) : Cx G n A s' := by
  have hb : G.base.get? a = none := by
    cases q : G.base.get? a with
    | none => rfl
    | some o => rw [c₀.stays a o q] at ha; cases ha
  have h9 : a ≠ 99 := c₀.not99 ha
  refine ⟨fun b o e => ?_, ?_, ?_, c.hh, c.dep, c.un, by rw [hg]; exact c.bare⟩
  · have hne : b ≠ a := fun q => by subst q; rw [hb] at e; cases e
    rw [hs.2 b hne]; exact c.stays b o e
  · rcases c.tab with e | ⟨q, e, hq, r⟩
    · exact .inl ((hs.2 99 (Ne.symm h9)).trans e)
    · refine .inr ⟨q, (hs.2 99 (Ne.symm h9)).trans e, hq, ?_⟩
      obtain ⟨c', o, vs, t, e1, e2, e3, e4⟩ := r
      cases e1
      exact ⟨_, o, vs, t, rfl, (hs.2 q fun h => by subst h; exact hc o vs e2 e3).trans e2, e3, e4⟩
  · obtain ⟨l, x, y⟩ := c.fr
    obtain ⟨l', x', y'⟩ := c₀.fr
    rw [x] at x'; cases x'
    refine ⟨l, x, ?_⟩
    clear x
    induction l with
    | nil => trivial
    | cons env r ih =>
      obtain ⟨k, ⟨L, o, es, ep, b, cc, n9, d, e⟩, rr⟩ := y
      obtain ⟨_, ⟨L', o', es', ep', b', cc', n9', d', e'⟩, rr'⟩ := y'
      rw [b] at b'; cases b'
      exact ⟨k, ⟨L, o, es, ep, b, cc, n9, (hs.2 L fun h => by subst h; rw [ha] at d'; cases d').trans d, e⟩, ih rr rr'⟩
theorem wrap_up {s s' : Shared} {C D₀ : Addr} {ds : List D} {ys : List Value} {k : Nat} (c : Cx G n A s) (S : Sat G ok env ρ s) (hD : s.heap.get? D₀ = none) (hC : s.heap.get? C = none) (e : Ext s s') (cx : Cx G n A s') (hn : ∃ m, s'.heap.Ns C m) (hd : s'.heap.get? D₀ = some (LO ys k))
    (hr : RelAll ok s'.heap ds ys) {h' : Heap} (hs' : Heap.SameBut C s'.heap h') : Aft G n A s { s' with heap := h' } ∧ Rel ok h' (.list ds) (.ref D₀) := by
  obtain ⟨m, oC, es, ep, eC, dC, _⟩ := hn
  have mC : Mod (· = C) s' { s' with heap := h' } := Mod.same hs' rfl rfl
  have cx' : Cx G n A { s' with heap := h' } := c.sameNew cx (s' := { s' with heap := h' }) hC hs' (fun o vs q hd => by rw [eC] at q; cases q; rw [dC] at hd; cases hd) rfl
  have keep : ∀ b o, IsSeq o → s'.heap.get? b = some o → h'.get? b = some o := fun b o hs q => by
    rw [hs'.2 b fun h => by subst h; rw [eC] at q; cases q; obtain ⟨_, _, z⟩ := hs; rw [dC] at z; cases z]; exact q
  refine ⟨⟨e.step mC fun a q => by subst q; exact hC, cx'⟩, ?_⟩
  simp only [Rel]
  exact ⟨D₀, ys, k, rfl, S.fresh D₀ hD, keep _ _ ⟨_, _, rfl⟩ hd, RelAll.mono (fun b o hb q hs => ⟨hb, keep b o hs q⟩) _ _ hr⟩

/-- a comprehension of one clause -/
theorem ev_comp {α : Type} {elt t iter : Expr} {ifs : List Expr} {scope : Scope} {pos : Pos} {isL : Bool} (xs : List α) (mk : α → D) (p : α → Bool) (f : α → D) (new : α → List (String × D)) {ρc : List (String × D)}
    (hsrc : Src G n A env ok ρ isL iter (xs.map mk))
    (hkind : scope.kind = .function) (hnd : (scope.names.map (·.1)).Nodup) (hfree : FreeOk scope env) (hsub : Sub scope env ρ ρc)
    (hlet : (∀ it v, letOwnedTupleGo t it v = pure ()) ∨ (isL = true ∧ (∃ es k p, t = .Tuple es k p) ∧ ∀ x ∈ xs, ∃ l, mk x = .tup l))
    (ht : ∀ cenv ok' X, IsComp scope cenv X → ∀ x ∈ xs, Tgt G n A cenv ok' X t (mk x) ρc (ρc ++ new x))
    (hif : ∀ cenv ok' X, IsComp scope cenv X → ∀ x ∈ xs, Tests G n A cenv ok' (ρc ++ new x) ifs (p x))
    (helt : ∀ cenv ok' X, IsComp scope cenv X → ∀ x ∈ xs, p x = true → Ev G n A cenv ok' (ρc ++ new x) elt (f x)) (hz : xs.length ≤ sizeLine)
    (hs : ∀ x, foldedSetIterable iter env x = pure x := by intro _; rfl) :
    Ev G n A env ok ρ (.ListComp elt [⟨t, iter, ifs, 0⟩] scope pos) (.list ((xs.filter p).map f)) := fun s c S => by
  obtain ⟨cl, hcl, h1, h2⟩ := closure_ok hfree
  rw [eval_ListComp]
  refine wpAny_comprehension_free (use := none) rfl hs hcl hkind (hnames_of hnd) (Ev.to (hsrc s c S) fun x s₁ h₁ => Ev.to h₁ fun it s₂ h₂ => ?_)
  obtain ⟨a2, I, fp, P, St, rfl, hI, ita, st⟩ := h₂
  refine comp_core (Rr := fun acc C r s' => compPost G.M A (fun _ _ => False) none (fun v s' => Aft G n A s s' ∧ Rel ok s'.heap (.list ((xs.filter p).map f)) v) acc C r s') xs mk p f new hkind hnd hsub hlet ht hif helt hz h1 h2 c S a2 hI ita st ?_
  intro D₀ C s' ys k hD hC e cx ⟨m, hn⟩ hd hDC hr
  exact ⟨m, hn, fun h' hs' => wrap_up c S hD hC e cx ⟨m, hn⟩ hd hr hs'⟩

theorem tests_nil : Tests G n A env ok ρ [] true := fun s c S => wpAny_tests_nil ⟨c.refl, rfl⟩
theorem tests_one {e : Expr} {b : Bool} (h : Tst G n A env ok ρ e b) : Tests G n A env ok ρ [e] b := fun s c S => wpAny_tests_one (h s c S)
end
end Mine
/-! A9 -/
namespace Mine

noncomputable abbrev KK (G : W0) : Frag := hd.heap_1 G.w.params
theorem Cx.K {G : W0} {n : Nat} {A : Around} {s : Shared} (c : Cx G n A s) : (KK G).In s.heap := fun a o e => c.stays a o (G.kin a o e)

/-- the def at an address -/
noncomputable def fdOf (K : Frag) (a : Addr) : FuncData := match K.lookup a with
  | some ⟨_, _, .func fd, _⟩ => fd
  | _ => default
noncomputable def isDef (K : Frag) (a : Addr) : Bool := match K.lookup a with
  | some ⟨_, _, .func fd, _⟩ => codeIn K fd.code fd.qualname && fd.closure.isEmpty && !fd.scope.isCoroutine && (fd.scope.kind == .function) && (fd.globals == mainGlobals) && (fd.builtins == builtinsNs) && (fd.scope.names.all fun y => y.2 != .free)
  | _ => false

inductive BRel (h : Heap) : List (Str × Value) → List (String × D) → Prop
  | nil : BRel h [] []
  | cons {x : String} {v : Value} {d : D} {r r'} : Rel (fun _ => True) h d v → BRel h r r' → BRel h ((Str.ofString x, v) :: r) ((x, d) :: r')
theorem BRel.mem {h : Heap} {bs : List (Str × Value)} {ρ : List (String × D)} (b : BRel h bs ρ) : ∀ p ∈ ρ, ∃ v, (Str.ofString p.1, v) ∈ bs ∧ Rel (fun _ => True) h p.2 v := by
  induction b with
  | nil => intro p hp; cases hp
  | cons r _ ih => intro p hp; rcases List.mem_cons.mp hp with rfl | hp
                   · exact ⟨_, List.mem_cons_self, r⟩
                   · obtain ⟨v, h1, h2⟩ := ih p hp; exact ⟨v, List.mem_cons_of_mem _ h1, h2⟩

theorem bindL_get {kindOf : Str → Option NameKind} : ∀ {bs : List (Str × Value)} (m : Str → Option Value) {x : Str} {v : Value}, (bs.map (·.1)).Nodup → (x, v) ∈ bs → kindOf x = some .local → bindL kindOf bs m x = some v
  | [], _, _, _, _, h, _ => by cases h
  | (n, u) :: r, m, x, v, hn, h, hk => by
    rw [List.map_cons, List.nodup_cons] at hn
    unfold bindL
    rcases List.mem_cons.mp h with e | e
    · cases e
      rw [if_pos hk]
      have key : ∀ (r : List (Str × Value)) (m : Str → Option Value), n ∉ r.map (·.1) → bindL kindOf r m n = m n := by
        intro r
        induction r with
        | nil => intro m _; rfl
        | cons p r ih =>
          intro m hx
          rw [List.map_cons, List.mem_cons, not_or] at hx
          unfold bindL
          rw [ih _ hx.2]
          split
          · exact if_neg hx.1
          · rfl
      rw [key r _ hn.1]; exact if_pos rfl
    · exact bindL_get _ hn.2 e hk
theorem bindC_get {kindOf : Str → Option NameKind} : ∀ {bs : List (Str × Value)} (m : Str → Option Value) {x : Str} {v : Value}, (bs.map (·.1)).Nodup → (x, v) ∈ bs → kindOf x ≠ some .local → bindC kindOf bs m x = some v
  | [], _, _, _, _, h, _ => by cases h
  | (n, u) :: r, m, x, v, hn, h, hk => by
    rw [List.map_cons, List.nodup_cons] at hn
    unfold bindC
    rcases List.mem_cons.mp h with e | e
    · cases e
      rw [if_neg hk]
      have key : ∀ (r : List (Str × Value)) (m : Str → Option Value), n ∉ r.map (·.1) → bindC kindOf r m n = m n := by
        intro r
        induction r with
        | nil => intro m _; rfl
        | cons p r ih =>
          intro m hx
          rw [List.map_cons, List.mem_cons, not_or] at hx
          unfold bindC
          rw [ih _ hx.2]
          split
          · rfl
          · exact if_neg hx.1
      rw [key r _ hn.1]; exact if_pos rfl
    · exact bindC_get _ hn.2 e hk

/-- inside a def: what has been done since its start -/
structure Fst (G : W0) (n : Nat) (A : Around) (env : Env) (ok : Addr → Prop) (ρ : List (String × D)) (s₀ sT s : Shared) : Prop where
  cx : Cx G n A s
  sat : Sat G ok env ρ s
  ext : Ext s₀ s
  own : ∀ x a, At env x a → s₀.heap.get? a = none
  stb : Mod (fun b => ¬ ok b ∨ ∃ x, At env x b) sT s

section
variable {G : W0} {n : Nat} {A : Around}

theorem enter {s : Shared} {fa : Addr} {body : List Stmt} {sc : Scope} {args : Args} {binds : List (Str × Value)} {ρ : List (String × D)} {R : Result → Shared → Prop}
    (c : Cx G (n + 1) A s) (hdef : isDef (KK G) fa = true) (hbody : (fdOf (KK G) fa).body = .stmts body) (hsc : (fdOf (KK G) fa).scope = sc) (hgen : sc.isGenerator = false)
    (hbind : ∀ S, peek (KK G) S (bindArgs (fdOf (KK G) fa) args) = some binds) (hnd : (binds.map (·.1)).Nodup) (hkind : (binds.map (·.1)).all (fun x => sc.names.lookup x == some .local || sc.names.lookup x == some .cell) = true) (hb : BRel s.heap binds ρ)
    (h : ∀ env s₁, IsComp sc env (fun a => s.heap.get? a = none) → env.frame = some env.locals → Fst G n (A.deeper env) env (fun _ => True) ρ s s₁ s₁ → (∀ b o, s.heap.get? b = some o → s₁.heap.get? b = some o) → s₁.gens = s.gens →
      wpAny G.M (A.deeper env) (execs body env) (fun f s' => R (.ok (.ret (match f with | .ret v => v | _ => .none))) s')
        (fun e s' => wpAny G.M (A.deeper env) (leaving env e) (fun _ s'' => R (.error e) s'') (fun e' s'' => R (.error e') s'') s') s₁) :
    codeAny G.M A (.call (.ref fa) args) R s := by
  unfold isDef at hdef
  split at hdef
  · rename_i oc od fd sl hl
    have e0 : fdOf (KK G) fa = fd := by unfold fdOf; rw [hl]
    rw [e0] at hbody hsc hbind
    subst hsc
    simp only [Bool.and_eq_true, beq_iff_eq, decide_eq_true_eq, Bool.not_eq_true', List.isEmpty_iff] at hdef
    obtain ⟨⟨⟨⟨⟨⟨h1, h2⟩, h3⟩, h4⟩, h5⟩, h6⟩, h7⟩ := hdef
    have ho := c.K _ _ hl
    have hlim : s.heap.NoLimit := G.nolim.keeps c.stays
    have hdep := c.dep
    refine codeAny_call_function (by show A.depth < 1000; (first | lia | omega)) ho rfl h3 hgen hbody (codeRec_of c.K h1) ?_
    refine (kp_binds c.K hbind) _ _ _ _ ?_
    rw [h2]
    have hk' : ∀ x ∈ binds, fd.scope.names.lookup x.1 = some .local ∨ (fd.scope.names.lookup x.1 = some .cell ∧ ((cellsFrom (s.heap.objs.size + 1) fd.scope.names []).lookup x.1).isSome = true) := fun x hx => by
      have := List.all_eq_true.mp hkind x.1 (List.mem_map_of_mem hx)
      rcases Bool.or_eq_true_iff.mp this with q | q
      · exact .inl (by simpa using q)
      · have q' : fd.scope.names.lookup x.1 = some .cell := by simpa using q
        exact .inr ⟨q', cellsFrom_some _ _ _ (.inl q')⟩
    refine wpAny_newFunctionEnv_cells h4 hk' fun env he s' x => ?_
    have hce : env = callEnvC fd s.heap.objs.size fa := he
    subst hce
    have hns := x.toInCall.ns
    obtain ⟨hh, tk, rfl⟩ := x.toInCall.same
    have a0 := c.keeps (h' := hh) (tk := tk) x.toInCall.keep
    have none' : ∀ {b : Addr}, s.heap.objs.size ≤ b → s.heap.get? b = none := fun {b} hb => by
      cases q : s.heap.get? b with
      | none => rfl
      | some o => exact absurd (Heap.lt_size q) (Nat.not_lt.mpr hb)
    have base : ∀ {b : Addr}, s.heap.get? b = none → G.base.get? b = none := fun {b} e => by
      cases q : G.base.get? b with
      | none => rfl
      | some o => rw [c.stays b o q] at e; cases e
    have hLn : s.heap.get? (callEnvC fd s.heap.objs.size fa).locals = none := none' (Nat.le_refl _)
    have hcn : ∀ y cc, (callEnvC fd s.heap.objs.size fa).cells.lookup y = some cc → s.heap.get? cc = none := fun y cc q => none' (by
      exact Nat.le_of_lt (x.above y cc (mem_of_lookup q)))
    have hown : ∀ y a, At (callEnvC fd s.heap.objs.size fa) y a → s.heap.get? a = none := fun y a q => by
      rcases q with ⟨_, rfl⟩ | ⟨_, q⟩
      · exact hLn
      · exact hcn y a q
    have hhas : ∀ y, fd.scope.names.lookup y = some .cell → ((callEnvC fd s.heap.objs.size fa).cells.lookup y).isSome = true := fun y q => cellsFrom_some _ _ _ (.inl q)
    refine ⟨hlim.keeps x.toInCall.keep, codeAny_func (h _ _ ⟨fun y k q _ => q, fun y k q hk => ?_, fun y k q hk => ?_, fun y q => ?_⟩ rfl ?_ x.toInCall.keep rfl)⟩
    · rcases hk with rfl | rfl
      · exact ⟨_, .inl ⟨q, rfl⟩, hLn⟩
      · obtain ⟨cc, q3⟩ := Option.isSome_iff_exists.mp (hhas y q)
        exact ⟨cc, .inr ⟨q, q3⟩, hcn y cc q3⟩
    · rcases hk with rfl | rfl
      · have := List.all_eq_true.mp h7 _ (lookup_mem q); simp at this
      · exact hhas y q
    · show fd.scope.names.lookup y ≠ _; rw [q]; nofun
    have hdep := c.dep
    have hun := c.un
    refine ⟨⟨a0.2.stays, a0.2.tab, ?_, c.hh, by show A.depth + 1 + n ≤ 990; (first | lia | omega), by show A.units + 3 + 20 * n ≤ 9800; (first | lia | omega), c.bare⟩, ⟨⟨h4, h5, h6, ⟨_, hns⟩, base hLn, fun y cc q => ⟨⟨_, x.cell y cc q⟩, base (hcn y cc q)⟩, fun y z cc q q' => name_of_addr x.apart (mem_of_lookup q) (mem_of_lookup q')⟩, fun _ _ => trivial, fun p hp => ?_⟩, a0.1, hown, .refl _⟩
    · obtain ⟨l, e1, e2⟩ := c.fr
      refine ⟨callEnvC fd s.heap.objs.size fa :: l, Around.frames_deeper e1, ?_, ?_, e2.kept a0.1.kept⟩
      · show fd.scope.kind ≠ .module; rw [h4]; nofun
      · obtain ⟨o, es, ep, e3, e4, _⟩ := hns
        exact ⟨_, o, es, ep, rfl, base hLn, c.not99 hLn, e3, e4⟩
    · obtain ⟨v, hm, r⟩ := hb.mem p hp
      refine ⟨v, ?_, r.kept c.tab a0.1.kept⟩
      rcases hk' _ hm with q | ⟨q, q2⟩
      · exact .inl ⟨q, _, hns, bindL_get _ hnd hm q⟩
      · obtain ⟨cc, q3⟩ := Option.isSome_iff_exists.mp q2
        have hne : (callEnvC fd s.heap.objs.size fa).kindOf (Str.ofString p.1) ≠ some .local := by show fd.scope.names.lookup _ ≠ _; rw [q]; nofun
        have := x.cell _ cc q3
        rw [bindC_get _ hnd hm hne] at this
        exact .inr ⟨.inl q, cc, q3, this⟩
  · cases hdef
end
end Mine
/-! A10 -/
namespace Mine
section
variable {G : W0} {n : Nat} {A : Around} {env : Env} {ok : Addr → Prop} {ρ : List (String × D)}

/-- a def of the text, by its name -/
theorem ev_glob {x : String} {pos : Pos} {v : Value} (hk : env.kindOf (Str.ofString x) = some .globalImplicit) (hg : nsIn (KK G) mainGlobals (Str.ofString x) = some (some v)) (h1 : (Str.ofString x == ("__debug__" : Str)) = false := by decide) :
    Ev G n A env ok ρ (.Name (Str.ofString x) pos) (.val v) := fun s c S => by
  refine Calls.Name_function_global S.eo.kind hk ?_ h1
  refine Calls.loadGlobal_global (by rw [S.eo.glob]; exact G.g.keeps c.stays) (mg_of G.kin G.g hg) ⟨c.refl, rfl⟩
/-- a global int -/
theorem ev_globI {x : String} {pos : Pos} {i : Int} {t : Tok} (hk : env.kindOf (Str.ofString x) = some .globalImplicit) (hg : nsIn (KK G) mainGlobals (Str.ofString x) = some (some (.int i t))) (h1 : (Str.ofString x == ("__debug__" : Str)) = false := by decide) :
    Ev G n A env ok ρ (.Name (Str.ofString x) pos) (.int i) := fun s c S => by
  refine Calls.Name_function_global S.eo.kind hk ?_ h1
  refine Calls.loadGlobal_global (by rw [S.eo.glob]; exact G.g.keeps c.stays) (mg_of G.kin G.g hg) ⟨c.refl, ⟨t, rfl⟩⟩
/-- a built-in, by its name -/
theorem ev_blt {x : String} {pos : Pos} {v : Value} (hk : env.kindOf (Str.ofString x) = some .globalImplicit) (hg : nsIn (KK G) mainGlobals (Str.ofString x) = some none) (hb : bootBuiltins (Str.ofString x) = some v) (hn : Str.ofString x ≠ "__name__" := by decide)
    (h1 : (Str.ofString x == ("__debug__" : Str)) = false := by decide) : Ev G n A env ok ρ (.Name (Str.ofString x) pos) (.val v) := fun s c S => by
  refine Calls.Name_function_global S.eo.kind hk ?_ h1
  refine Calls.loadGlobal_builtin (by rw [S.eo.glob]; exact G.g.keeps c.stays) (mg_none_of G.kin G.g hg) (by rw [S.eo.blt]; exact G.b.keeps c.stays) ((G.bi _ hn).trans hb) ⟨c.refl, rfl⟩

/-- keywords -/
noncomputable def Ekw (G : W0) (n : Nat) (A : Around) (env : Env) (ok : Addr → Prop) (ρ : List (String × D)) (ks : List Keyword) (names : List Str) (ds : List D) : Prop :=
  ∀ pos s, Cx G n A s → Sat G ok env ρ s → (backToKw pos (keywordEach ks env)).all (·.1.isSome) = true ∧ (backToKw pos (keywordEach ks env)).filterMap (·.1) = names ∧
    wpAny G.M A (evalAll ((backToKw pos (keywordEach ks env)).map (·.2))) (fun vs s' => Aft G n A s s' ∧ RelAll ok s'.heap ds vs) (fun _ _ => False) s
theorem ekw_nil : Ekw G n A env ok ρ [] [] [] := fun pos s c S => ⟨rfl, rfl, wpAny_evalAll_nil ⟨c.refl, RelAll.nil'⟩⟩
theorem ekw_cons {x : Str} {e : Expr} {p : Pos} {ks : List Keyword} {names : List Str} {d : D} {ds : List D} (h : Ev G n A env ok ρ e d) (hs : Ekw G n A env ok ρ ks names ds) : Ekw G n A env ok ρ (⟨some x, e, p⟩ :: ks) (x :: names) (d :: ds) := fun pos s c S => by
  obtain ⟨a1, a2, _⟩ := hs pos s c S
  refine ⟨by simp only [keywordEach, backToKw, List.map_cons, List.all_cons, Option.isSome_some, Bool.true_and]; exact a1, ?_, ?_⟩
  · simp only [keywordEach, backToKw, List.map_cons, List.filterMap_cons]
    exact congrArg (x :: ·) a2
  · simp only [keywordEach, backToKw, List.map_cons]
    refine wpAny_evalAll_cons (wpAny_bind (Ev.to (h s c S) fun v s₁ h00 => ?_))
    obtain ⟨b1, r1⟩ := h00
    refine wpAny_bind (wpAny_standAt (wpAny_pure ?_))
    refine Ev.to (hs pos s₁ b1.2 (S.aft c b1)).2.2 fun vs s₂ h00 => ?_
    obtain ⟨b2, r2⟩ := h00
    exact ⟨b1.trans b2, RelAll.cons' (r1.kept b1.2.tab b2.1.kept) r2⟩

theorem wp_evalArgs {pos : Pos} {f : Value} {es : List Expr} {ks : List Keyword} {names : List Str} {ds kds : List D} {s : Shared} {Q : Args → Shared → Prop} {E : Value → Shared → Prop} (h : Evs G n A env ok ρ es ds) (hk : Ekw G n A env ok ρ ks names kds)
    (hne : ∃ e r, es = e :: r ∧ ∀ rest : List Expr, starEach (e :: rest) env = (false, eval e env) :: starEach rest env) (c : Cx G n A s) (S : Sat G ok env ρ s)
    (hQ : ∀ s' vs us, Aft G n A s s' → RelAll ok s'.heap ds vs → RelAll ok s'.heap kds us → Q ⟨vs, names.zip us⟩ s') : wpAny G.M A (evalArgs f true (backTo pos (starEach es env)) (backToKw pos (keywordEach ks env))) Q E s := by
  obtain ⟨e, r, rfl, he⟩ := hne
  have h' := h pos s c S
  rw [he] at h' ⊢
  simp only [backTo, List.map_cons] at h' ⊢
  refine evalArgs_kw (hk pos s c S).1 (Ev.to h' fun vs s₁ h00 => ?_)
  obtain ⟨b1, r1⟩ := h00
  refine Ev.to (hk pos s₁ b1.2 (S.aft c b1)).2.2 fun us s₂ h00 => ?_
  obtain ⟨b2, r2⟩ := h00
  rw [(hk pos s c S).2.1]
  exact hQ s₂ vs us (b1.trans b2) (r1.kept b1.2.tab b2.1.kept) r2

/-- a call of a function object -/
theorem ev_callF {func : Str} {fpos pos : Pos} {args : List Expr} {ks : List Keyword} {names : List Str} {ds kds : List D} {d : D} {fa : Addr} (hf : Ev G n A env ok ρ (.Name func fpos) (.val (.ref fa))) (h : Evs G n A env ok ρ args ds) (hk : Ekw G n A env ok ρ ks names kds)
    (hfn : ∀ s, Cx G n A s → ∃ o fd, s.heap.get? fa = some o ∧ o.data = .func fd)
    (hcall : ∀ s vs us, Cx G n A s → (∀ b, s.heap.get? b = none → ok b) → RelAll ok s.heap ds vs → RelAll ok s.heap kds us → wpAny G.M A (call (.ref fa) vs (names.zip us)) (fun v s' => Aft G n A s s' ∧ Rel ok s'.heap d v) (fun _ _ => False) s)
    (hne : ∃ e r, args = e :: r ∧ ∀ rest : List Expr, starEach (e :: rest) env = (false, eval e env) :: starEach rest env := by exact ⟨_, _, rfl, fun _ => rfl⟩) :
    Ev G n A env ok ρ (.Call (.Name func fpos) args ks pos) d := fun s c S => by
  refine wpAny_Call_Name_kw (Ev.to (hf s c S) fun v s₁ h00 => ?_)
  obtain ⟨a1, r1⟩ := h00
  obtain rfl := r1
  have S1 := S.aft c a1
  refine (Classical.byContradiction fun hcon => ?_)
  obtain ⟨o, fd, ho, hd⟩ := hfn s₁ a1.2
  refine hcon (callWith_function_kw (o := o) (fd := fd) (wp_evalArgs h hk hne a1.2 S1 fun s₂ vs us a2 r2 r3 => ⟨⟨?_, hd⟩, ?_⟩))
  · refine a2.1.kept.get (ne_tab a1.2.tab ho fun ws q => by rw [hd] at q; cases q) ho fun es ep q => by rw [hd] at q; cases q
  · refine Ev.to (hcall s₂ vs us a2.2 (S1.aft a1.2 a2).fresh r2 r3) fun v s₃ h00 => ?_
    obtain ⟨a3, r⟩ := h00
    exact ⟨(a1.trans a2).trans a3, r⟩

/-- what a def gives back -/
noncomputable def Spec (G : W0) (n : Nat) (fa : Addr) (ds : List D) (names : List Str) (kds : List D) (d : D) : Prop :=
  ∀ A s vs us, Cx G n A s → RelAll (fun _ => True) s.heap ds vs → RelAll (fun _ => True) s.heap kds us →
    codeAny G.M A (.call (.ref fa) ⟨vs, names.zip us⟩) (fun r s' => ∃ v, r = .ok (.ret v) ∧ Aft G n A s s' ∧ Rel (fun b => s.heap.get? b = none) s'.heap d v) s
theorem isDef_there {fa : Addr} (h : isDef (KK G) fa = true) : ∀ s, Cx G n A s → ∃ o fd, s.heap.get? fa = some o ∧ o.data = .func fd := fun s c => by
  unfold isDef at h
  split at h
  · rename_i hl; exact ⟨_, _, c.K _ _ hl, rfl⟩
  · cases h
theorem ev_call {func : Str} {fpos pos : Pos} {args : List Expr} {ks : List Keyword} {names : List Str} {ds kds : List D} {d : D} {fa : Addr} {m : Nat} (hf : Ev G n A env ok ρ (.Name func fpos) (.val (.ref fa))) (h : Evs G n A env ok ρ args ds) (hk : Ekw G n A env ok ρ ks names kds)
    (hdef : isDef (KK G) fa = true) (hs : Spec G m fa ds names kds d) (hm : m ≤ n)
    (hne : ∃ e r, args = e :: r ∧ ∀ rest : List Expr, starEach (e :: rest) env = (false, eval e env) :: starEach rest env := by exact ⟨_, _, rfl, fun _ => rfl⟩) :
    Ev G n A env ok ρ (.Call (.Name func fpos) args ks pos) d :=
  ev_callF hf h hk (isDef_there hdef) (fun s vs us c f r1 r2 => wpAny_call (codeAny_mono (hs A s vs us (c.less hm) (r1.weak fun _ _ => trivial) (r2.weak fun _ _ => trivial)) fun r s' ⟨v, e, a, rr⟩ => by
    subst e; exact ⟨⟨a.1, c.back a.1 a.2⟩, rr.weak f⟩)) hne

/-! statements -/
/-- what is wanted, under names of its own: it keeps the terms small -/
theorem gen {α : Type} {t : Sem α} {s : Shared} {Q : α → Shared → Prop} {E : Value → Shared → Prop}
    (h : ∀ (Q' : α → Shared → Prop) (E' : Value → Shared → Prop), (∀ v s', Q v s' → Q' v s') → (∀ v s', E v s' → E' v s') → wpAny G.M A t Q' E' s) : wpAny G.M A t Q E s := h Q E (fun _ _ x => x) fun _ _ x => x
/-- what is wanted behind a statement -/
noncomputable def Nxt (G : W0) (A : Around) (env : Env) (rest : List Stmt) (Q : Flow → Shared → Prop) (E : Value → Shared → Prop) : Flow → Shared → Prop
  | .next, s => wpAny G.M A (execs rest env) Q E s
  | f, s => Q f s
theorem st_of {st : Stmt} {rest : List Stmt} {s : Shared} {Q : Flow → Shared → Prop} {E : Value → Shared → Prop} (h : wpAny G.M A (exec st env) (Nxt G A env rest Q E) E s) : wpAny G.M A (execs (st :: rest) env) Q E s :=
  wpAny_execs_cons (wpAny_mono h (fun f s' h => by cases f <;> exact h) fun _ _ h => h)
theorem st_if {s : Shared} {test : Expr} {body orelse rest : List Stmt} {pos : Pos} {b : Bool} {Q : Flow → Shared → Prop} {E : Value → Shared → Prop} {s₀ sT : Shared} (F : Fst G n A env ok ρ s₀ sT s) (ht : Tst G n A env ok ρ test b)
    (h : ∀ s', Fst G n A env ok ρ s₀ sT s' → wpAny G.M A (execs (if b then body else orelse) env) (Nxt G A env rest Q E) E s') :
    wpAny G.M A (execs (.If test body orelse pos :: rest) env) Q E s := by
  refine st_of (wpAny_If (Ev.to (ht s F.cx F.sat) fun v s₁ h00 => ?_))
  obtain ⟨a, e⟩ := h00
  subst e
  have := h s₁ ⟨a.2, F.sat.aft F.cx a, F.ext.trans a.1, F.own, F.stb.trans a.1.mod⟩
  cases v <;> simpa using this
theorem st_ret {s : Shared} {e : Expr} {rest : List Stmt} {pos : Pos} {d : D} {Q : Flow → Shared → Prop} {E : Value → Shared → Prop} {s₀ sT : Shared} (F : Fst G n A env ok ρ s₀ sT s) (hev : Ev G n A env ok ρ e d)
    (h : ∀ s' v, Fst G n A env ok ρ s₀ sT s' → Rel ok s'.heap d v → Q (.ret v) s') : wpAny G.M A (execs (.Return (some e) pos :: rest) env) Q E s :=
  wpAny_execs_cons (wpAny_Return_some (Ev.to (hev s F.cx F.sat) fun v s₁ ⟨a, r⟩ => h s₁ v ⟨a.2, F.sat.aft F.cx a, F.ext.trans a.1, F.own, F.stb.trans a.1.mod⟩ r))
theorem Fst.store {s₀ sT s : Shared} {x : String} {v : Value} {d : D} {ρ' : List (String × D)} {E : Value → Shared → Prop} {Q : Unit → Shared → Prop} (F : Fst G n A env ok ρ s₀ sT s) (hx : ∃ a, At env (Str.ofString x) a) (R : Rel ok s.heap d v) (U : Upd x d ρ ρ')
    (h : ∀ s', Fst G n A env ok ρ' s₀ sT s' → (∀ b o, Solid o → s.heap.get? b = some o → s'.heap.get? b = some o) → Q () s') : wpAny G.M A (storeName env (Str.ofString x) v) Q E s := by
  obtain ⟨a, ha⟩ := hx
  exact wp_store F.cx F.sat ha R U fun s' m c S k => h s' ⟨c, S, F.ext.step m fun b q => by subst q; exact F.own _ _ ha, F.own, F.stb.trans (m.weak fun b q => .inr ⟨_, q ▸ ha⟩)⟩ k
theorem Fst.aft {s₀ sT s s' : Shared} (F : Fst G n A env ok ρ s₀ sT s) (a : Aft G n A s s') : Fst G n A env ok ρ s₀ sT s' := ⟨a.2, F.sat.aft F.cx a, F.ext.trans a.1, F.own, F.stb.trans a.1.mod⟩
end
end Mine
/-! A11 -/
namespace Mine
section
variable {G : W0} {n : Nat} {A : Around} {env : Env} {ok : Addr → Prop} {ρ : List (String × D)}

theorem backTo_plain {pos : Pos} {es : List Expr} {env : Env} (h : (starEach es env).any (·.1) = false) : (backTo pos (starEach es env)).any (·.1) = false := by
  rw [← h]; unfold backTo; rw [List.any_map]; rfl

/-- a call of a built-in function -/
theorem ev_callB {func : Str} {fpos pos : Pos} {args : List Expr} {ds : List D} {d : D} {id : String} (hf : Ev G n A env ok ρ (.Name func fpos) (.val (.builtin id))) (h : Evs G n A env ok ρ args ds)
    (hcall : ∀ s vs, Cx G n A s → (∀ b, s.heap.get? b = none → ok b) → RelAll ok s.heap ds vs → wpAny G.M A (call (.builtin id) vs []) (fun v s' => Aft G n A s s' ∧ Rel ok s'.heap d v) (fun _ _ => False) s)
    (hne : ∃ e r, args = e :: r ∧ ∀ rest : List Expr, starEach (e :: rest) env = (false, eval e env) :: starEach rest env := by exact ⟨_, _, rfl, fun _ => rfl⟩)
    (hp : (starEach args env).any (·.1) = false := by rfl) :
    Ev G n A env ok ρ (.Call (.Name func fpos) args [] pos) d := fun s c S => by
  refine wpAny_Call_Name_kw (Ev.to (hf s c S) fun v s₁ h00 => ?_)
  obtain ⟨a1, r1⟩ := h00
  obtain rfl := r1
  have S1 := S.aft c a1
  refine Calls.callWith_builtin (backTo_plain hp) (wp_evalArgs h ekw_nil hne a1.2 S1 fun s₂ vs us a2 r2 r3 => ?_)
  obtain rfl := r3
  refine Ev.to (hcall s₂ vs a2.2 (S1.aft a1.2 a2).fresh r2) fun v s₃ h00 => ?_
  obtain ⟨a3, r⟩ := h00
  exact ⟨(a1.trans a2).trans a3, r⟩
/-- a call of a built-in type -/
theorem ev_callT {func : Str} {fpos pos : Pos} {args : List Expr} {ds : List D} {d : D} {T : String} (hf : Ev G n A env ok ρ (.Name func fpos) (.val (.type T))) (h : Evs G n A env ok ρ args ds)
    (hcall : ∀ s vs, Cx G n A s → (∀ b, s.heap.get? b = none → ok b) → RelAll ok s.heap ds vs → wpAny G.M A (call (.type T) vs []) (fun v s' => Aft G n A s s' ∧ Rel ok s'.heap d v) (fun _ _ => False) s)
    (hne : ∃ e r, args = e :: r ∧ ∀ rest : List Expr, starEach (e :: rest) env = (false, eval e env) :: starEach rest env := by exact ⟨_, _, rfl, fun _ => rfl⟩)
    (hp : (starEach args env).any (·.1) = false := by rfl) :
    Ev G n A env ok ρ (.Call (.Name func fpos) args [] pos) d := fun s c S => by
  refine wpAny_Call_Name_kw (Ev.to (hf s c S) fun v s₁ h00 => ?_)
  obtain ⟨a1, r1⟩ := h00
  obtain rfl := r1
  have S1 := S.aft c a1
  refine PySem.callWith_type (backTo_plain hp) (wp_evalArgs h ekw_nil hne a1.2 S1 fun s₂ vs us a2 r2 r3 => ?_)
  obtain rfl := r3
  refine Ev.to (hcall s₂ vs a2.2 (S1.aft a1.2 a2).fresh r2) fun v s₃ h00 => ?_
  obtain ⟨a3, r⟩ := h00
  exact ⟨(a1.trans a2).trans a3, r⟩

theorem evs_one {e : Expr} {d : D} (h : Ev G n A env ok ρ e d) (he : ∀ rest : List Expr, starEach (e :: rest) env = (false, eval e env) :: starEach rest env := by intro _; rfl) : Evs G n A env ok ρ [e] [d] := evs_cons h evs_nil he

noncomputable abbrev Blt (G : W0) (n : Nat) (A : Around) (env : Env) (ok : Addr → Prop) (ρ : List (String × D)) (func : Str) (fpos : Pos) (v : Value) : Prop := Ev G n A env ok ρ (.Name func fpos) (.val v)

theorem ev_lenL {func : Str} {fpos pos : Pos} {e : Expr} {ds : List D} (hf : Blt G n A env ok ρ func fpos (.builtin "len")) (h : Ev G n A env ok ρ e (.list ds)) (hz : (ds.length : Int) < 2 ^ 63)
    (he : ∀ rest : List Expr, starEach (e :: rest) env = (false, eval e env) :: starEach rest env := by intro _; rfl) (hp : (starEach [e] env).any (·.1) = false := by rfl) : Ev G n A env ok ρ (.Call (.Name func fpos) [e] [] pos) (.int ds.length) :=
  ev_callB hf (evs_one h he) (fun s vs c f r => by
    obtain ⟨_, _, rfl, ⟨a, ws, k, rfl, _, hg, rr⟩, rfl⟩ := r
    have hlen := rr.length
    refine Calls.call_len_list (LO.isList hg) (by simp; (first | lia | omega)) ⟨c.tok, ⟨_, by simp [hlen]; rfl⟩⟩) ⟨_, _, rfl, he⟩ hp
theorem ev_lenS {func : Str} {fpos pos : Pos} {e : Expr} {x : Str} (hf : Blt G n A env ok ρ func fpos (.builtin "len")) (h : Ev G n A env ok ρ e (.str x)) (hz : (x.length : Int) < 2 ^ 63)
    (he : ∀ rest : List Expr, starEach (e :: rest) env = (false, eval e env) :: starEach rest env := by intro _; rfl) (hp : (starEach [e] env).any (·.1) = false := by rfl) : Ev G n A env ok ρ (.Call (.Name func fpos) [e] [] pos) (.int x.length) :=
  ev_callB hf (evs_one h he) (fun s vs c f r => by
    obtain ⟨_, _, rfl, ⟨t, rfl⟩, rfl⟩ := r
    refine P.len_str (by (first | lia | omega)) ⟨c.tok, ⟨_, rfl⟩⟩) ⟨_, _, rfl, he⟩ hp
noncomputable def signsD (x : Str) : List D := x.cps.toList.map fun ch => D.str ⟨#[ch]⟩
theorem ev_listS {func : Str} {fpos pos : Pos} {e : Expr} {x : Str} (hf : Blt G n A env ok ρ func fpos (.type "list")) (h : Ev G n A env ok ρ e (.str x)) (hz : x.cps.size ≤ sizeLine)
    (he : ∀ rest : List Expr, starEach (e :: rest) env = (false, eval e env) :: starEach rest env := by intro _; rfl) (hp : (starEach [e] env).any (·.1) = false := by rfl) : Ev G n A env ok ρ (.Call (.Name func fpos) [e] [] pos) (.list (signsD x)) :=
  ev_callT hf (evs_one h he) (fun s vs c f r => by
    obtain ⟨_, _, rfl, ⟨t, rfl⟩, rfl⟩ := r
    refine call_list_str c.hh x t (fun h' tk acc' c' hk hg hi => ?_) hz
    have a1 := c.keeps (h' := h') (tk := tk) hk
    refine ⟨a1, ?_⟩
    simp only [Rel]
    refine ⟨_, acc'.toList, c', rfl, f _ no_get, by simpa using hg, ?_⟩
    obtain ⟨hsz, hit⟩ := hi
    have key : ∀ (cs : List Nat) (vs : List Value), vs.length = cs.length → (∀ (i : Nat) (v : Value), vs[i]? = some v → ∃ ch u, cs[i]? = some ch ∧ v = Value.str ⟨#[ch]⟩ u) → RelAll ok h' (cs.map fun ch => D.str ⟨#[ch]⟩) vs := by
      intro cs
      induction cs with
      | nil => intro vs hl _; simp at hl; subst hl; exact RelAll.nil'
      | cons ch cs ih =>
        intro vs hl hv
        cases vs with
        | nil => simp at hl
        | cons v vs =>
          obtain ⟨ch', u, e1, e2⟩ := hv 0 v (by simp)
          simp at e1; subst e1
          refine RelAll.cons' ⟨u, e2⟩ (ih vs (by simpa using hl) fun i v h => ?_)
          obtain ⟨ch', u', e1, e2⟩ := hv (i + 1) v (by simpa using h)
          exact ⟨ch', u', by simpa using e1, e2⟩
    refine key x.cps.toList acc'.toList (by simp [hsz]) fun i v hv => ?_
    obtain ⟨ch, u, e1, e2⟩ := hit i v (by simpa using hv)
    exact ⟨ch, u, by simpa using e1, e2⟩) ⟨_, _, rfl, he⟩ hp
theorem ev_strI {func : Str} {fpos pos : Pos} {e : Expr} {i : Int} (hf : Blt G n A env ok ρ func fpos (.type "str")) (h : Ev G n A env ok ρ e (.int i)) (hz : i.natAbs.log2 < 1920)
    (he : ∀ rest : List Expr, starEach (e :: rest) env = (false, eval e env) :: starEach rest env := by intro _; rfl) (hp : (starEach [e] env).any (·.1) = false := by rfl) : Ev G n A env ok ρ (.Call (.Name func fpos) [e] [] pos) (.str (Str.ofString (toString i))) :=
  ev_callT hf (evs_one h he) (fun s vs c f r => by
    obtain ⟨_, _, rfl, ⟨t, rfl⟩, rfl⟩ := r
    exact P.str_of_int hz ⟨c.tok, ⟨_, rfl⟩⟩) ⟨_, _, rfl, he⟩ hp
theorem ev_hex {func : Str} {fpos pos : Pos} {e : Expr} {i : Int} (hf : Blt G n A env ok ρ func fpos (.builtin "hex")) (h : Ev G n A env ok ρ e (.int i)) (hz : (baseText "0x" 16 i).length ≤ sizeLine)
    (he : ∀ rest : List Expr, starEach (e :: rest) env = (false, eval e env) :: starEach rest env := by intro _; rfl) (hp : (starEach [e] env).any (·.1) = false := by rfl) : Ev G n A env ok ρ (.Call (.Name func fpos) [e] [] pos) (.str (baseText "0x" 16 i)) :=
  ev_callB hf (evs_one h he) (fun s vs c f r => by
    obtain ⟨_, _, rfl, ⟨t, rfl⟩, rfl⟩ := r
    exact P.hex_of_int ⟨c.tok, ⟨_, rfl⟩⟩ hz) ⟨_, _, rfl, he⟩ hp

/-- ranges -/
noncomputable def rng (a c : Int) (k : Nat) : List D := (List.range k).map fun (i : Nat) => D.int (a + (i : Int) * c)
theorem iterR {s₁ : Shared} {r : Addr} {a b c : Int} {t u v : Tok} {k : Nat} {Q : Value → Shared → Prop} {E : Value → Shared → Prop} (cx : Cx G n A s₁) (hr : IsRange s₁.heap r a b c t u v) (hsm : Builtin.Range.small a b c = true) (hk : Builtin.Range.rangeSize a b c = k)
    (hQ : ∀ s₂ I fp P St, Aft G n A s₁ s₂ → s₁.heap.get? I = none → ItAt G A ok false I (rng a c k) fp P St s₂.heap → St 0 s₂.heap → Q (.ref I) s₂) : wpAny G.M A (pyIter (.ref r)) Q E s₁ := by
  refine wpAny_pyIter_range hr hsm ?_
  have hW := (Walks.range (prog := prg) (w := G.w) (A := A) cx.hh s₁.heap.objs.size a c k).bound
  have hlen : (rng a c k).length = k := by simp [rng]
  refine hQ _ s₁.heap.objs.size [s₁.heap.objs.size] (fun i v => i < k ∧ ∃ t, v = Value.int (a + i * c) t) (fun i h => IsRangeIter h s₁.heap.objs.size (a + i * c) ((k : Int) - i) c) (cx.keeps fun b o e => Heap.get?_push_of_some _ e) no_get ⟨by rw [hlen]; exact hW, by simp, fun b hb hne => absurd (by simpa using hb) hne, fun i h st => ⟨_, st, itr_fields rfl (by intro q t; simp [rawInt])⟩, fun i v' hv => ?_, fun h => by cases h⟩ ?_
  · obtain ⟨hi, t', e⟩ := hv
    refine ⟨D.int (a + (i : Int) * c), ?_, ⟨t', e⟩⟩
    unfold rng
    rw [List.getElem?_map, List.getElem?_range hi]; rfl
  · show (s₁.heap.push _).get? _ = _
    rw [Heap.get?_push_size _ rfl, hk]; simp
theorem small_of {a b c : Int} (ha : a.natAbs < 2 ^ 40) (hb : b.natAbs < 2 ^ 40) (hc : c.natAbs < 2 ^ 40) (hs : (Builtin.Range.rangeSize a b c).natAbs < 2 ^ 50) : Builtin.Range.small a b c = true := by
  unfold Builtin.Range.small
  have f : ∀ x : Int, x.natAbs < 2 ^ 60 → Builtin.Range.rangeFitsLong x = true := fun x hx => by
    unfold Builtin.Range.rangeFitsLong
    simp only [Bool.and_eq_true, decide_eq_true_eq]
    omega
  rw [f a (by omega), f b (by omega), f c (by omega), f _ (by omega)]
  simp only [Bool.true_and, Bool.or_eq_true]
  right
  split
  · exact f _ (by omega)
  · exact f _ (by omega)
theorem wp_callT {s : Shared} {func : Str} {fpos pos : Pos} {args : List Expr} {ds : List D} {T : String} {Q : Value → Shared → Prop} {E : Value → Shared → Prop} (c : Cx G n A s) (S : Sat G ok env ρ s) (hf : Ev G n A env ok ρ (.Name func fpos) (.val (.type T))) (h : Evs G n A env ok ρ args ds)
    (hcall : ∀ s' vs, Aft G n A s s' → Sat G ok env ρ s' → RelAll ok s'.heap ds vs → wpAny G.M A (call (.type T) vs []) Q E s')
    (hne : ∃ e r, args = e :: r ∧ ∀ rest : List Expr, starEach (e :: rest) env = (false, eval e env) :: starEach rest env)
    (hp : (starEach args env).any (·.1) = false) : wpAny G.M A (eval (.Call (.Name func fpos) args [] pos) env) Q E s := by
  refine wpAny_Call_Name_kw (Ev.to (hf s c S) fun v s₁ h00 => ?_)
  obtain ⟨a1, r1⟩ := h00
  obtain rfl := r1
  have S1 := S.aft c a1
  refine PySem.callWith_type (backTo_plain hp) (wp_evalArgs h ekw_nil hne a1.2 S1 fun s₂ vs us a2 r2 r3 => ?_)
  obtain rfl := r3
  exact hcall s₂ vs (a1.trans a2) (S1.aft a1.2 a2) r2
theorem back_none {s s' : Shared} (a : Aft G n A s s') {b : Addr} (e : s'.heap.get? b = none) : s.heap.get? b = none := a.1.kept.none (a.2.not99 e) e
theorem src_range1 {func : Str} {fpos pos : Pos} {e : Expr} {b : Nat} (hf : Blt G n A env ok ρ func fpos (.type "range")) (h : Ev G n A env ok ρ e (.int b)) (hz : b < 2 ^ 40)
    (he : ∀ rest : List Expr, starEach (e :: rest) env = (false, eval e env) :: starEach rest env := by intro _; rfl) (hp : (starEach [e] env).any (·.1) = false := by rfl) : Src G n A env ok ρ false (.Call (.Name func fpos) [e] [] pos) (rng 0 1 b) := fun s c S => by
  refine wp_callT c S hf (evs_one h he) (fun s₁ vs a1 S1 r => ?_) ⟨_, _, rfl, he⟩ hp
  obtain ⟨_, _, rfl, ⟨t, rfl⟩, rfl⟩ := r
  have hrs : Builtin.Range.rangeSize 0 b 1 = b := by unfold Builtin.Range.rangeSize; simp only [gt_iff_lt, Int.zero_lt_one, if_true, Int.ediv_one]; split <;> (first | lia | omega)
  refine call_range_1 ?_
  have a2 := a1.2.keeps (h' := s₁.heap.push { cls := .type "range", data := .fields #[.int 0 s₁.toks, .int b t, .int 1 (s₁.toks + 1)] }) (tk := s₁.toks + 1 + 1) fun b o e => Heap.get?_push_of_some _ e
  refine iterR (ok := ok) a2.2 (Heap.get?_push_size _ rfl) (small_of (by decide) (by (first | lia | omega)) (by decide) (by rw [hrs]; (first | lia | omega))) hrs fun s₂ I fp P St a3 hI it st => ?_
  exact ⟨(a1.trans a2).trans a3, I, fp, P, St, rfl, back_none (a1.trans a2) hI, it, st⟩
theorem src_range2 {func : Str} {fpos pos : Pos} {e e2 : Expr} {a b : Int} (hf : Blt G n A env ok ρ func fpos (.type "range")) (h : Ev G n A env ok ρ e (.int a)) (h2 : Ev G n A env ok ρ e2 (.int b)) (hz : a.natAbs < 2 ^ 39) (hz2 : b.natAbs < 2 ^ 39)
    (he : ∀ rest : List Expr, starEach (e :: rest) env = (false, eval e env) :: starEach rest env := by intro _; rfl) (he2 : ∀ rest : List Expr, starEach (e2 :: rest) env = (false, eval e2 env) :: starEach rest env := by intro _; rfl)
    (hp : (starEach [e, e2] env).any (·.1) = false := by rfl) : Src G n A env ok ρ false (.Call (.Name func fpos) [e, e2] [] pos) (rng a 1 (b - a).toNat) := fun s c S => by
  refine wp_callT c S hf (evs_cons h (evs_one h2 he2) he) (fun s₁ vs a1 S1 r => ?_) ⟨_, _, rfl, he⟩ hp
  obtain ⟨_, _, rfl, ⟨t, rfl⟩, _, _, rfl, ⟨u, rfl⟩, rfl⟩ := r
  have hrs : Builtin.Range.rangeSize a b 1 = (b - a).toNat := by unfold Builtin.Range.rangeSize; simp only [gt_iff_lt, Int.zero_lt_one, if_true, Int.ediv_one]; split <;> omega
  refine call_range_2 ?_
  have a2 := a1.2.keeps (h' := s₁.heap.push { cls := .type "range", data := .fields #[.int a t, .int b u, .int 1 s₁.toks] }) (tk := s₁.toks + 1) fun b o e => Heap.get?_push_of_some _ e
  refine iterR (ok := ok) a2.2 (Heap.get?_push_size _ rfl) (small_of (by omega) (by omega) (by decide) (by rw [hrs]; omega)) hrs fun s₂ I fp P St a3 hI it st => ?_
  exact ⟨(a1.trans a2).trans a3, I, fp, P, St, rfl, back_none (a1.trans a2) hI, it, st⟩
/-- downwards to nought -/
theorem src_rangeD {func : Str} {fpos pos : Pos} {e e2 e3 : Expr} {L : Nat} (hf : Blt G n A env ok ρ func fpos (.type "range")) (h : Ev G n A env ok ρ e (.int (L - 1))) (h2 : Ev G n A env ok ρ e2 (.int (-1))) (h3 : Ev G n A env ok ρ e3 (.int (-1))) (hz : L < 2 ^ 39)
    (he : ∀ rest : List Expr, starEach (e :: rest) env = (false, eval e env) :: starEach rest env := by intro _; rfl) (he2 : ∀ rest : List Expr, starEach (e2 :: rest) env = (false, eval e2 env) :: starEach rest env := by intro _; rfl)
    (he3 : ∀ rest : List Expr, starEach (e3 :: rest) env = (false, eval e3 env) :: starEach rest env := by intro _; rfl)
    (hp : (starEach [e, e2, e3] env).any (·.1) = false := by rfl) : Src G n A env ok ρ false (.Call (.Name func fpos) [e, e2, e3] [] pos) (rng (L - 1) (-1) L) := fun s c S => by
  refine wp_callT c S hf (evs_cons h (evs_cons h2 (evs_one h3 he3) he2) he) (fun s₁ vs a1 S1 r => ?_) ⟨_, _, rfl, he⟩ hp
  obtain ⟨_, _, rfl, ⟨t, rfl⟩, _, _, rfl, ⟨u, rfl⟩, _, _, rfl, ⟨u', rfl⟩, rfl⟩ := r
  have hrs : Builtin.Range.rangeSize (L - 1) (-1) (-1) = L := by unfold Builtin.Range.rangeSize; rw [if_neg (by decide)]; simp only [Int.neg_neg, Int.ediv_one]; split <;> (first | lia | omega)
  refine call_range_3 (by decide) ?_
  have a2 := a1.2.keeps (h' := s₁.heap.push { cls := .type "range", data := .fields #[.int (L - 1) t, .int (-1) u, .int (-1) u'] }) (tk := s₁.toks) fun b o e => Heap.get?_push_of_some _ e
  refine iterR (ok := ok) a2.2 (Heap.get?_push_size _ rfl) (small_of (by (first | lia | omega)) (by decide) (by decide) (by rw [hrs]; (first | lia | omega))) hrs fun s₂ I fp P St a3 hI it st => ?_
  exact ⟨(a1.trans a2).trans a3, I, fp, P, St, rfl, back_none (a1.trans a2) hI, it, st⟩
end
end Mine
/-! A12 -/
namespace Mine

/-- a list that the frame holds alone -/
structure Own (G : W0) (ok : Addr → Prop) (s₀ s : Shared) (a : Addr) (ds : List D) : Prop where
  cont : ∃ vs k, s.heap.get? a = some (LO vs k) ∧ RelAll ok s.heap ds vs
  nok : ¬ ok a
  new : s₀.heap.get? a = none
  base : G.base.get? a = none

noncomputable def Flat : D → Prop
  | .list _ => False
  | .tup _ => False
  | _ => True
theorem Rel.flat {ok ok' : Addr → Prop} {h h' : Heap} {d : D} {v : Value} (hf : Flat d) (r : Rel ok h d v) : Rel ok' h' d v := by
  cases d <;> first | exact hf.elim | simpa only [Rel] using r

section
variable {G : W0} {n : Nat} {A : Around} {env : Env} {ok : Addr → Prop} {ρ : List (String × D)} {s₀ sT s s' : Shared} {a : Addr} {ds : List D}

theorem Own.aft {m : Nat} {A' : Around} (O : Own G ok s₀ s a ds) (c : Cx G n A s) (e : Aft G m A' s s') : Own G ok s₀ s' a ds := by
  obtain ⟨vs, k, hg, r⟩ := O.cont
  exact ⟨⟨vs, k, e.1.kept.get (ne_tab c.tab hg (IsSeq.nf ⟨_, _, rfl⟩)) hg (IsSeq.nd ⟨_, _, rfl⟩), r.kept c.tab e.1.kept⟩, O.nok, O.new, O.base⟩
theorem Own.sol (O : Own G ok s₀ s a ds) (k : ∀ b o, Solid o → s.heap.get? b = some o → s'.heap.get? b = some o) : Own G ok s₀ s' a ds := by
  obtain ⟨vs, j, hg, r⟩ := O.cont
  exact ⟨⟨vs, j, k _ _ (IsSeq.solid ⟨_, _, rfl⟩) hg, RelAll.mono (fun b o hb e hs => ⟨hb, k b o hs.solid e⟩) _ _ r⟩, O.nok, O.new, O.base⟩
theorem Own.seq (O : Own G ok s₀ s a ds) (k : ∀ b o, IsSeq o → s.heap.get? b = some o → s'.heap.get? b = some o) : Own G ok s₀ s' a ds := by
  obtain ⟨vs, j, hg, r⟩ := O.cont
  exact ⟨⟨vs, j, k _ _ ⟨_, _, rfl⟩ hg, RelAll.mono (fun b o hb e hs => ⟨hb, k b o hs e⟩) _ _ r⟩, O.nok, O.new, O.base⟩
theorem Own.other {b : Addr} {h' : Heap} {tk : Nat} (O : Own G ok s₀ s a ds) (hb : ¬ ok b) (hab : a ≠ b) (hs : Heap.SameBut b s.heap h') : Own G ok s₀ { s with heap := h', toks := tk } a ds := by
  obtain ⟨vs, j, hg, r⟩ := O.cont
  exact ⟨⟨vs, j, by show h'.get? a = _; rw [hs.2 a hab]; exact hg, RelAll.mono (fun c o hc e _ => ⟨hc, by show h'.get? c = _; rw [hs.2 c fun q => hb (q ▸ hc)]; exact e⟩) _ _ r⟩, O.nok, O.new, O.base⟩
theorem Own.weak {ok' : Addr → Prop} (O : Own G ok s₀ s a ds) (h : ∀ b, ok b → ok' b) (hn : ¬ ok' a) : Own G ok' s₀ s a ds := by
  obtain ⟨vs, j, hg, r⟩ := O.cont
  exact ⟨⟨vs, j, hg, r.weak h⟩, hn, O.new, O.base⟩

/-- the frame's list among the plain values -/
theorem Sat.full {x : String} (S : Sat G ok env ρ s) (O : Own G ok s₀ s a ds) (hx : (x, .val (.ref a)) ∈ ρ) : Sat G (fun b => ok b ∨ b = a) env ((x, .list ds) :: ρ) s := by
  refine ⟨S.eo, fun b q => .inl (S.fresh b q), fun p hp => ?_⟩
  rcases List.mem_cons.mp hp with rfl | hp
  · obtain ⟨v, V, R⟩ := S.vars _ hx
    obtain rfl := R
    refine ⟨_, V, ?_⟩
    obtain ⟨vs, k, hg, r⟩ := O.cont
    simp only [Rel]
    exact ⟨a, vs, k, rfl, .inr rfl, hg, r.weak fun _ => .inl⟩
  · obtain ⟨v, V, R⟩ := S.vars _ hp
    exact ⟨v, V, R.weak fun _ => .inl⟩

theorem own_ne (c : Cx G n A s) (O : Own G ok s₀ s a ds) : a ≠ 99 := by
  obtain ⟨vs, k, hg, r⟩ := O.cont
  exact ne_tab c.tab hg (IsSeq.nf ⟨_, _, rfl⟩)
/-- that list turned -/
theorem own_set {h' : Heap} {tk k' : Nat} {vs' : List Value} {ds' : List D} (F : Fst G n A env ok ρ s₀ sT s) (O : Own G ok s₀ s a ds) (hs : Heap.SameBut a s.heap h') (hg : h'.get? a = some (LO vs' k')) (hr : RelAll ok s.heap ds' vs') :
    Fst G n A env ok ρ s₀ sT { s with heap := h', toks := tk } ∧ Own G ok s₀ { s with heap := h', toks := tk } a ds' := by
  obtain ⟨vs, k, hg0, _⟩ := O.cont
  have h9 := own_ne F.cx O
  have oth : ∀ b o, b ≠ a → s.heap.get? b = some o → h'.get? b = some o := fun b o hb e => by rw [hs.2 b hb]; exact e
  have key : ∀ b o, ok b → s.heap.get? b = some o → h'.get? b = some o := fun b o hb e => oth b o (fun q => O.nok (q ▸ hb)) e
  have m : Mod (· = a) s { s with heap := h', toks := tk } := Mod.same hs rfl rfl
  have nsk : ∀ {y : Addr} {m : Str → Option Value}, s.heap.Ns y m → h'.Ns y m := fun {y m} q => by
    refine q.at' fun o e => oth y o (fun h => ?_) e
    subst h
    obtain ⟨o', es, ep, e', hd, _⟩ := q
    rw [hg0] at e'; cases e'; cases hd
  have cek : ∀ {y : Addr} {u : Option Value}, s.heap.IsCell y u → h'.IsCell y u := fun {y u} q => by
    obtain ⟨o', e', hd⟩ := q
    exact ⟨o', oth y o' (fun h => by subst h; rw [hg0] at e'; cases e'; cases hd) e', hd⟩
  refine ⟨⟨F.cx.same (s' := { s with heap := h', toks := tk }) hs O.base h9 (fun o es ep e hd => by rw [hg0] at e; cases e; cases hd) (fun o vs e hd => by rw [hg0] at e; cases e; cases hd) rfl, ?_, F.ext.step m fun b q => by subst q; exact O.new, F.own, F.stb.trans (m.weak fun b q => .inl (q ▸ O.nok))⟩, ⟨_, _, hg, RelAll.mono (fun b o hb e _ => ⟨hb, key b o hb e⟩) _ _ hr⟩, O.nok, O.new, O.base⟩
  refine ⟨⟨F.sat.eo.kind, F.sat.eo.glob, F.sat.eo.blt, let ⟨m, q⟩ := F.sat.eo.ns; ⟨m, nsk q⟩, F.sat.eo.nsNew, fun x cc q => let ⟨⟨v, a⟩, b⟩ := F.sat.eo.cells x cc q; ⟨⟨v, cek a⟩, b⟩, F.sat.eo.apart⟩, fun b q => F.sat.fresh b ?_, fun p hp => ?_⟩
  · by_cases hb : b = a
    · subst hb; rw [show h'.get? b = none from q] at hg; cases hg
    · rw [← hs.2 b hb]; exact q
  · obtain ⟨v, V, R⟩ := F.sat.vars p hp
    refine ⟨v, ?_, Rel.mono (fun b o hb e _ => ⟨hb, key b o hb e⟩) _ _ R⟩
    rcases V with ⟨k1, m, q1, q2⟩ | ⟨k1, cc, l1, q1⟩
    · exact .inl ⟨k1, m, nsk q1, q2⟩
    · exact .inr ⟨k1, cc, l1, cek q1⟩


/-- a list's item set -/
theorem wp_setItem {k : Nat} {vs : List Value} {i : Int} {t : Tok} {v : Value} {Q : Unit → Shared → Prop} {E : Value → Shared → Prop} (hg : s.heap.get? a = some (LO vs k)) (h0 : 0 ≤ i) (hi : i < vs.length) (hl : vs.length < 2 ^ 60)
    (h : ∀ h' k', h'.get? a = some (LO (vs.set i.toNat v) k') → Heap.SameBut a s.heap h' → Q () { s with heap := h' }) : wpAny G.M A (setItem (.ref a) (.int i t) v) Q E s := by
  have hl' : s.heap.IsList a vs.toArray := LO.isList hg
  unfold setItem
  try with_reducible refine wpAny_holding ?_
  first | refine wpAny_bind (wpAny_pure ?_) | skip
  refine wpAny_bind (wpAny_sequenceKey hl'.typeIs (by decide) ?_)
  refine wpAny_bind (wpAny_callSpecial?_slot (name := Str.ofString "__setitem__") hl'.typeIs slot_list_setitem
    (wpAny_call_entry slot_list_setitem hl'.typeIs entry_list_setitem ?_ (args_list_setitem _ _ _)))
  show wpAny _ _ (Builtin.List.listSubscript? (.int i t) >>= _) _ _ s
  refine wpAny_bind (wpAny_listSubscript_int (fitsIndex_of h0 (by (first | lia | omega))) ?_)
  obtain ⟨j, rfl⟩ := Int.eq_ofNat_of_zero_le h0
  have hj : j < vs.toArray.size := by simp; (first | lia | omega)
  have hx' : vs.toArray[j]? = some vs.toArray[j] := Array.getElem?_eq_getElem hj
  show wpAny _ _ ((seqItemAt a j >>= fun r => pure (r.map (j, ·))) >>= _) _ _ s
  refine wpAny_bind (wpAny_bind (wpAny_seqItemAt hg rfl (wpAny_pure ?_)))
  rw [hx']
  show wpAny _ _ (setSeqItemAt a j v >>= _) _ _ s
  have hfin : (s.heap.update a (Obj.mapSeq (·.setIfInBounds j v))).get? a = some (LO (vs.set j v) k) := by
    rw [Heap.get?_update_self _ hg (by simp [Obj.mapSeq]; rfl)]
    simp [Obj.mapSeq]
  refine wpAny_bind (wpAny_setSeqItemAt hg rfl ?_)
  first
    | exact wpAny_bind (wpAny_pure (wpAny_pure ⟨.none, rfl, wpAny_pure (h _ k hfin (Heap.SameBut.update ..))⟩))
    | exact wpAny_pure ⟨.none, rfl, wpAny_pure (h _ k hfin (Heap.SameBut.update ..))⟩

theorem mapSeq_insert {k i : Nat} {vs : List Value} {v : Value} {x : Int} (hx : x = i) (hi : i ≤ vs.length) : Obj.mapSeq (fun xs => have k := if x < 0 then (x + (xs.size : Int)).toNat else min x.toNat xs.size; (xs.extract 0 k).push v ++ xs.extract k) (LO vs k) = LO (vs.take i ++ v :: vs.drop i) (k + 1) := by
  have hneg : ¬ ((i : Int) < 0) := by (first | lia | omega)
  have e1 : (vs.toArray.extract 0 i).push v ++ vs.toArray.extract i vs.length = (vs.take i ++ v :: vs.drop i).toArray := by
    apply Array.toList_inj.mp
    simp [List.take_of_length_le]
  subst hx
  simp only [Obj.mapSeq, if_neg hneg, Int.toNat_natCast, List.size_toArray, Nat.min_eq_left hi]
  rw [e1]
  congr 1
  simp only [List.size_toArray]
  rw [if_neg]
  simp only [beq_iff_eq, List.length_append, List.length_take, List.length_cons, List.length_drop]
  (first | lia | omega)
/-- a list's insert -/
theorem wp_insert {k i : Nat} {vs : List Value} {x : Int} {t : Tok} {v : Value} {Q : Value → Shared → Prop} {E : Value → Shared → Prop} (hg : s.heap.get? a = some (LO vs k)) (hx : x = i) (hi : i ≤ vs.length) (hl : vs.length ≤ sizeLine) (hf : Builtin.List.listFitsIndex x = true)
    (h : ∀ h' k' tk, h'.get? a = some (LO (vs.take i ++ v :: vs.drop i) k') → Heap.SameBut a s.heap h' → Q .none { s with heap := h', toks := tk }) : wpAny G.M A (call (.builtin "list.insert") [.ref a, .int x t, v]) Q E s := by
  refine call_meets PySem.F.slot_list_insert ⟨_, hg, rfl⟩ PySem.F.entry_list_insert (PySem.F.args_list_insert_3 _ _ _) (PySem.AutoSeq1.list_insert_list_int_val_1 a _ k x t v (by simp [hf]) (by rw [List.size_toArray]; exact hl)) ⟨hg, ?_⟩
  have e := mapSeq_insert (k := k) (v := v) hx hi
  refine h _ (k + 1) _ ?_ (Heap.SameBut.update ..)
  rw [Heap.get?_update_self _ hg (by rw [e]; rfl), e]
end
end Mine
/-! A13 -/
namespace Mine

noncomputable abbrev Mine.Local (env : Env) (ok : Addr → Prop) : Addr → Prop := fun b => ¬ ok b ∨ ∃ x, At env x b

/-- a turn of an iterator, seen from a frame that does not look into it -/
structure Tick (G : W0) (n : Nat) (A : Around) (env : Env) (ok : Addr → Prop) (s₀ s s' : Shared) (X : Addr → Prop) (gi : Nat) : Prop where
  cx : Cx G n A s'
  kept : ∀ b o, b ≠ 99 → ¬ X b → s.heap.get? b = some o → ∃ sl, s'.heap.get? b = some { o with slots := sl } ∧ (NotDict o → sl = o.slots)
  os : s'.os = s.os
  gens : ∀ (i : Nat) (g : GenState), i ≠ gi → s.gens[i]? = some g → s'.gens[i]? = some g
  new : ∀ b, X b → s₀.heap.get? b = none
  oks : ∀ b, X b → ok b
  nl : ¬ X env.locals
  nc : ∀ x c, env.cells.lookup x = some c → ¬ X c
  nseq : ∀ b o, X b → s.heap.get? b = some o → ¬ IsSeq o
  gnew : s₀.gens[gi]? = none

section
variable {G : W0} {n : Nat} {A : Around} {env : Env} {ok : Addr → Prop} {ρ : List (String × D)} {s₀ sT s s' : Shared} {a : Addr} {ds : List D}

theorem Fst.sub {ρ' : List (String × D)} (F : Fst G n A env ok ρ s₀ sT s) (h : ∀ p ∈ ρ', p ∈ ρ) : Fst G n A env ok ρ' s₀ sT s := ⟨F.cx, F.sat.sub h, F.ext, F.own, F.stb⟩
theorem Fst.reset (F : Fst G n A env ok ρ s₀ sT s) : Fst G n A env ok ρ s₀ s s := ⟨F.cx, F.sat, F.ext, F.own, .refl _⟩

theorem Tick.get {X : Addr → Prop} {gi : Nat} (t : Tick G n A env ok s₀ s s' X gi) {b : Addr} {o : Obj} (hb : b ≠ 99) (hx : ¬ X b) (hn : NotDict o) (e : s.heap.get? b = some o) : s'.heap.get? b = some o := by
  obtain ⟨sl, e1, f1⟩ := t.kept b o hb hx e
  rw [e1, f1 hn]
theorem Tick.seq {X : Addr → Prop} {gi : Nat} (t : Tick G n A env ok s₀ s s' X gi) (c : Cx G n A s) {b : Addr} {o : Obj} (hs : IsSeq o) (e : s.heap.get? b = some o) : s'.heap.get? b = some o :=
  t.get (ne_tab c.tab e hs.nf) (fun h => t.nseq b o h e hs) hs.nd e
theorem Tick.ns {X : Addr → Prop} {gi : Nat} (t : Tick G n A env ok s₀ s s' X gi) (c : Cx G n A s) {y : Addr} {m : Str → Option Value} (hx : ¬ X y) (q : s.heap.Ns y m) : s'.heap.Ns y m := by
  have h9 := ns_ne c.tab q
  obtain ⟨o, es, ep, e, hd, r⟩ := q
  obtain ⟨sl, e1, _⟩ := t.kept y o h9 hx e
  exact ⟨_, es, ep, e1, hd, r⟩
theorem Tick.cell {X : Addr → Prop} {gi : Nat} (t : Tick G n A env ok s₀ s s' X gi) (c : Cx G n A s) {y : Addr} {v : Option Value} (hx : ¬ X y) (q : s.heap.IsCell y v) : s'.heap.IsCell y v := by
  have h9 := cell_ne c.tab q
  obtain ⟨o, e, hd⟩ := q
  exact ⟨o, t.get h9 hx (fun es ep z => by rw [hd] at z; cases z) e, hd⟩
theorem Tick.ext {X : Addr → Prop} {gi : Nat} (t : Tick G n A env ok s₀ s s' X gi) (e : Ext s₀ s) : Ext s₀ s' := by
  refine ⟨fun b o hb h => ?_, t.os.trans e.os, fun i g q => t.gens i g (fun h => by subst h; rw [t.gnew] at q; cases q) (e.gens i g q)⟩
  have hx : ¬ X b := fun q => by rw [t.new b q] at h; cases h
  obtain ⟨sl, e1, f1⟩ := e.kept b o hb h
  obtain ⟨sl', e2, f2⟩ := t.kept b _ hb hx e1
  exact ⟨sl', e2, fun hn => (f2 hn).trans (f1 hn)⟩
theorem Tick.sat {X : Addr → Prop} {gi : Nat} (t : Tick G n A env ok s₀ s s' X gi) (c : Cx G n A s) (S : Sat G ok env ρ s) : Sat G ok env ρ s' := by
  refine ⟨⟨S.eo.kind, S.eo.glob, S.eo.blt, let ⟨m, q⟩ := S.eo.ns; ⟨m, t.ns c t.nl q⟩, S.eo.nsNew, fun x cc q => let ⟨⟨v, a⟩, b⟩ := S.eo.cells x cc q; ⟨⟨v, t.cell c (t.nc x cc q) a⟩, b⟩, S.eo.apart⟩, fun b q => ?_, fun p hp => ?_⟩
  · by_cases hx : X b
    · exact t.oks b hx
    · refine S.fresh b ?_
      cases z : s.heap.get? b with
      | none => rfl
      | some o =>
        obtain ⟨sl, e1, _⟩ := t.kept b o (t.cx.not99 q) hx z
        rw [e1] at q; cases q
  · obtain ⟨v, V, R⟩ := S.vars p hp
    refine ⟨v, ?_, Rel.mono (fun b o hb e hs => ⟨hb, t.seq c hs e⟩) _ _ R⟩
    rcases V with ⟨k1, m, q1, q2⟩ | ⟨k1, cc, l1, q1⟩
    · exact .inl ⟨k1, m, t.ns c t.nl q1, q2⟩
    · exact .inr ⟨k1, cc, l1, t.cell c (t.nc _ cc l1) q1⟩
theorem Fst.tick {X : Addr → Prop} {gi : Nat} (F : Fst G n A env ok ρ s₀ sT s) (t : Tick G n A env ok s₀ s s' X gi) : Fst G n A env ok ρ s₀ s' s' :=
  ⟨t.cx, t.sat F.cx F.sat, t.ext F.ext, F.own, .refl _⟩
theorem Own.tick {X : Addr → Prop} {gi : Nat} (O : Own G ok s₀ s a ds) (c : Cx G n A s) (t : Tick G n A env ok s₀ s s' X gi) : Own G ok s₀ s' a ds := O.seq fun b o hs e => t.seq c hs e

/-- what a for-loop draws on -/
structure Feed (G : W0) (n : Nat) (A : Around) (env : Env) (ok : Addr → Prop) (s₀ : Shared) (t : Expr) (it : Value) (val : Nat → D → Prop) (fin : Nat → Prop) (Nx : Nat → Shared → Prop) : Prop where
  step : ∀ i s, Cx G n A s → (∀ b, s.heap.get? b = none → ok b) → Nx i s → wpAny G.M A (pyNext it) (fun r s₂ => match r with
    | none => fin i ∧ ∃ X gi, Tick G n A env ok s₀ s s₂ X gi
    | some v => wpAny G.M A (letOwnedTupleGo t it v) (fun _ s₃ => (∃ X gi, Tick G n A env ok s₀ s s₃ X gi) ∧ ∃ d, val i d ∧ Rel ok s₃.heap d v ∧ Nx (i + 1) s₃) (fun _ _ => False) s₂) (fun _ _ => False) s
  frame : ∀ i s s', Cx G n A s → Nx i s → Cx G n A s' → Mod (Mine.Local env ok) s s' → Nx i s'
  self : ∀ i s (Q : Value → Shared → Prop) (E : Value → Shared → Prop), Nx i s → Q it s → wpAny G.M A (pyIter it) Q E s

/-- the for-loop -/
theorem st_for {t iter : Expr} {body orelse rest : List Stmt} {pos : Pos} {Q : Flow → Shared → Prop} {E : Value → Shared → Prop} {val : Nat → D → Prop} {fin : Nat → Prop} (J : Nat → Shared → Shared → Prop) (N : Nat)
    (hsrc : wpAny G.M A (eval iter env) (fun x s₁ => wpAny G.M A (pyIter x) (fun it s₂ => ∃ Nx, Feed G n A env ok s₀ t it val fin Nx ∧ Nx 0 s₂ ∧ J 0 s₂ s₂) (fun _ _ => False) s₁) (fun _ _ => False) s)
    (hcx : ∀ i sT s, J i sT s → Cx G n A s ∧ Mod (Mine.Local env ok) sT s ∧ ∀ b, s.heap.get? b = none → ok b)
    (htick : ∀ i sT s s' X gi, J i sT s → Tick G n A env ok s₀ s s' X gi → J i s' s')
    (hN : ∀ i sT s, J i sT s → i ≤ N)
    (turn : ∀ i d s₁ v, val i d → J i s₁ s₁ → Rel ok s₁.heap d v → wpAny G.M A (assign t env v) (fun _ s₂ => wpAny G.M A (execs body env) (fun f s₃ => match f with
      | .next | .cont => J (i + 1) s₁ s₃
      | .brk => wpAny G.M A (execs rest env) Q E s₃
      | .ret v => Q (.ret v) s₃) (fun _ _ => False) s₂) (fun _ _ => False) s₁)
    (hend : ∀ i s', fin i → J i s' s' → wpAny G.M A (execs orelse env) (Nxt G A env rest Q E) (fun _ _ => False) s')
    (hs : ∀ x, foldedSetIterable iter env x = pure x := by intro _; rfl) :
    wpAny G.M A (execs (.For t iter body orelse pos :: rest) env) Q E s := by
  refine st_of (wpAny_For (Ev.to hsrc fun x s₁ h₁ => Ev.to h₁ fun it s₂ h00 => ?_) hs)
  obtain ⟨Nx, fd, hNx, hJ⟩ := h00
  refine codeAny_forLoop_any (fun k s' => ∃ i sT, k = N + 1 - i ∧ i ≤ N ∧ Nx i s' ∧ J i sT s') ?_ (N + 1) ⟨0, s₂, rfl, Nat.zero_le _, hNx, hJ⟩
  rintro k s' ⟨i, sT, rfl, hi, hNx, hJ⟩
  refine Ev.to (fd.step i s' (hcx _ _ _ hJ).1 (hcx _ _ _ hJ).2.2 hNx) fun r s₁ h₁ => ?_
  cases r with
  | none =>
    obtain ⟨hf, X, gi, tk⟩ := h₁
    exact wpAny_mono (hend i s₁ hf (htick _ _ _ _ _ _ hJ tk)) (fun f s₃ h₃ => h₃) fun e s₃ h₃ => h₃.elim
  | some v =>
    refine Ev.to h₁ fun _ s₃ h00 => ?_
    obtain ⟨⟨X, gi, tk⟩, d, hd, rd, hNx'⟩ := h00
    have hJ' := htick _ _ _ _ _ _ hJ tk
    refine Ev.to (turn i d s₃ v hd hJ' rd) fun _ s₄ h₄ => Ev.to h₄ fun f s₅ h₅ => ?_
    have go : J (i + 1) s₃ s₅ → ∃ m, m < N + 1 - i ∧ ∃ i sT, m = N + 1 - i ∧ i ≤ N ∧ Nx i s₅ ∧ J i sT s₅ := fun hJ5 =>
      ⟨N + 1 - (i + 1), by have := hN _ _ _ hJ5; omega, i + 1, s₃, rfl, hN _ _ _ hJ5, fd.frame _ _ _ (hcx _ _ _ hJ').1 hNx' (hcx _ _ _ hJ5).1 (hcx _ _ _ hJ5).2.1, hJ5⟩
    cases f with
    | next => exact go h₅
    | cont => exact go h₅
    | brk => exact h₅
    | ret v => exact h₅
theorem no_orelse {rest : List Stmt} {Q : Flow → Shared → Prop} {E E' : Value → Shared → Prop} (h : wpAny G.M A (execs rest env) Q E s) : wpAny G.M A (execs [] env) (Nxt G A env rest Q E) E' s := wpAny_execs_nil h

/-- the while-loop -/
theorem st_while {test : Expr} {body rest : List Stmt} {pos : Pos} {Q : Flow → Shared → Prop} {E : Value → Shared → Prop} (Inv : Nat → Shared → Prop) (k : Nat) (h0 : Inv k s)
    (turn : ∀ k s', Inv k s' → wpAny G.M A (isTrue test env (eval test env)) (fun b s₂ => if b then wpAny G.M A (execs body env) (fun f s₃ => match f with
      | .next | .cont => ∃ m, m < k ∧ Inv m s₃
      | .brk => wpAny G.M A (execs rest env) Q E s₃
      | .ret v => Q (.ret v) s₃) (fun _ _ => False) s₂ else wpAny G.M A (execs rest env) Q E s₂) (fun _ _ => False) s') :
    wpAny G.M A (execs (.While test body [] pos :: rest) env) Q E s := by
  refine st_of (wpAny_While (codeAny_whileLoop Inv ?_ k h0))
  intro k s' hI
  refine Ev.to (turn k s' hI) fun b s₂ h₂ => ?_
  cases b with
  | true =>
    simp only [if_true] at h₂ ⊢
    refine Ev.to h₂ fun f s₃ h₃ => ?_
    cases f <;> exact h₃
  | false =>
    simp only [Bool.false_eq_true, if_false] at h₂ ⊢
    exact wpAny_execs_nil h₂

/-- a walk, as a for-loop's source -/
theorem feed_of {isL : Bool} {I : Addr} {fp : List Addr} {P : Nat → Value → Prop} {St : Nat → Heap → Prop} {t : Expr} (c : Cx G n A s) (S : Sat G ok env ρ s) (h9 : I ≠ 99) (h0 : s₀.heap.get? I = none) (c0 : G.base.get? I = none) (ho : ok I) (hnl : I ≠ env.locals) (hnc : ∀ x c, env.cells.lookup x = some c → I ≠ c)
    (it : ItAt G A ok isL I ds fp P St s.heap) (gi : Nat) (hg : s₀.gens[gi]? = none)
    (hlet : (∀ it v, letOwnedTupleGo t it v = pure ()) ∨ (isL = true ∧ (∃ es k p, t = .Tuple es k p) ∧ ∀ d ∈ ds, ∃ l, d = .tup l)) (hst : St 0 s.heap) :
    ∃ Nx, Feed G n A env ok s₀ t (.ref I) (fun i d => ds[i]? = some d) (fun i => i = ds.length) Nx ∧ Nx 0 s := by
  have tick : ∀ {i : Nat} {s' : Shared} {h' : Heap} {tk : Nat}, Cx G n A s' → St i s'.heap → (∀ b o, b ∉ [I] → s'.heap.get? b = some o → h'.get? b = some o) → Tick G n A env ok s₀ s' { s' with heap := h', toks := tk } (· = I) gi := fun {i s' h' tk} cx st hk => by
    obtain ⟨oI, eI, hsI⟩ := it.shape _ _ st
    have hk' : ∀ b o, b ≠ I → s'.heap.get? b = some o → h'.get? b = some o := fun b o hb q => hk b o (by simpa using hb) q
    exact ⟨cx.but hk' c0 h9 (fun o q => by rw [eI] at q; cases q; exact hsI), fun b o _ hb q => ⟨o.slots, hk' b o hb q, fun _ => rfl⟩, rfl, fun _ _ _ q => q, fun b q => q ▸ h0, fun b q => q ▸ ho, fun q => hnl q.symm, fun x cc q h => hnc x cc q h.symm, fun b o q e hs => by subst q; rw [eI] at e; cases e; exact hsI.2.2.1 hs, hg⟩
  refine ⟨fun i s' => i ≤ ds.length ∧ St i s'.heap ∧ ∀ b o, ok b → IsSeq o → s.heap.get? b = some o → s'.heap.get? b = some o, ⟨fun i s' cx hfr ⟨hi, st, kp⟩ => ?_, fun i s' s'' cx ⟨hi, st, kp⟩ cx' m => ?_, fun i s' Q E ⟨_, st, _⟩ hQ => it.W.self i s' Q E st hQ⟩, Nat.zero_le _, hst, fun _ _ _ _ e => e⟩
  · by_cases hlt : i < ds.length
    · refine it.W.item i _ _ _ hlt st fun v h' tk hP st' hk => ?_
      have t1 := tick (tk := tk) cx st hk
      have hlets : wpAny G.M A (letOwnedTupleGo t (.ref I) v) (fun _ s'' => s'' = { s' with heap := h', toks := tk }) (fun _ _ => False) { s' with heap := h', toks := tk } := by
        rcases hlet with h | ⟨hL, ⟨es, k₀, p₀, rfl⟩, hall⟩
        · rw [h]; exact wpAny_pure rfl
        · obtain ⟨d, hd, r⟩ := it.val i v hP
          obtain ⟨l, rfl⟩ := hall d (List.mem_of_getElem? hd)
          obtain ⟨T, _, _, rfl, _⟩ := r
          obtain ⟨l', j', hit'⟩ := it.lst hL _ _ st'
          exact wpAny_letOwnedTupleGo_listiter hit' rfl
      refine Ev.to hlets fun _ s₃ q => ?_
      subst q
      obtain ⟨d, hd, r⟩ := it.val i v hP
      exact ⟨⟨_, _, t1⟩, d, hd, Rel.mono (fun b o hb e hs => ⟨hb, t1.seq cx hs (kp b o hb hs e)⟩) _ _ r, hlt, st', fun b o hb hs e => t1.seq cx hs (kp b o hb hs e)⟩
    · have hin : i = ds.length := by (first | lia | omega)
      subst hin
      exact it.W.done _ _ _ st fun h' tk hk => ⟨rfl, _, _, tick cx st hk⟩
  · have seqAt : ∀ b o, ok b → IsSeq o → s.heap.get? b = some o → ¬ Mine.Local env ok b := fun b o hb hs e h => by
      rcases h with h | ⟨x, ⟨_, rfl⟩ | ⟨_, q⟩⟩
      · exact h hb
      · obtain ⟨m', o', es, ep, e', hd, _⟩ := S.eo.ns
        rw [e] at e'; cases e'; obtain ⟨_, _, z⟩ := hs; rw [hd] at z; cases z
      · obtain ⟨⟨v, o', e', hd⟩, _⟩ := S.eo.cells _ _ q
        rw [e] at e'; cases e'; obtain ⟨_, _, z⟩ := hs; rw [hd] at z; cases z
    have kp' : ∀ b o, ok b → IsSeq o → s.heap.get? b = some o → s''.heap.get? b = some o := fun b o hb hs e =>
      m.get (ne_tab cx.tab (kp b o hb hs e) hs.nf) (seqAt b o hb hs e) hs.nd (kp b o hb hs e)
    refine ⟨hi, it.W.frame _ _ _ st fun b hb o e => ?_, kp'⟩
    by_cases hbI : b = I
    · subst hbI
      obtain ⟨oI, eI, hsI⟩ := it.shape _ _ st
      rw [eI] at e; cases e
      refine m.get h9 (fun h => ?_) hsI.1 eI
      rcases h with h | ⟨x, ⟨_, q⟩ | ⟨_, q⟩⟩
      · exact h ho
      · exact hnl q
      · exact hnc _ _ q rfl
    · obtain ⟨hob, o', e', hs⟩ := it.fpo b hb hbI
      have e2 := kp b o' hob hs e'
      rw [e] at e2; cases e2
      exact kp' b _ hob hs e'

/-- a for-loop over a list or a range -/
theorem wp_src {isL : Bool} {iter t : Expr} {ρ' : List (String × D)} {J : Shared → Prop} (F : Fst G n A env ok ρ s₀ sT s) (S : Sat G ok env ρ' s) (c₀ : ∃ m A', Cx G m A' s₀) (hsrc : Src G n A env ok ρ' isL iter ds)
    (hlet : (∀ it v, letOwnedTupleGo t it v = pure ()) ∨ (isL = true ∧ (∃ es k p, t = .Tuple es k p) ∧ ∀ d ∈ ds, ∃ l, d = .tup l)) (hJ : ∀ s', Aft G n A s s' → J s') :
    wpAny G.M A (eval iter env) (fun x s₁ => wpAny G.M A (pyIter x) (fun it s₂ => ∃ Nx, Feed G n A env ok s₀ t it (fun i d => ds[i]? = some d) (fun i => i = ds.length) Nx ∧ Nx 0 s₂ ∧ J s₂) (fun _ _ => False) s₁) (fun _ _ => False) s := by
  refine Ev.to (hsrc s F.cx S) fun x s₁ h₁ => Ev.to h₁ fun it s₂ h₂ => ?_
  obtain ⟨a, I, fp, P, St, rfl, hI, ita, st⟩ := h₂
  obtain ⟨m, A', c0⟩ := c₀
  have hI9 := F.cx.not99 hI
  have hn0 : s₀.heap.get? I = none := F.ext.kept.none hI9 hI
  have hb : G.base.get? I = none := by
    cases q : G.base.get? I with
    | none => rfl
    | some o => rw [F.cx.stays I o q] at hI; cases hI
  obtain ⟨Nx, fd, h0⟩ := feed_of (t := t) (s₀ := s₀) a.2 (S.aft F.cx a) hI9 hn0 hb (S.fresh I hI) (fun q => by
      subst q; obtain ⟨m', o', es, ep, e', _⟩ := S.eo.ns; rw [hI] at e'; cases e') (fun x cc q h => by
      subst h; obtain ⟨⟨v, o', e', _⟩, _⟩ := S.eo.cells _ _ q; rw [hI] at e'; cases e') ita s₀.gens.size (by simp) hlet st
  exact ⟨Nx, fd, h0, hJ s₂ a⟩
end
end Mine
/-! A14 -/
namespace Mine
section
variable {G : W0} {n : Nat} {A : Around} {env : Env} {ok : Addr → Prop} {ρ : List (String × D)}

theorem ev_ifexp {test body orelse : Expr} {pos : Pos} {b : Bool} {d : D} (ht : Tst G n A env ok ρ test b) (h1 : b = true → Ev G n A env ok ρ body d) (h2 : b = false → Ev G n A env ok ρ orelse d) : Ev G n A env ok ρ (.IfExp test body orelse pos) d := fun s c S => by
  refine IfExp_ (Ev.to (ht s c S) fun v s₁ h00 => ?_)
  obtain ⟨a, e⟩ := h00
  subst e
  cases v with
  | true => simp only [if_true]; exact Ev.to (h1 rfl s₁ a.2 (S.aft c a)) fun v s' ⟨a', r⟩ => ⟨a.trans a', r⟩
  | false => simp only [Bool.false_eq_true, if_false]; exact Ev.to (h2 rfl s₁ a.2 (S.aft c a)) fun v s' ⟨a', r⟩ => ⟨a.trans a', r⟩
theorem tst_not {e : Expr} {pos : Pos} {b : Bool} (h : Tst G n A env ok ρ e b) : Tst G n A env ok ρ (.UnaryOp .Not e pos) (!b) := fun s c S =>
  isTrue_not (Ev.to (h s c S) fun v s' ⟨a, e⟩ => ⟨a, by rw [e]⟩)
theorem tst_int {e : Expr} {i : Int} (h : Ev G n A env ok ρ e (.int i)) (he : ∀ whole, isTrue e env whole = (do let v ← whole; standAt e.pos; holding [v] (truthy v)) := by intro _; rfl) : Tst G n A env ok ρ e (i != 0) := fun s c S => by
  refine isTrue_plain (Ev.to (h s c S) fun v s₁ h00 => ?_) (he _)
  obtain ⟨a, r⟩ := h00
  obtain ⟨t, rfl⟩ := r
  exact P.truthy_int ⟨a, rfl⟩
theorem tst_and {x y : Expr} {pos : Pos} {b c' : Bool} (h1 : Tst G n A env ok ρ x b) (h2 : b = true → Tst G n A env ok ρ y c') : Tst G n A env ok ρ (.BoolOp .And [x, y] pos) (b && c') := fun s c S => by
  refine isTrue_and (Ev.to (h1 s c S) fun v s₁ h00 => ?_)
  obtain ⟨a, e⟩ := h00
  subst e
  cases v with
  | false => exact ⟨a, rfl⟩
  | true =>
    simp only [if_true]
    refine isTrue_and (Ev.to (h2 rfl s₁ a.2 (S.aft c a)) fun v s₂ h00 => ?_)
    obtain ⟨a', e⟩ := h00
    subst e
    cases v with
    | false => exact ⟨a.trans a', rfl⟩
    | true => exact isTrue_and_nil ⟨a.trans a', rfl⟩
theorem tst_or {x y : Expr} {pos : Pos} {b c' : Bool} (h1 : Tst G n A env ok ρ x b) (h2 : b = false → Tst G n A env ok ρ y c') : Tst G n A env ok ρ (.BoolOp .Or [x, y] pos) (b || c') := fun s c S => by
  refine isTrue_or (Ev.to (h1 s c S) fun v s₁ h00 => ?_)
  obtain ⟨a, e⟩ := h00
  subst e
  cases v with
  | true => exact ⟨a, rfl⟩
  | false =>
    simp only [Bool.false_eq_true, if_false]
    refine isTrue_or (Ev.to (h2 rfl s₁ a.2 (S.aft c a)) fun v s₂ h00 => ?_)
    obtain ⟨a', e⟩ := h00
    subst e
    cases v with
    | true => exact ⟨a.trans a', rfl⟩
    | false => exact isTrue_or_nil ⟨a.trans a', rfl⟩
/-- all of a row of conditions -/
theorem ev_conj {e₁ e₂ : Expr} {rest : List Expr} {pos : Pos} (h1 : Ev G n A env ok ρ e₁ (.bool true)) (h2 : Ev G n A env ok ρ (.BoolOp .And (e₂ :: rest) pos) (.bool true)) : Ev G n A env ok ρ (.BoolOp .And (e₁ :: e₂ :: rest) pos) (.bool true) := fun s c S => by
  refine BoolOp_and (Ev.to (h1 s c S) fun v s₁ h00 => ?_)
  obtain ⟨a, r⟩ := h00
  obtain rfl := r
  refine wpAny_truthy_bool ?_
  simp only [if_true]
  refine Ev.to (h2 s₁ a.2 (S.aft c a)) fun v s' h00 => ?_
  obtain ⟨a', r⟩ := h00
  exact ⟨a.trans a', r⟩
theorem ev_conj1 {e : Expr} {pos : Pos} {d : D} (h : Ev G n A env ok ρ e d) : Ev G n A env ok ρ (.BoolOp .And [e] pos) d := fun s c S => BoolOp_one (h s c S)

/-- a comparison of plain things, as Ev -/
theorem ev_cmpC {l r : Expr} {op : CmpOp} {pos : Pos} {d1 d2 : D} {b : Bool} (hl : Ev G n A env ok ρ l d1) (hr : Ev G n A env ok ρ r d2) (hc : Cmp G n A ok op d1 d2 b) (hm : behindInMarks op r = false := by rfl) : Ev G n A env ok ρ (.Compare l [op] [r] pos) (.bool b) :=
  ev_cmp hl hr hc hm

/-! equality, deep -/
noncomputable def Pure : Nat → D → Prop
  | _, .val _ => False
  | 0, .list _ => False
  | 0, .tup _ => False
  | k + 1, .list l => ∀ d ∈ l, Pure k d
  | k + 1, .tup l => ∀ d ∈ l, Pure k d
  | _, _ => True
theorem RelAll.at {h : Heap} {ds : List D} {vs : List Value} (r : RelAll ok h ds vs) {j : Nat} (hj : j < vs.length) : ∃ d, ds[j]? = some d ∧ Rel ok h d vs[j] := by
  have hl := r.length
  have hd : ds[j]? = some (ds[j]'(by (first | lia | omega))) := List.getElem?_eq_getElem (by (first | lia | omega))
  obtain ⟨v, e, q⟩ := r.get hd
  rw [List.getElem?_eq_getElem hj] at e
  cases e
  exact ⟨_, hd, q⟩

theorem eq_same : ∀ (k : Nat) (d : D) (A : Around) (s : Shared) (v u : Value), Pure k d → A.units + k < cLine → Rel ok s.heap d v → Rel ok s.heap d u → SeqAt.EqAt A s v u true := by
  intro k
  induction k with
  | zero =>
    intro d A s v u p hu r1 r2
    cases d with
    | none => simp only [Rel] at r1 r2; subst r1 r2; exact SeqAt.EqAt.same _
    | bool b => simp only [Rel] at r1 r2; subst r1 r2; exact SeqAt.EqAt.same _
    | int i =>
      obtain ⟨t, rfl⟩ := r1
      obtain ⟨t', rfl⟩ := r2
      have := SeqAt.EqAt.int_int (A := A) (s := s) i t i t'
      rwa [beq_self_eq_true] at this
    | str i =>
      obtain ⟨t, rfl⟩ := r1
      obtain ⟨t', rfl⟩ := r2
      have := SeqAt.EqAt.str_str (A := A) (s := s) i t i t'
      rwa [beq_self_eq_true] at this
    | list l => exact p.elim
    | tup l => exact p.elim
    | val w => exact p.elim
  | succ k ih =>
    intro d A s v u p hu r1 r2
    cases d with
    | none => simp only [Rel] at r1 r2; subst r1 r2; exact SeqAt.EqAt.same _
    | bool b => simp only [Rel] at r1 r2; subst r1 r2; exact SeqAt.EqAt.same _
    | int i =>
      obtain ⟨t, rfl⟩ := r1
      obtain ⟨t', rfl⟩ := r2
      have := SeqAt.EqAt.int_int (A := A) (s := s) i t i t'
      rwa [beq_self_eq_true] at this
    | str i =>
      obtain ⟨t, rfl⟩ := r1
      obtain ⟨t', rfl⟩ := r2
      have := SeqAt.EqAt.str_str (A := A) (s := s) i t i t'
      rwa [beq_self_eq_true] at this
    | val w => exact p.elim
    | list ds =>
      obtain ⟨a, vs, j, rfl, _, hg, rr1⟩ := r1
      obtain ⟨b, us, j', rfl, _, hg', rr2⟩ := r2
      by_cases hab : a = b
      · subst hab; exact SeqAt.EqAt.same _
      · have l1 := rr1.length
        have l2 := rr2.length
        have := SeqAt.RcAt.lists (e := fun _ => true) (A := A) (LO.isList hg) (LO.isList hg') (by simp; (first | lia | omega)) (by (first | lia | omega)) fun i h1 h2 => by
          have h1' : i < vs.length := by simpa using h1
          have h2' : i < us.length := by simpa using h2
          obtain ⟨d, e1, q1⟩ := rr1.at h1'
          obtain ⟨d', e2, q2⟩ := rr2.at h2'
          rw [e1] at e2; cases e2
          simpa using ih d A.in1 s vs[i] us[i] (p d (List.mem_of_getElem? e1)) (by show A.units + 1 + k < _; (first | lia | omega)) q1 q2
        have e : ((List.range vs.toArray.size).all fun _ => true) = true := by simp
        rw [e] at this
        exact SeqAt.EqAt.of_refs hab this
    | tup ds =>
      obtain ⟨a, vs, j, rfl, _, hg, rr1⟩ := r1
      obtain ⟨b, us, j', rfl, _, hg', rr2⟩ := r2
      by_cases hab : a = b
      · subst hab; exact SeqAt.EqAt.same _
      · have l1 := rr1.length
        have l2 := rr2.length
        have := SeqAt.RcAt.tuples (e := fun _ => true) (A := A) (TO.isTup hg) (TO.isTup hg') (by (first | lia | omega)) fun i h1 h2 => by
          have h1' : i < vs.length := by simpa using h1
          have h2' : i < us.length := by simpa using h2
          obtain ⟨d, e1, q1⟩ := rr1.at h1'
          obtain ⟨d', e2, q2⟩ := rr2.at h2'
          rw [e1] at e2; cases e2
          simpa using ih d A.in1 s vs[i] us[i] (p d (List.mem_of_getElem? e1)) (by show A.units + 1 + k < _; (first | lia | omega)) q1 q2
        have e : (((List.range (min vs.toArray.size us.toArray.size)).all fun _ => true) && vs.toArray.size == us.toArray.size) = true := by simp; (first | lia | omega)
        rw [e] at this
        exact SeqAt.EqAt.of_refs hab this

/-- two lists that say the same -/
theorem cmp_eqT {k : Nat} {ds : List D} (hp : ∀ d ∈ ds, Pure k d) (hk : k ≤ 10) : Cmp G (n + 1) A ok .Eq (.list ds) (.list ds) true := fun s x y c r1 r2 => by
  obtain ⟨a, vs, j, rfl, _, hg, rr1⟩ := r1
  obtain ⟨b, us, j', rfl, _, hg', rr2⟩ := r2
  have l1 := rr1.length
  have l2 := rr2.length
  have hu := c.un
  have hcl : cLine = 9900 := rfl
  have e : ((List.range vs.toArray.size).all fun _ => true) = true := by simp
  refine SeqAt.eq_listAt (e := fun _ => true) (LO.isList hg) (LO.isList hg') (by simp; (first | lia | omega)) (by (first | lia | omega)) (fun i h1 h2 => ?_) (by rw [e]; exact ⟨c.refl, rfl⟩)
  have h1' : i < vs.length := by simpa using h1
  have h2' : i < us.length := by simpa using h2
  obtain ⟨d, e1, q1⟩ := rr1.at h1'
  obtain ⟨d', e2, q2⟩ := rr2.at h2'
  rw [e1] at e2; cases e2
  simpa using eq_same k d A.in1 s vs[i] us[i] (hp d (List.mem_of_getElem? e1)) (by show A.units + 1 + k < _; (first | lia | omega)) q1 q2

/-! equality of rows of atoms -/
noncomputable def Atom : Bool → D → Prop
  | true, .int _ => True
  | false, .str _ => True
  | _, _ => False
noncomputable def deq : D → D → Bool
  | .int a, .int b => a == b
  | .str a, .str b => a == b
  | _, _ => false
theorem eq_atom {b : Bool} {d d' : D} (h : Atom b d) (h' : Atom b d') {hp hp' : Heap} {s : Shared} {v u : Value} (r1 : Rel ok hp d v) (r2 : Rel ok hp' d' u) : SeqAt.EqAt A s v u (deq d d') := by
  cases b <;> cases d <;> first | exact h.elim | skip
  all_goals cases d' <;> first | exact h'.elim | skip
  · simp only [Rel] at r1 r2
    obtain ⟨t, rfl⟩ := r1
    obtain ⟨t', rfl⟩ := r2
    exact SeqAt.EqAt.str_str _ t _ t'
  · simp only [Rel] at r1 r2
    obtain ⟨t, rfl⟩ := r1
    obtain ⟨t', rfl⟩ := r2
    exact SeqAt.EqAt.int_int _ t _ t'
noncomputable def leq : List D → List D → Bool
  | [], [] => true
  | a :: r, b :: r' => deq a b && leq r r'
  | _, _ => false
theorem leq_len : ∀ {x y : List D}, x.length ≠ y.length → leq x y = false
  | [], [], h => absurd rfl h
  | [], _ :: _, _ => rfl
  | _ :: _, [], _ => rfl
  | a :: x, b :: y, h => by simp only [leq]; rw [leq_len (by simpa using h)]; simp
theorem leq_all : ∀ {x y : List D}, x.length = y.length → leq x y = (List.range x.length).all fun i => deq (x.getD i .none) (y.getD i .none)
  | [], [], _ => rfl
  | [], _ :: _, h => by simp at h
  | _ :: _, [], h => by simp at h
  | a :: x, b :: y, h => by
    simp only [leq]
    rw [leq_all (x := x) (y := y) (by simpa using h)]
    simp [List.range_succ_eq_map, List.all_map]
    rfl
theorem cmp_leq {b : Bool} {x y : List D} (hx : ∀ d ∈ x, Atom b d) (hy : ∀ d ∈ y, Atom b d) : Cmp G (n + 1) A ok .Eq (.list x) (.list y) (leq x y) := fun s u v c r1 r2 => by
  obtain ⟨p, vs, j, rfl, _, hg, rr1⟩ := r1
  obtain ⟨q, us, j', rfl, _, hg', rr2⟩ := r2
  have l1 := rr1.length
  have l2 := rr2.length
  have hu := c.un
  have hcl : cLine = 9900 := rfl
  by_cases hl : x.length = y.length
  · rw [leq_all hl]
    refine SeqAt.eq_listAt (e := fun i => deq (x.getD i .none) (y.getD i .none)) (LO.isList hg) (LO.isList hg') (by simp; (first | lia | omega)) (by (first | lia | omega)) (fun i h1 h2 => ?_) (by refine ⟨c.refl, ?_⟩; simp only [List.size_toArray, l1])
    have h1' : i < vs.length := by simpa using h1
    have h2' : i < us.length := by simpa using h2
    obtain ⟨d, e1, q1⟩ := rr1.at h1'
    obtain ⟨d', e2, q2⟩ := rr2.at h2'
    have g1 : x.getD i .none = d := by rw [List.getD_eq_getElem?_getD, e1]; rfl
    have g2 : y.getD i .none = d' := by rw [List.getD_eq_getElem?_getD, e2]; rfl
    rw [g1, g2]
    simpa using eq_atom (hx d (List.mem_of_getElem? e1)) (hy d' (List.mem_of_getElem? e2)) q1 q2
  · rw [leq_len hl]
    exact SeqAt.eq_list_lengthsAt (LO.isList hg) (LO.isList hg') (by simp; (first | lia | omega)) (by (first | lia | omega)) ⟨c.refl, rfl⟩
theorem cmp_lne {b : Bool} {x y : List D} (hx : ∀ d ∈ x, Atom b d) (hy : ∀ d ∈ y, Atom b d) : Cmp G (n + 1) A ok .NotEq (.list x) (.list y) (!leq x y) := fun s u v c r1 r2 => by
  obtain ⟨p, vs, j, rfl, _, hg, rr1⟩ := r1
  obtain ⟨q, us, j', rfl, _, hg', rr2⟩ := r2
  have l1 := rr1.length
  have l2 := rr2.length
  have hu := c.un
  have hcl : cLine = 9900 := rfl
  by_cases hl : x.length = y.length
  · rw [leq_all hl]
    refine SeqAt.RcNeAt.lists (e := fun i => deq (x.getD i .none) (y.getD i .none)) (LO.isList hg) (LO.isList hg') (by simp; (first | lia | omega)) (by (first | lia | omega)) (fun i h1 h2 => ?_) _ _ _ _ (by refine ⟨c.refl, ?_⟩; simp only [List.size_toArray, l1])
    have h1' : i < vs.length := by simpa using h1
    have h2' : i < us.length := by simpa using h2
    obtain ⟨d, e1, q1⟩ := rr1.at h1'
    obtain ⟨d', e2, q2⟩ := rr2.at h2'
    have g1 : x.getD i .none = d := by rw [List.getD_eq_getElem?_getD, e1]; rfl
    have g2 : y.getD i .none = d' := by rw [List.getD_eq_getElem?_getD, e2]; rfl
    rw [g1, g2]
    simpa using eq_atom (hx d (List.mem_of_getElem? e1)) (hy d' (List.mem_of_getElem? e2)) q1 q2
  · rw [leq_len hl]
    exact SeqAt.RcNeAt.lists_lengths (LO.isList hg) (LO.isList hg') (by simp; (first | lia | omega)) (by (first | lia | omega)) _ _ _ _ ⟨c.refl, rfl⟩
end
end Mine
/-! A15 -/
namespace Mine
section
variable {G : W0} {n : Nat} {A : Around} {env : Env} {ok : Addr → Prop} {ρ : List (String × D)}


/-- a text, many times -/
theorem ev_mulS {l r : Expr} {pos : Pos} {x : Str} {k : Nat} (hl : Ev G n A env ok ρ l (.str x)) (hr : Ev G n A env ok ρ r (.int k)) (hk : 2 ≤ k) (hk2 : k < 100) (hx : 1 ≤ x.length) (hx2 : x.length < 10000) : Ev G n A env ok ρ (.BinOp l .Mult r pos) (.str ⟨(List.replicate k x.cps.toList).flatten.toArray⟩) :=
  ev_bin hl hr fun s a b c f ⟨t, ha⟩ ⟨u, hb⟩ => by
    subst ha hb
    have e1 : ¬ ((k : Int) < 1) := by (first | lia | omega)
    have e2 : ((k : Int) == 1 || x.length == 0) = false := by
      simp only [Bool.or_eq_false_iff, beq_eq_false_iff_ne, ne_eq]
      (first | lia | omega)
    have hnn : (k : Int).toNat = k := by (first | lia | omega)
    have hlen : x.length * k < 1000000 := Nat.lt_of_le_of_lt (Nat.mul_le_mul_left _ (show k ≤ 99 by (first | lia | omega))) (by (first | lia | omega))
    have hfold : ∀ (j : Nat) (acc : Array Nat), (List.replicate j x.cps).foldl (· ++ ·) acc = (acc.toList ++ (List.replicate j x.cps.toList).flatten).toArray := by
      intro j
      induction j with
      | zero => intro acc; simp
      | succ j ih => intro acc; rw [List.replicate_succ, List.foldl_cons, ih, List.replicate_succ, List.flatten_cons]; simp [List.append_assoc]
    refine P.mul_str (by simp only [Bool.or_eq_false_iff, decide_eq_false_iff_not]; (first | lia | omega)) (fun _ _ => ?_) (fun _ _ => ?_) ?_
    · have : ((2 : Int) ^ 63 - 1) / k ≥ (2 ^ 63 - 1) / 100 := by
        rw [ge_iff_le]
        apply Int.le_ediv_of_mul_le (by (first | lia | omega))
        have h1 : ((2 : Int) ^ 63 - 1) / 100 * k ≤ (2 ^ 63 - 1) / 100 * 100 := Int.mul_le_mul_of_nonneg_left (by (first | lia | omega)) (by decide)
        have h2 : ((2 : Int) ^ 63 - 1) / 100 * 100 ≤ 2 ^ 63 - 1 := by decide
        (first | lia | omega)
      have h3 : ((2 : Int) ^ 63 - 1) / 100 ≥ 10000 := by decide
      (first | lia | omega)
    · rw [hnn]
      unfold Builtin.Str.tooLong
      have : ¬ x.length * k > sizeLine := by unfold sizeLine; (first | lia | omega)
      first | simpa using this | (simp only [decide_eq_false_iff_not]; exact this)
    · rw [if_neg e1, e2, if_neg Bool.false_ne_true, hnn, hfold]
      refine ⟨?_, c.tok, ⟨s.toks, by simp⟩⟩
      have hsum : ((List.replicate k x.cps.toList).flatten).length = x.length * k := by
        rw [List.length_flatten, List.map_replicate, List.sum_replicate_nat]
        simp [Str.length, Nat.mul_comm]
      show (#[].toList ++ (List.replicate k x.cps.toList).flatten).toArray.size ≤ sizeLine
      rw [List.size_toArray, List.length_append, hsum]
      simp; unfold sizeLine; (first | lia | omega)

/-- a list, many times -/
theorem wp_mulL {s : Shared} {p : Addr} {vs : List Value} {j k : Nat} {x : Int} {u : Tok} {Q : Value → Shared → Prop} {E : Value → Shared → Prop} (hg : s.heap.get? p = some (LO vs j)) (hx : x.toNat = k) (h0 : 0 ≤ x) (hx2 : x < 2 ^ 20) (hsz : vs.toArray.size * x.toNat ≤ 2 ^ 24)
    (h : Q (.ref s.heap.objs.size) { s with heap := s.heap.push (LO (List.replicate k vs).flatten 0) }) : wpAny G.M A (binaryOp .Mult (.ref p) (.int x u)) Q E s := by
  refine wpAny_binaryOp_repeat_ref (T := "list") (U := "int") (by decide) ⟨_, hg, rfl⟩ (fun s' => typeIs_int s' x u) noFill_list_mul F.fills_int_mul F.slot_int_rmul repeat_list F.slot_int_index.lookup
    (call_meets F.slot_int_rmul (typeIs_int s x u) F.entry_int_rmul (F.args_int_rmul_2 _ _) (int___rmul___int_list x u p vs.toArray j)
      ⟨hg, rfl, ⟨_, hg, rfl⟩, call_meets F.slot_list_mul ⟨_, hg, rfl⟩ F.entry_list_mul (F.args_list_mul_2 _ _)
        (AutoListH.list___mul___list_int_3 p vs.toArray j x u (by simp [Builtin.List.listFitsIndex]; (first | lia | omega)) (by (first | lia | omega)) (by simp [Builtin.List.listTooLong, sizeLine] at hsz ⊢; (first | lia | omega)))
        ⟨hg, ?_⟩⟩)
  have e : List.foldl (fun x1 x2 => x1 ++ x2) #[] (List.replicate (if vs.toArray.isEmpty = true then 0 else x.toNat) vs.toArray) = (List.replicate k vs).flatten.toArray := by
    rw [listMul_foldl_if, hx]
  rw [e]
  exact h
theorem ev_mulL {l r : Expr} {pos : Pos} {ds : List D} {k : Nat} (hl : Ev G n A env ok ρ l (.list ds)) (hr : Ev G n A env ok ρ r (.int k)) (hz : ds.length * k ≤ 2 ^ 20) (hk : k < 2 ^ 20) : Ev G n A env ok ρ (.BinOp l .Mult r pos) (.list (List.replicate k ds).flatten) :=
  ev_bin hl hr fun s a b c f ha ⟨u, hb⟩ => by
    subst hb
    obtain ⟨p, vs, j, rfl, hp, hg, rr⟩ := ha
    have hlen := rr.length
    have hnn : (k : Int).toNat = k := by (first | lia | omega)
    have hsz : vs.toArray.size * (k : Int).toNat ≤ 2 ^ 24 := by rw [List.size_toArray, hlen, hnn]; (first | lia | omega)
    have rep : ∀ k, RelAll ok s.heap (List.replicate k ds).flatten (List.replicate k vs).flatten := by
      intro k
      induction k with
      | zero => simp [RelAll]
      | succ k ih => rw [List.replicate_succ, List.replicate_succ, List.flatten_cons, List.flatten_cons]; exact rr.append ih
    exact wp_mulL hg hnn (by (first | lia | omega)) (by (first | lia | omega)) hsz (new_list c f (rep k))

/-- a list's greatest and least -/
theorem ev_maxL {func : Str} {fpos pos : Pos} {e : Expr} {l : List Int} {m : Int} (hf : Blt G n A env ok ρ func fpos (.builtin "max")) (h : Ev G n A env ok ρ e (.list (l.map .int))) (hm : m ∈ l) (hx : ∀ x ∈ l, x ≤ m)
    (he : ∀ rest : List Expr, starEach (e :: rest) env = (false, eval e env) :: starEach rest env := by intro _; rfl) (hp : (starEach [e] env).any (·.1) = false := by rfl) : Ev G n A env ok ρ (.Call (.Name func fpos) [e] [] pos) (.int m) :=
  ev_callB hf (evs_one h he) (fun s vs c f r => by
    obtain ⟨_, _, rfl, ⟨a, ws, k, rfl, _, hg, rr⟩, rfl⟩ := r
    have hlen := rr.length
    have hne : 0 < l.length := List.length_pos_of_mem hm
    refine call_max_walkS ?_
    refine wpAny_pyIter_list (LO.isList hg) ?_
    have a2 := c.keeps (h' := s.heap.push { cls := .type "list_iterator", data := .fields #[.ref a, .int 0 0] }) (tk := s.toks) fun b o e => Heap.get?_push_of_some _ e
    have hai : a ≠ s.heap.objs.size := Nat.ne_of_lt (Heap.lt_size hg)
    have hval : ∀ (i : Nat) (v : Value), ws.toArray[i]? = some v → ∃ t, v = .int (l.getD i 0) t := fun i v hv => by
      have hv' : ws[i]? = some v := by simpa using hv
      have hi : i < ws.length := (List.getElem?_eq_some_iff.mp hv').1
      obtain ⟨d, e1, q1⟩ := rr.at hi
      rw [List.getElem?_map] at e1
      obtain ⟨x, ex, rfl⟩ := Option.map_eq_some_iff.mp e1
      obtain ⟨t, q1⟩ := q1
      have : ws[i] = v := by rw [List.getElem?_eq_getElem hi] at hv'; cases hv'; rfl
      refine ⟨t, ?_⟩
      rw [← this, q1, List.getD_eq_getElem?_getD, ex]; rfl
    refine ⟨s.heap.objs.size, [s.heap.objs.size, a], [s.heap.objs.size], _, ws.toArray.size, _, _, _, rfl, (Walks.list (A := A.in1) (prog := prg) (w := G.w) c.hh s.heap.objs.size a hai ws.toArray).toS, ⟨⟨_, Heap.get?_push_size _ rfl, rfl, rfl⟩, LO.isList (Heap.get?_push_of_some _ hg)⟩, ?_, by simp at hlen ⊢; (first | lia | omega), CmpOf.ints_gt (fun i => l.getD i 0) hval, fun v s' hv hmv => ?_⟩
    · intro b hb
      simp at hb
      show b < (s.heap.push _).objs.size
      rw [Heap.size_push]
      rcases hb with rfl | rfl
      · exact Nat.lt_succ_self _
      · exact Nat.lt_succ_of_lt (Heap.lt_size hg)
    · have hext : Ext s s' := ⟨.of fun b o e => hmv.heap b o (fun q => by simp at q; subst q; exact absurd (Heap.lt_size e) (Nat.lt_irrefl _)) (Heap.get?_push_of_some _ e), hmv.os, fun i g e => by rw [hmv.gens]; exact e⟩
      have haft : Aft G n A s s' := by
        have hk : ∀ b o, s.heap.get? b = some o → s'.heap.get? b = some o := fun b o e => hmv.heap b o (fun q => by simp at q; subst q; exact absurd (Heap.lt_size e) (Nat.lt_irrefl _)) (Heap.get?_push_of_some _ e)
        refine ⟨hext, ⟨fun b o e => hk b o (c.stays b o e), c.tab.keeps hk, let ⟨l, a, b⟩ := c.fr; ⟨l, a, b.kept (.of hk)⟩, c.hh, c.dep, c.un, by rw [hmv.gens]; exact c.bare⟩⟩
      refine ⟨haft, ?_⟩
      obtain ⟨h1, h2⟩ := argBest_gt (fun i => l.getD i 0) (ws.toArray.size - 1)
      obtain ⟨t, rfl⟩ := hval _ v hv
      have hsz : ws.toArray.size = l.length := by simp at hlen ⊢; exact hlen
      obtain ⟨j, hj, ej⟩ := List.getElem_of_mem hm
      have q1 : m ≤ l.getD (argBest (fun i j => decide (l.getD i 0 > l.getD j 0)) (ws.toArray.size - 1)) 0 := by
        have := h2 j (by (first | lia | omega))
        rwa [List.getD_eq_getElem?_getD, List.getElem?_eq_getElem hj, Option.getD_some, ej] at this
      have q2 : l.getD (argBest (fun i j => decide (l.getD i 0 > l.getD j 0)) (ws.toArray.size - 1)) 0 ≤ m := by
        have hlt : argBest (fun i j => decide (l.getD i 0 > l.getD j 0)) (ws.toArray.size - 1) < l.length := by (first | lia | omega)
        rw [List.getD_eq_getElem?_getD, List.getElem?_eq_getElem hlt, Option.getD_some]
        exact hx _ (List.getElem_mem hlt)
      exact ⟨t, by rw [show l.getD _ 0 = m from Int.le_antisymm q2 q1]⟩) ⟨_, _, rfl, he⟩ hp
end
end Mine
/-! A16 -/
namespace Mine
section
variable {G : W0} {n : Nat} {A : Around} {env : Env} {ok : Addr → Prop} {ρ : List (String × D)}

theorem ev_minL {func : Str} {fpos pos : Pos} {e : Expr} {l : List Int} {m : Int} (hf : Blt G n A env ok ρ func fpos (.builtin "min")) (h : Ev G n A env ok ρ e (.list (l.map .int))) (hm : m ∈ l) (hx : ∀ x ∈ l, m ≤ x)
    (he : ∀ rest : List Expr, starEach (e :: rest) env = (false, eval e env) :: starEach rest env := by intro _; rfl) (hp : (starEach [e] env).any (·.1) = false := by rfl) : Ev G n A env ok ρ (.Call (.Name func fpos) [e] [] pos) (.int m) :=
  ev_callB hf (evs_one h he) (fun s vs c f r => by
    obtain ⟨_, _, rfl, ⟨a, ws, k, rfl, _, hg, rr⟩, rfl⟩ := r
    have hlen := rr.length
    have hne : 0 < l.length := List.length_pos_of_mem hm
    refine call_min_walkS ?_
    refine wpAny_pyIter_list (LO.isList hg) ?_
    have a2 := c.keeps (h' := s.heap.push { cls := .type "list_iterator", data := .fields #[.ref a, .int 0 0] }) (tk := s.toks) fun b o e => Heap.get?_push_of_some _ e
    have hai : a ≠ s.heap.objs.size := Nat.ne_of_lt (Heap.lt_size hg)
    have hval : ∀ (i : Nat) (v : Value), ws.toArray[i]? = some v → ∃ t, v = .int (l.getD i 0) t := fun i v hv => by
      have hv' : ws[i]? = some v := by simpa using hv
      have hi : i < ws.length := (List.getElem?_eq_some_iff.mp hv').1
      obtain ⟨d, e1, q1⟩ := rr.at hi
      rw [List.getElem?_map] at e1
      obtain ⟨x, ex, rfl⟩ := Option.map_eq_some_iff.mp e1
      obtain ⟨t, q1⟩ := q1
      have : ws[i] = v := by rw [List.getElem?_eq_getElem hi] at hv'; cases hv'; rfl
      refine ⟨t, ?_⟩
      rw [← this, q1, List.getD_eq_getElem?_getD, ex]; rfl
    refine ⟨s.heap.objs.size, [s.heap.objs.size, a], [s.heap.objs.size], _, ws.toArray.size, _, _, _, rfl, (Walks.list (A := A.in1) (prog := prg) (w := G.w) c.hh s.heap.objs.size a hai ws.toArray).toS, ⟨⟨_, Heap.get?_push_size _ rfl, rfl, rfl⟩, LO.isList (Heap.get?_push_of_some _ hg)⟩, ?_, by simp at hlen ⊢; omega, CmpOf.ints_lt (fun i => l.getD i 0) hval, fun v s' hv hmv => ?_⟩
    · intro b hb
      simp at hb
      show b < (s.heap.push _).objs.size
      rw [Heap.size_push]
      rcases hb with rfl | rfl
      · exact Nat.lt_succ_self _
      · exact Nat.lt_succ_of_lt (Heap.lt_size hg)
    · have hext : Ext s s' := ⟨.of fun b o e => hmv.heap b o (fun q => by simp at q; subst q; exact absurd (Heap.lt_size e) (Nat.lt_irrefl _)) (Heap.get?_push_of_some _ e), hmv.os, fun i g e => by rw [hmv.gens]; exact e⟩
      have haft : Aft G n A s s' := by
        have hk : ∀ b o, s.heap.get? b = some o → s'.heap.get? b = some o := fun b o e => hmv.heap b o (fun q => by simp at q; subst q; exact absurd (Heap.lt_size e) (Nat.lt_irrefl _)) (Heap.get?_push_of_some _ e)
        refine ⟨hext, ⟨fun b o e => hk b o (c.stays b o e), c.tab.keeps hk, let ⟨l, a, b⟩ := c.fr; ⟨l, a, b.kept (.of hk)⟩, c.hh, c.dep, c.un, by rw [hmv.gens]; exact c.bare⟩⟩
      refine ⟨haft, ?_⟩
      obtain ⟨h1, h2⟩ := argBest_lt (fun i => l.getD i 0) (ws.toArray.size - 1)
      obtain ⟨t, rfl⟩ := hval _ v hv
      have hsz : ws.toArray.size = l.length := by simp at hlen ⊢; exact hlen
      obtain ⟨j, hj, ej⟩ := List.getElem_of_mem hm
      have q1 : l.getD (argBest (fun i j => decide (l.getD i 0 < l.getD j 0)) (ws.toArray.size - 1)) 0 ≤ m := by
        have gj : l.getD j 0 = m := by rw [List.getD_eq_getElem?_getD, List.getElem?_eq_getElem hj, Option.getD_some, ej]
        have := h2 j (by omega)
        rwa [gj] at this
      have q2 : m ≤ l.getD (argBest (fun i j => decide (l.getD i 0 < l.getD j 0)) (ws.toArray.size - 1)) 0 := by
        have hlt : argBest (fun i j => decide (l.getD i 0 < l.getD j 0)) (ws.toArray.size - 1) < l.length := by omega
        rw [List.getD_eq_getElem?_getD, List.getElem?_eq_getElem hlt, Option.getD_some]
        exact hx _ (List.getElem_mem hlt)
      exact ⟨t, by rw [show l.getD _ 0 = m from Int.le_antisymm q1 q2]⟩) ⟨_, _, rfl, he⟩ hp
theorem ev_sumL {func : Str} {fpos pos : Pos} {e : Expr} {l : List Int} (hf : Blt G n A env ok ρ func fpos (.builtin "sum")) (h : Ev G n A env ok ρ e (.list (l.map .int)))
    (he : ∀ rest : List Expr, starEach (e :: rest) env = (false, eval e env) :: starEach rest env := by intro _; rfl) (hp : (starEach [e] env).any (·.1) = false := by rfl) : Ev G n A env ok ρ (.Call (.Name func fpos) [e] [] pos) (.int l.sum) :=
  ev_callB hf (evs_one h he) (fun s vs c f r => by
    obtain ⟨_, _, rfl, ⟨a, ws, k, rfl, _, hg, rr⟩, rfl⟩ := r
    have hlen := rr.length
    refine call_sum_walkG ?_
    refine wpAny_pyIter_list (LO.isList hg) ?_
    have hai : a ≠ s.heap.objs.size := Nat.ne_of_lt (Heap.lt_size hg)
    have hval : ∀ (i : Nat) (v : Value), ws.toArray[i]? = some v → ∃ t, v = .int (l.getD i 0) t := fun i v hv => by
      have hv' : ws[i]? = some v := by simpa using hv
      have hi : i < ws.length := (List.getElem?_eq_some_iff.mp hv').1
      obtain ⟨d, e1, q1⟩ := rr.at hi
      rw [List.getElem?_map] at e1
      obtain ⟨x, ex, rfl⟩ := Option.map_eq_some_iff.mp e1
      obtain ⟨t, q1⟩ := q1
      have : ws[i] = v := by rw [List.getElem?_eq_getElem hi] at hv'; cases hv'; rfl
      refine ⟨t, ?_⟩
      rw [← this, q1, List.getD_eq_getElem?_getD, ex]; rfl
    refine ⟨s.heap.objs.size, [s.heap.objs.size, a], [s.heap.objs.size], ws.toArray.size, _, _, fun i => l.getD i 0, rfl, Walks.list (A := A.in1) (prog := prg) (w := G.w) c.hh s.heap.objs.size a hai ws.toArray, ⟨⟨_, Heap.get?_push_size _ rfl, rfl, rfl⟩, LO.isList (Heap.get?_push_of_some _ hg)⟩, ?_, hval, fun h' tk t' hk => ?_⟩
    · intro b hb
      simp at hb
      show b < (s.heap.push _).objs.size
      rw [Heap.size_push]
      rcases hb with rfl | rfl
      · exact Nat.lt_succ_self _
      · exact Nat.lt_succ_of_lt (Heap.lt_size hg)
    · have a1 := c.keeps (h' := h') (tk := tk) fun b o e => hk b o (fun q => by simp at q; subst q; exact absurd (Heap.lt_size e) (Nat.lt_irrefl _)) (Heap.get?_push_of_some _ e)
      refine ⟨a1, ⟨t', ?_⟩⟩
      have hsz : ws.toArray.size = l.length := by simp at hlen ⊢; exact hlen
      rw [preSum_getD, hsz, List.take_length]) ⟨_, _, rfl, he⟩ hp

theorem strsAre {h : Heap} : ∀ {xs : List Str} {vs : List Value}, RelAll ok h (xs.map .str) vs → StrsAre vs xs
  | [], _, r => by simp only [List.map_nil, RelAll] at r; subst r; exact .nil
  | x :: xs, _, r => by
    simp only [List.map_cons, RelAll, Rel] at r
    obtain ⟨_, vs, rfl, ⟨t, rfl⟩, r2⟩ := r
    exact .cons x t (strsAre r2)

/-- a method of a value, called with one thing -/
theorem ev_join {o e : Expr} {apos pos : Pos} {x : Str} {xs : List Str} (ho : Ev G n A env ok ρ o (.str x)) (h : Ev G n A env ok ρ e (.list (xs.map .str))) (hz : (xs.map (·.length)).sum + xs.length * x.length ≤ 16777216)
    (hbase : attributeBase o "join" env (eval o env) = eval o env := by rfl) (hline : (apos.endLine == pos.line) = true := by rfl)
    (hfew : ((backTo pos (starEach [e] env)).all (fun x => !x.1) && (backToKw pos (keywordEach [] env)).all (fun x => x.1.isSome) && decide (([e] : List Expr).length + ([] : List Keyword).length + (if ([] : List Keyword).isEmpty then 0 else 1) < 30)) = true := by rfl)
    (he : ∀ rest : List Expr, starEach (e :: rest) env = (false, eval e env) :: starEach rest env := by intro _; rfl) (hp : (starEach [e] env).any (·.1) = false := by rfl) :
    Ev G n A env ok ρ (.Call (.Attribute o "join" apos) [e] [] pos) (.str (Txt.join x xs)) := fun s c S => by
  refine wpAny_Call_method hbase hfew hline F.plainAttrs_str F.slot_str_join F.type_str_join (Ev.to (ho s c S) fun ov s₁ h00 => ?_)
  obtain ⟨a1, r1⟩ := h00
  obtain ⟨t, rfl⟩ := r1
  refine ⟨typeIs_str _ _ _, fun a q => (by cases q), ?_⟩
  have S1 := S.aft c a1
  have hw := wp_evalArgs (pos := pos) (f := .builtin "str.join") (evs_one h he) ekw_nil ⟨_, _, rfl, he⟩ a1.2 S1 (Q := fun as s' => wpAny G.M A (call (.builtin "str.join") (.str x t :: as.pos) as.kw) (fun v s'' => Aft G n A s s'' ∧ Rel ok s''.heap (.str (Txt.join x xs)) v) (fun _ _ => False) s') (E := fun _ _ => False) fun s₂ vs us a2 r2 r3 => by
    obtain rfl := r3
    obtain ⟨_, _, rfl, ⟨a, ws, k, rfl, _, hg, rr⟩, rfl⟩ := r2
    exact join_list (LO.isList hg) (by simpa using strsAre rr) hz fun t' tk => ⟨(a1.trans a2).trans a2.2.tok, ⟨t', rfl⟩⟩
  refine Calls.callWith_builtin (backTo_plain hp) hw
end
end Mine
/-! A17 -/
namespace Mine
section
variable {G : W0} {n : Nat} {A : Around} {env : Env} {ok : Addr → Prop} {ρ ρ' : List (String × D)} {s₀ sT s : Shared} {Q : Flow → Shared → Prop} {E : Value → Shared → Prop} {rest : List Stmt}

/-- what the frame's own lists make of a step -/
noncomputable def OwnKeep (G : W0) (ok : Addr → Prop) (s₀ s s' : Shared) : Prop := ∀ a ds, Own G ok s₀ s a ds → Own G ok s₀ s' a ds
theorem OwnKeep.trans {a b c : Shared} (x : OwnKeep G ok s₀ a b) (y : OwnKeep G ok s₀ b c) : OwnKeep G ok s₀ a c := fun p ds O => y p ds (x p ds O)
theorem OwnKeep.aft {s' : Shared} (c : Cx G n A s) (a : Aft G n A s s') : OwnKeep G ok s₀ s s' := fun _ _ O => O.aft c a

/-- the value of an expression, by a wider view -/
theorem wide {ok' : Addr → Prop} {e : Expr} {d : D} (h : Ev G n A env ok' ρ' e d) (hf : Flat d) (c : Cx G n A s) (S : Sat G ok' env ρ' s) : wpAny G.M A (eval e env) (fun v s' => Aft G n A s s' ∧ Rel ok s'.heap d v) (fun _ _ => False) s :=
  Ev.to (h s c S) fun v s' ⟨a, r⟩ => ⟨a, r.flat hf⟩
theorem Fst.ev {e : Expr} {d : D} (F : Fst G n A env ok ρ s₀ sT s) (h : Ev G n A env ok ρ e d) : wpAny G.M A (eval e env) (fun v s' => Aft G n A s s' ∧ Rel ok s'.heap d v) (fun _ _ => False) s := h s F.cx F.sat

theorem Fst.tst {e : Expr} {b : Bool} (F : Fst G n A env ok ρ s₀ sT s) (h : Tst G n A env ok ρ e b) : wpAny G.M A (isTrue e env (eval e env)) (fun v s' => Aft G n A s s' ∧ v = b) (fun _ _ => False) s := h s F.cx F.sat
/-- a name is set -/
theorem st_set {x : String} {px pos : Pos} {e : Expr} {d : D} (F : Fst G n A env ok ρ s₀ sT s) (hv : wpAny G.M A (eval e env) (fun v s' => Aft G n A s s' ∧ Rel ok s'.heap d v) (fun _ _ => False) s) (hx : ∃ a, At env (Str.ofString x) a) (U : Upd x d ρ ρ')
    (h : ∀ s', Fst G n A env ok ρ' s₀ sT s' → OwnKeep G ok s₀ s s' → wpAny G.M A (execs rest env) Q E s') (hs : swapsWith e (some (.Name (Str.ofString x) px)) pos.line env = pure false := by rfl) :
    wpAny G.M A (execs (.Assign [.Name (Str.ofString x) px] e pos :: rest) env) Q E s :=
  st_of (wpAny_Assign_Name (Ev.to hv fun v s₁ ⟨a, r⟩ => (F.aft a).store hx r U fun s' F' k => h s' F' ((OwnKeep.aft F.cx a).trans fun _ _ O => O.sol k)) hs)
/-- a test, by a wider view -/
theorem st_ifW {ok' : Addr → Prop} {ρ' : List (String × D)} {test : Expr} {body orelse : List Stmt} {pos : Pos} {b : Bool} (F : Fst G n A env ok ρ s₀ sT s) (S : Sat G ok' env ρ' s) (ht : Tst G n A env ok' ρ' test b)
    (h : ∀ s', Fst G n A env ok ρ s₀ sT s' → OwnKeep G ok s₀ s s' → wpAny G.M A (execs (if b then body else orelse) env) (Nxt G A env rest Q E) E s') :
    wpAny G.M A (execs (.If test body orelse pos :: rest) env) Q E s := by
  refine st_of (wpAny_If (Ev.to (ht s F.cx S) fun v s₁ h00 => ?_))
  obtain ⟨a, e⟩ := h00
  subst e
  have := h s₁ (F.aft a) (.aft F.cx a)
  cases v <;> simpa using this
theorem st_aug {x : String} {px pos : Pos} {e : Expr} {op : Operator} {a b d' : Int} (F : Fst G n A env ok ρ s₀ sT s) (hm : (x, .int a) ∈ ρ) (hv : Ev G n A env ok ρ e (.int b)) (hx : ∃ a, At env (Str.ofString x) a) (U : Upd x (.int d') ρ ρ')
    (hop : ∀ s t u, Cx G n A s → wpAny G.M A (inplaceOp op (.int a t) (.int b u)) (fun v s' => Aft G n A s s' ∧ Rel ok s'.heap (.int d') v) (fun _ _ => False) s)
    (h : ∀ s', Fst G n A env ok ρ' s₀ sT s' → OwnKeep G ok s₀ s s' → wpAny G.M A (execs rest env) Q E s') (h2 : (Str.ofString x == ("__classdict__" : Str)) = false := by decide) :
    wpAny G.M A (execs (.AugAssign (.Name (Str.ofString x) px) op e pos :: rest) env) Q E s := by
  obtain ⟨v, V, R⟩ := F.sat.vars _ hm
  obtain ⟨t, rfl⟩ := R
  refine st_of (wpAny_AugAssign_Name (load_var F.sat.eo.kind V h2 (Ev.to (hv s F.cx F.sat) fun w s₁ h00 => ?_)))
  obtain ⟨a1, r1⟩ := h00
  obtain ⟨u, rfl⟩ := r1
  refine Ev.to (hop s₁ t u a1.2) fun r s₂ h00 => ?_
  obtain ⟨a2, r2⟩ := h00
  exact (F.aft (a1.trans a2)).store hx r2 U fun s' F' k => h s' F' ((OwnKeep.aft F.cx (a1.trans a2)).trans fun _ _ O => O.sol k)

/-- a method of the frame's own list, called for its effect -/
theorem st_method {x : String} {name : Str} {id : String} {px apos pos epos : Pos} {args : List Expr} {a : Addr} {ds : List D} (F : Fst G n A env ok ρ s₀ sT s) (hm : (x, .val (.ref a)) ∈ ρ) (O : Own G ok s₀ s a ds)
    (slot : Slot "list" name id) (hty : typeOf (.builtin id) = pure (.type "method_descriptor"))
    (hargs : wpAny G.M A (evalArgs (.builtin id) true (backTo pos (starEach args env)) []) (fun as s₁ => as.kw = [] ∧ wpAny G.M A (call (.builtin id) (.ref a :: as.pos) []) (fun v s₂ => wpAny G.M A (execs rest env) Q E s₂) (fun _ _ => False) s₁) (fun _ _ => False) s)
    (hbase : attributeBase (.Name (Str.ofString x) px) name env (eval (.Name (Str.ofString x) px) env) = eval (.Name (Str.ofString x) px) env := by rfl) (hline : (apos.endLine == pos.line) = true := by rfl)
    (hfew : ((backTo pos (starEach args env)).all (fun x => !x.1) && (backToKw pos (keywordEach [] env)).all (fun x => x.1.isSome) && decide (args.length + ([] : List Keyword).length + (if ([] : List Keyword).isEmpty then 0 else 1) < 30)) = true := by rfl)
    (hp : (starEach args env).any (·.1) = false := by rfl)
    (hs : swapsWith (.Call (.Attribute (.Name (Str.ofString x) px) name apos) args [] pos) none epos.line env = pure false := by rfl) (h1 : (Str.ofString x == ("__debug__" : Str)) = false := by decide) (h2 : (Str.ofString x == ("__classdict__" : Str)) = false := by decide) :
    wpAny G.M A (execs (.Expr (.Call (.Attribute (.Name (Str.ofString x) px) name apos) args [] pos) epos :: rest) env) Q E s := by
  have hint : interactive env = false := by
    unfold interactive
    rw [F.sat.eo.kind]; rfl
  obtain ⟨v, V, R⟩ := F.sat.vars _ hm
  obtain rfl := R
  obtain ⟨vs, k, hg, _⟩ := O.cont
  refine st_of (wpAny_Expr_any (wpAny_Call_method hbase hfew hline PySem.F.plainAttrs_list slot hty ?_) hint hs)
  refine wpAny_Name (load_var F.sat.eo.kind V h2 ⟨⟨_, hg, rfl⟩, fun b q => (by cases q; exact ⟨_, hg, rfl⟩), ?_⟩) h1
  refine Calls.callWith_builtin (backTo_plain hp) (wpAny_mono hargs (fun as s₁ h00 => ?_) fun _ _ f => f.elim)
  obtain ⟨e, h₁⟩ := h00
  rw [e]
  exact wpAny_mono h₁ (fun _ _ h => h) fun _ _ f => f.elim
theorem st_append {x : String} {px apos pos epos : Pos} {e : Expr} {a : Addr} {ds : List D} {d : D} (F : Fst G n A env ok ρ s₀ sT s) (hm : (x, .val (.ref a)) ∈ ρ) (O : Own G ok s₀ s a ds)
    (hv : wpAny G.M A (eval e env) (fun v s' => Aft G n A s s' ∧ Rel ok s'.heap d v) (fun _ _ => False) s) (hz : ds.length < sizeLine)
    (h : ∀ s', Fst G n A env ok ρ s₀ sT s' → Own G ok s₀ s' a (ds ++ [d]) → (∀ b ds', b ≠ a → Own G ok s₀ s b ds' → Own G ok s₀ s' b ds') → wpAny G.M A (execs rest env) Q E s')
    (he : ∀ rest : List Expr, starEach (e :: rest) env = (false, eval e env) :: starEach rest env := by intro _; rfl)
    (hbase : attributeBase (.Name (Str.ofString x) px) "append" env (eval (.Name (Str.ofString x) px) env) = eval (.Name (Str.ofString x) px) env := by rfl) (hline : (apos.endLine == pos.line) = true := by rfl)
    (hs : swapsWith (.Call (.Attribute (.Name (Str.ofString x) px) "append" apos) [e] [] pos) none epos.line env = pure false := by rfl) (h1 : (Str.ofString x == ("__debug__" : Str)) = false := by decide) (h2 : (Str.ofString x == ("__classdict__" : Str)) = false := by decide) :
    wpAny G.M A (execs (.Expr (.Call (.Attribute (.Name (Str.ofString x) px) "append" apos) [e] [] pos) epos :: rest) env) Q E s := by
  refine st_method F hm O PySem.F.slot_list_append PySem.F.type_list_append ?_ hbase hline (by rw [he]; rfl) (by rw [he]; rfl) hs h1 h2
  rw [he]
  simp only [backTo, List.map_cons]
  refine evalArgs_kw (by rfl) ?_
  simp only [spliced, Bool.false_eq_true, if_false]
  refine wpAny_bind (Ev.to hv fun v s₁ h00 => ?_)
  obtain ⟨a1, r1⟩ := h00
  refine wpAny_bind (wpAny_pure (wpAny_bind (wpAny_holding (wpAny_pure (wpAny_pure ?_)))))
  refine wpAny_evalAll_nil ⟨rfl, ?_⟩
  have O1 := O.aft F.cx a1
  obtain ⟨vs, k, hg, rr⟩ := O1.cont
  have hlen := rr.length
  refine wp_append hg (by (first | lia | omega)) fun h' k' hg' hs' => ?_
  obtain ⟨F2, O2⟩ := own_set (tk := s₁.toks) (F.aft a1) O1 hs' hg' (rr.append (RelAll.cons' r1 RelAll.nil'))
  exact h _ F2 O2 fun b ds' hb O' => (O'.aft F.cx a1).other O.nok hb hs'
theorem st_setitem {ok' : Addr → Prop} {ρ' : List (String × D)} {x : String} {px ppos pos : Pos} {e i : Expr} {a : Addr} {ds : List D} {d : D} {k : Int} (F : Fst G n A env ok ρ s₀ sT s) (hm : (x, .val (.ref a)) ∈ ρ) (O : Own G ok s₀ s a ds)
    (hS : ∀ s', Fst G n A env ok ρ s₀ sT s' → Own G ok s₀ s' a ds → Sat G ok' env ρ' s')
    (hv : Ev G n A env ok' ρ' e d) (hfl : Flat d) (hi : Ev G n A env ok' ρ' i (.int k)) (h0 : 0 ≤ k) (hk : k < ds.length) (hz : ds.length < 2 ^ 60)
    (h : ∀ s', Fst G n A env ok ρ s₀ sT s' → Own G ok s₀ s' a (ds.set k.toNat d) → wpAny G.M A (execs rest env) Q E s')
    (hs : swapsWith e (some (.Subscript (.Name (Str.ofString x) px) i ppos)) pos.line env = pure false := by rfl) (h1 : (Str.ofString x == ("__debug__" : Str)) = false := by decide) (h2 : (Str.ofString x == ("__classdict__" : Str)) = false := by decide) :
    wpAny G.M A (execs (.Assign [.Subscript (.Name (Str.ofString x) px) i ppos] e pos :: rest) env) Q E s := by
  refine st_of (wpAny_Assign_Subscript (Ev.to (hv s F.cx (hS s F O)) fun v s₁ h00 => ?_) hs)
  obtain ⟨a1, r1⟩ := h00
  have F1 := F.aft a1
  have O1 := O.aft F.cx a1
  obtain ⟨u, V, R⟩ := F1.sat.vars _ hm
  obtain rfl := R
  refine wpAny_Name (load_var F1.sat.eo.kind V h2 (Ev.to (hi s₁ F1.cx (hS s₁ F1 O1)) fun w s₂ h00 => ?_)) h1
  obtain ⟨a2, r2⟩ := h00
  obtain ⟨t, rfl⟩ := r2
  have F2 := F1.aft a2
  have O2 := O1.aft F1.cx a2
  obtain ⟨vs, j, hg, rr⟩ := O2.cont
  have hlen := rr.length
  refine wp_setItem hg h0 (by (first | lia | omega)) (by (first | lia | omega)) fun h' k' hg' hs' => ?_
  have rset : ∀ (ds : List D) (vs : List Value) (m : Nat), RelAll ok s₂.heap ds vs → RelAll ok s₂.heap (ds.set m d) (vs.set m v) := by
    intro ds
    induction ds with
    | nil => intro vs m r; simp only [RelAll] at r; subst r; simp [RelAll]
    | cons d' ds ih =>
      intro vs m r
      obtain ⟨v', vs', rfl, q1, q2⟩ := r
      cases m with
      | zero => exact RelAll.cons' (r1.flat hfl) q2
      | succ m => exact RelAll.cons' q1 (ih vs' m q2)
  obtain ⟨F3, O3⟩ := own_set (tk := s₂.toks) F2 O2 hs' hg' (rset _ _ _ rr)
  exact h _ F3 O3

/-- a comprehension set to a name of the frame -/
theorem st_comp {α : Type} {elt t iter : Expr} {ifs : List Expr} {scope : Scope} {px cpos pos : Pos} {isL : Bool} {y : String} (xs : List α) (mk : α → D) (p : α → Bool) (f : α → D) (new : α → List (String × D)) {ρc : List (String × D)} (F : Fst G n A env ok ρ s₀ sT s)
    (c₀ : ∃ m A', Cx G m A' s₀) (hsrc : Src G n A env ok ρ isL iter (xs.map mk))
    (hkind : scope.kind = .function) (hnd : (scope.names.map (·.1)).Nodup) (hfree : FreeOk scope env) (hsub : Sub scope env ρ ρc)
    (hlet : (∀ it v, letOwnedTupleGo t it v = pure ()) ∨ (isL = true ∧ (∃ es k p, t = .Tuple es k p) ∧ ∀ x ∈ xs, ∃ l, mk x = .tup l))
    (ht : ∀ cenv ok' X, IsComp scope cenv X → ∀ x ∈ xs, Tgt G n A cenv ok' X t (mk x) ρc (ρc ++ new x))
    (hif : ∀ cenv ok' X, IsComp scope cenv X → ∀ x ∈ xs, Tests G n A cenv ok' (ρc ++ new x) ifs (p x))
    (helt : ∀ cenv ok' X, IsComp scope cenv X → ∀ x ∈ xs, p x = true → Ev G n A cenv ok' (ρc ++ new x) elt (f x)) (hz : xs.length ≤ sizeLine)
    (hy : env.kindOf (Str.ofString y) = some .local) (U : Upd y (.list ((xs.filter p).map f)) ρ ρ')
    (h : ∀ s', Fst G n A env ok ρ' s₀ s' s' → OwnKeep G ok s₀ s s' → wpAny G.M A (execs rest env) Q E s')
    (hl : (px.line == cpos.line) = true := by rfl) (hnm : (scope.names.any fun (n, k) => n == Str.ofString y && (k == .local || k == .cell)) = false := by decide)
    (hs : ∀ x, foldedSetIterable iter env x = pure x := by intro _; rfl) :
    wpAny G.M A (execs (.Assign [.Name (Str.ofString y) px] (.ListComp elt [⟨t, iter, ifs, 0⟩] scope cpos) pos :: rest) env) Q E s := by
  have c := F.cx
  have S := F.sat
  have hbk : env.blockKind = .function := by unfold Env.blockKind; rw [S.eo.kind]; rfl
  have hsw : swapsWith (.ListComp elt [⟨t, iter, ifs, 0⟩] scope cpos) (some (.Name (Str.ofString y) px)) pos.line env = pure true := by
    unfold swapsWith
    show (pure (env.blockKind == .function && env.kindOf (Str.ofString y) == some .local && px.line == cpos.line && !(scope.names.any fun (n, k) => n == Str.ofString y && (k == .local || k == .cell))) : Sem Bool) = pure true
    rw [hbk, hy, hl, hnm]; rfl
  obtain ⟨cl, hcl, h1, h2⟩ := closure_ok hfree
  refine st_of ?_
  rw [exec_Assign_Name_used _ _ _ _ hsw]
  refine wpAny_bind (wpAny_standAt (wpAny_bind ?_))
  show wpAny _ A (do let _ ← comprehension (.ListComp elt [⟨t, iter, ifs, 0⟩] scope cpos) scope env _ (newList []) false (eval iter env) (some (assign (.Name (Str.ofString y) px) env))) _ _ s
  refine wpAny_bind (wpAny_mono (wpAny_comprehension_free (use := some (assign (.Name (Str.ofString y) px) env)) (Q := fun _ s' => wpAny G.M A (execs rest env) Q E s') rfl hs hcl hkind (hnames_of hnd)
    (Ev.to (hsrc s c S) fun x s₁ h₁ => Ev.to h₁ fun it s₂ h₂ => ?_)) (fun _ s' hq => wpAny_pure (wpAny_pure hq)) fun _ _ e => e)
  obtain ⟨a2, I, fp, P, St, rfl, hI, ita, st⟩ := h₂
  refine comp_core (Rr := fun acc C r s' => compPost G.M A E (some (assign (.Name (Str.ofString y) px) env)) (fun _ s' => wpAny G.M A (execs rest env) Q E s') acc C r s') xs mk p f new hkind hnd hsub hlet ht hif helt hz h1 h2 c S a2 hI ita st ?_
  intro D₀ C s' ys k hD hC e cx hnC hd hDC hr
  have F1 := F.aft ⟨e, cx⟩
  have hat : At env (Str.ofString y) env.locals := .inl ⟨hy, rfl⟩
  have hR : Rel ok s'.heap (.list ((xs.filter p).map f)) (.ref D₀) := by
    simp only [Rel]; exact ⟨D₀, ys, k, rfl, S.fresh D₀ hD, hd, hr⟩
  show wpAny _ A (assign (.Name (Str.ofString y) px) env (.ref D₀)) _ _ _
  refine assign_Name (wp_store F1.cx F1.sat hat hR U fun s'' m c' S' sol => ?_)
  have F2 : Fst G n A env ok ρ' s₀ sT s'' := ⟨c', S', F1.ext.step m fun b q => by subst q; exact F.own _ _ hat, F.own, F1.stb.trans (m.weak fun b q => .inr ⟨_, q ▸ hat⟩)⟩
  have hCl : C ≠ env.locals := fun q => by subst q; obtain ⟨m', o', es, ep, e', _⟩ := S.eo.ns; rw [hC] at e'; cases e'
  have hC9 : C ≠ 99 := c.not99 hC
  obtain ⟨mC, hnC⟩ := hnC
  have hnC' : s''.heap.Ns C mC := by
    obtain ⟨o, es, ep, e1, hd, r⟩ := hnC
    obtain ⟨sl, e2, _⟩ := m.kept C o hC9 hCl e1
    exact ⟨_, es, ep, e2, hd, r⟩
  refine ⟨mC, hnC', fun h' hs' => ?_⟩
  have hbC : G.base.get? C = none := by
    cases q : G.base.get? C with
    | none => rfl
    | some o => rw [c.stays C o q] at hC; cases hC
  have cx' : Cx G n A { s'' with heap := h' } := c.sameNew c' (s' := { s'' with heap := h' }) hC hs' (fun o vs q hd => by obtain ⟨o', es, ep, e1, hd', _⟩ := hnC'; rw [e1] at q; cases q; rw [hd'] at hd; cases hd) rfl
  have hC0 : s₀.heap.get? C = none := F.ext.kept.none hC9 hC
  have tk : Tick G n A env ok s₀ s'' { s'' with heap := h' } (· = C) s₀.gens.size := by
    refine ⟨cx', fun b o _ hb q => ⟨o.slots, by show h'.get? b = _; rw [hs'.2 b hb]; exact q, fun _ => rfl⟩, rfl, fun _ _ _ q => q, fun b q => q ▸ hC0, fun b q => q ▸ S.fresh C hC, fun q => hCl q.symm, fun x cc q hq => ?_, fun b o q e' hq => ?_, by simp⟩
    · subst hq; obtain ⟨⟨v, o', e', _⟩, _⟩ := S.eo.cells _ _ q; rw [hC] at e'; cases e'
    · subst q; obtain ⟨o', es, ep, e1, hd', _⟩ := hnC'; rw [e1] at e'; cases e'; obtain ⟨_, _, z⟩ := hq; rw [hd'] at z; cases z
  exact h _ (F2.tick tk) (((OwnKeep.aft F.cx ⟨e, cx⟩).trans fun _ _ O => O.sol sol).trans fun _ _ O => O.tick c' tk)
end
end Mine
/-! A18 -/
namespace Mine
section
variable {G : W0} {n : Nat} {A : Around} {env : Env} {ok : Addr → Prop} {ρ : List (String × D)} {s₀ sT s s' : Shared}

theorem Cx.butX (c : Cx G n A s) {X : Addr → Prop} {h₁ : Heap} {tk : Nat} (hk : ∀ b o, ¬ X b → s.heap.get? b = some o → h₁.get? b = some o) (hb : ∀ b, X b → G.base.get? b = none) (h9 : ¬ X 99)
    (hI : ∀ b o, X b → s.heap.get? b = some o → Itr o) : Cx G n A { s with heap := h₁, toks := tk } := by
  refine ⟨fun b o q => hk b o (fun h => by rw [hb b h] at q; cases q) (c.stays b o q), ?_, ?_, c.hh, c.dep, c.un, c.bare⟩
  · rcases c.tab with e | ⟨q, e, hq, r⟩
    · exact .inl (hk _ _ h9 e)
    · refine .inr ⟨q, hk _ _ h9 e, hq, ?_⟩
      obtain ⟨c', o, vs, t, e1, e2, e3, e4⟩ := r
      cases e1
      exact ⟨_, o, vs, t, rfl, hk q o (fun h => (hI q o h e2).2.2.2 vs _ _ e3 e4) e2, e3, e4⟩
  · obtain ⟨l, x, y⟩ := c.fr
    refine ⟨l, x, ?_⟩
    clear x
    induction l with
    | nil => trivial
    | cons env r ih =>
      obtain ⟨k, ⟨L, o, es, ep, b, cc, n9, d, e⟩, rr⟩ := y
      exact ⟨k, ⟨L, o, es, ep, b, cc, n9, hk L o (fun h => (hI L o h d).1 es ep e) d, e⟩, ih rr⟩

theorem itr_enum {h : Heap} {e it : Addr} {i : Int} {old : Value} (x : IsEnum h e it i old) : ∀ o, h.get? e = some o → Itr o := fun o q => by
  rw [x] at q; cases q; exact itr_fields rfl (by intro q t; simp)
theorem itr_list {h : Heap} {it l : Addr} {i : Nat} (x : h.IsListIter it l i) : ∀ o, h.get? it = some o → Itr o := fun o q => by
  obtain ⟨o', e', _, hd⟩ := x
  rw [e'] at q; cases q; exact itr_fields hd (by intro q t; simp)

/-- the places and the items of a list -/
theorem feed_enum {ds : List D} {e it l : Addr} {vs : List Value} {kk : Nat} {elts : List Expr} {kt : Nat} {pt : Pos} (c : Cx G n A s) (S : Sat G ok env ρ s) (he9 : e ≠ 99) (hi9 : it ≠ 99) (he0 : s₀.heap.get? e = none) (hi0 : s₀.heap.get? it = none) (heb : G.base.get? e = none) (hib : G.base.get? it = none) (heo : ok e) (hio : ok it)
    (hel : e ≠ env.locals) (hil : it ≠ env.locals) (hec : ∀ x c, env.cells.lookup x = some c → e ≠ c) (hic : ∀ x c, env.cells.lookup x = some c → it ≠ c) (hei : e ≠ it) (hl : ok l) (hg : s.heap.get? l = some (LO vs kk)) (hr : RelAll ok s.heap ds vs)
    (hE : IsEnum s.heap e it 0 .none) (hI : s.heap.IsListIter it l 0) :
    ∃ Nx, Feed G n A env ok s₀ (.Tuple elts kt pt) (.ref e) (fun i d => ∃ x, ds[i]? = some x ∧ d = .tup [.int i, x]) (fun i => i = ds.length) Nx ∧ Nx 0 s := by
  have hlen := hr.length
  have tick : ∀ {i : Nat} {old : Value} {s' : Shared} {h' : Heap} {tk : Nat}, Cx G n A s' → IsEnum s'.heap e it (i : Int) old → s'.heap.IsListIter it l i → (∀ b o, b ≠ e → b ≠ it → s'.heap.get? b = some o → h'.get? b = some o) → Tick G n A env ok s₀ s' { s' with heap := h', toks := tk } (fun b => b = e ∨ b = it) s₀.gens.size := fun {i old s' h' tk} cx hE hI hk => by
    have hI' : ∀ b o, (b = e ∨ b = it) → s'.heap.get? b = some o → Itr o := fun b o q h => by
      rcases q with rfl | rfl
      · exact itr_enum hE o h
      · exact itr_list hI o h
    exact ⟨cx.butX (fun b o hb q => hk b o (fun h => hb (.inl h)) (fun h => hb (.inr h)) q) (fun b q => by rcases q with rfl | rfl <;> assumption) (fun q => by rcases q with q | q; exact he9 q.symm; exact hi9 q.symm) hI', fun b o _ hb q => ⟨o.slots, hk b o (fun h => hb (.inl h)) (fun h => hb (.inr h)) q, fun _ => rfl⟩, rfl, fun _ _ _ q => q,
      fun b q => by rcases q with rfl | rfl <;> assumption, fun b q => by rcases q with rfl | rfl <;> assumption, fun q => by rcases q with q | q; exact hel q.symm; exact hil q.symm, fun x cc q h => by rcases h with h | h; exact hec x cc q h.symm; exact hic x cc q h.symm, fun b o q h hs => (hI' b o q h).2.2.1 hs, by simp⟩
  refine ⟨fun i s' => i ≤ ds.length ∧ (∃ old, IsEnum s'.heap e it (i : Int) old) ∧ s'.heap.IsListIter it l i ∧ ∀ b o, ok b → IsSeq o → s.heap.get? b = some o → s'.heap.get? b = some o, ⟨fun i s' cx hfr ⟨hi, ⟨old, hE'⟩, hI', kp⟩ => ?_, fun i s' s'' cx ⟨hi, ⟨old, hE'⟩, hI', kp⟩ cx' m => ?_, fun i s' Q E ⟨_, ⟨old, hE'⟩, _⟩ hQ => wpAny_pyIter_enum hE' hQ⟩, Nat.zero_le _, ⟨_, hE⟩, hI, fun _ _ _ _ e => e⟩
  · have hg' := kp l _ hl ⟨_, _, rfl⟩ hg
    by_cases hlt : i < ds.length
    · obtain ⟨v, ev, rv⟩ := hr.get (List.getElem?_eq_getElem hlt)
      refine wpAny_pyNext_enum_item hE' hI' (LO.isList hg') (x := v) (by simpa using ev) hei fun h₁ heo' hit₁ ht₁ hz₁ hk₁ => ?_
      have t1 := tick (tk := s'.toks + 1) cx hE' hI' hk₁
      refine wpAny_letOwnedTupleGo_enum heo' fun h₂ he₂ hs₂ => ?_
      have hk₂ : ∀ b o, b ≠ e → b ≠ it → s'.heap.get? b = some o → h₂.get? b = some o := fun b o h1 h2 q => by rw [hs₂.2 b h1]; exact hk₁ b o h1 h2 q
      have t2 := tick (tk := s'.toks + 1) cx hE' hI' hk₂
      have hTe : s'.heap.objs.size ≠ e := fun q => absurd (Heap.lt_size hE') (by rw [q]; exact Nat.lt_irrefl _)
      refine ⟨⟨_, _, t2⟩, _, ⟨_, List.getElem?_eq_getElem hlt, rfl⟩, ?_, hlt, ⟨_, he₂⟩, ?_, fun b o hb hs q => t2.seq cx hs (kp b o hb hs q)⟩
      · simp only [Rel]
        refine ⟨s'.heap.objs.size, [.int i s'.toks, v], 0, rfl, hfr _ no_get, by show h₂.get? _ = _; rw [hs₂.2 _ hTe]; exact ht₁, RelAll.cons' ⟨_, rfl⟩ (RelAll.cons' (Rel.mono (fun b o hb q hs => ⟨hb, t2.seq cx hs (kp b o hb hs q)⟩) _ _ rv) RelAll.nil')⟩
      · obtain ⟨o, e1, e2, e3⟩ := hit₁
        exact ⟨o, by show h₂.get? _ = _; rw [hs₂.2 it hei.symm]; exact e1, e2, e3⟩
    · have hin : i = ds.length := by (first | lia | omega)
      subst hin
      refine wpAny_pyNext_enum_end cx.hh hE' hI' (LO.isList hg') (by simp; (first | lia | omega)) fun h₁ he₁ => ?_
      exact ⟨rfl, _, _, tick (tk := s'.toks) cx hE' hI' fun b o h1 h2 q => he₁ b o h2 q⟩
  · have seqAt : ∀ b o, ok b → IsSeq o → s.heap.get? b = some o → ¬ Mine.Local env ok b := fun b o hb hs e h => by
      rcases h with h | ⟨x, ⟨_, rfl⟩ | ⟨_, q⟩⟩
      · exact h hb
      · obtain ⟨m', o', es, ep, e', hd, _⟩ := S.eo.ns
        rw [e] at e'; cases e'; obtain ⟨_, _, z⟩ := hs; rw [hd] at z; cases z
      · obtain ⟨⟨v, o', e', hd⟩, _⟩ := S.eo.cells _ _ q
        rw [e] at e'; cases e'; obtain ⟨_, _, z⟩ := hs; rw [hd] at z; cases z
    have nl : ∀ b, ok b → b ≠ env.locals → (∀ x c, env.cells.lookup x = some c → b ≠ c) → ¬ Mine.Local env ok b := fun b h1 h2 h3 q => by
      rcases q with h | ⟨x, ⟨_, q⟩ | ⟨_, q⟩⟩
      · exact h h1
      · exact h2 q
      · exact h3 _ _ q rfl
    refine ⟨hi, ⟨old, m.get he9 (nl e heo hel hec) (itr_enum hE' _ hE').1 hE'⟩, ?_, fun b o hb hs e => m.get (ne_tab cx.tab (kp b o hb hs e) hs.nf) (seqAt b o hb hs e) hs.nd (kp b o hb hs e)⟩
    obtain ⟨o, e1, e2, e3⟩ := id hI'
    exact ⟨o, m.get hi9 (nl it hio hil hic) (itr_list hI' _ e1).1 e1, e2, e3⟩

/-- for place, item in enumerate(list) -/
theorem wp_enum {func : Str} {fpos pos : Pos} {e : Expr} {elts : List Expr} {kt : Nat} {pt : Pos} {ρ' : List (String × D)} {ds : List D} {J : Shared → Prop} (F : Fst G n A env ok ρ s₀ sT s) (S : Sat G ok env ρ' s) (hf : Blt G n A env ok ρ' func fpos (.type "enumerate")) (h : Ev G n A env ok ρ' e (.list ds))
    (hJ : ∀ s', Aft G n A s s' → J s')
    (he : ∀ rest : List Expr, starEach (e :: rest) env = (false, eval e env) :: starEach rest env := by intro _; rfl) (hp : (starEach [e] env).any (·.1) = false := by rfl) :
    wpAny G.M A (eval (.Call (.Name func fpos) [e] [] pos) env) (fun x s₁ => wpAny G.M A (pyIter x) (fun it s₂ => ∃ Nx, Feed G n A env ok s₀ (.Tuple elts kt pt) it (fun i d => ∃ x, ds[i]? = some x ∧ d = .tup [.int i, x]) (fun i => i = ds.length) Nx ∧ Nx 0 s₂ ∧ J s₂) (fun _ _ => False) s₁) (fun _ _ => False) s := by
  refine wp_callT F.cx S hf (evs_one h he) (fun s₁ vs a1 S1 r => ?_) ⟨_, _, rfl, he⟩ hp
  obtain ⟨_, _, rfl, ⟨l, ws, k, rfl, hl, hg, rr⟩, rfl⟩ := r
  refine call_enumerate_1 hg fun h' hE hI hz hk => wpAny_pyIter_enum hE ?_
  have a2 := a1.2.keeps (h' := h') (tk := s₁.toks) hk
  have aa := a1.trans a2
  have nn : ∀ b, s₁.heap.objs.size ≤ b → s₁.heap.get? b = none := fun b hb => by
    cases q : s₁.heap.get? b with
    | none => rfl
    | some o => exact absurd (Heap.lt_size q) (Nat.not_lt.mpr hb)
  have ns : ∀ b, s₁.heap.objs.size ≤ b → s.heap.get? b = none := fun b hb => back_none a1 (nn b hb)
  have n0 : ∀ b, s₁.heap.objs.size ≤ b → s₀.heap.get? b = none := fun b hb => F.ext.kept.none (F.cx.not99 (ns b hb)) (ns b hb)
  have nb : ∀ b, s₁.heap.objs.size ≤ b → G.base.get? b = none := fun b hb => by
    cases q : G.base.get? b with
    | none => rfl
    | some o => rw [← ns b hb, F.cx.stays b o q]
  have nl : ∀ b, s₁.heap.objs.size ≤ b → b ≠ env.locals := fun b hb q => by
    subst q; obtain ⟨m', o', es, ep, e', _⟩ := S.eo.ns; rw [ns _ hb] at e'; cases e'
  have nc : ∀ b, s₁.heap.objs.size ≤ b → ∀ x c, env.cells.lookup x = some c → b ≠ c := fun b hb x c q h => by
    subst h; obtain ⟨⟨v, o', e', _⟩, _⟩ := S.eo.cells _ _ q; rw [ns _ hb] at e'; cases e'
  have h1 := Nat.le_refl s₁.heap.objs.size
  have h2 := Nat.le_succ s₁.heap.objs.size
  have hg' := hk _ _ hg
  obtain ⟨Nx, fd, h0⟩ := feed_enum (G := G) (s₀ := s₀) (elts := elts) (kt := kt) (pt := pt) (e := s₁.heap.objs.size + 1) (it := s₁.heap.objs.size) aa.2 (S.aft F.cx aa) (F.cx.not99 (ns _ h2)) (F.cx.not99 (ns _ h1)) (n0 _ h2) (n0 _ h1) (nb _ h2) (nb _ h1) (S.fresh _ (ns _ h2)) (S.fresh _ (ns _ h1)) (nl _ h2) (nl _ h1) (nc _ h2) (nc _ h1) (Nat.ne_of_gt (Nat.lt_succ_self _)) hl hg' (rr.kept a1.2.tab a2.1.kept) hE hI
  exact ⟨Nx, fd, h0, hJ _ aa⟩
end
end Mine
/-! A19 -/
namespace Mine
section
variable {G : W0} {n : Nat} {A : Around} {env : Env} {ok : Addr → Prop} {ρ : List (String × D)} {s₀ sT s s' : Shared} {Q : Flow → Shared → Prop} {E : Value → Shared → Prop} {rest : List Stmt}

noncomputable abbrev But (ok : Addr → Prop) (a : Addr) : Addr → Prop := fun b => ok b ∧ b ≠ a
theorem Rel.but {a : Addr} {d : D} {v : Value} (c : Cx G n A s) (k : Kept s.heap s'.heap) (ha : s.heap.get? a = none) (r : Rel ok s.heap d v) : Rel (But ok a) s'.heap d v :=
  Rel.mono (fun b o hb e hs => ⟨⟨hb, fun q => by subst q; rw [ha] at e; cases e⟩, k.get (ne_tab c.tab e hs.nf) e hs.nd⟩) _ _ r
theorem RelAll.but {a : Addr} {d : List D} {v : List Value} (c : Cx G n A s) (k : Kept s.heap s'.heap) (ha : s.heap.get? a = none) (r : RelAll ok s.heap d v) : RelAll (But ok a) s'.heap d v :=
  RelAll.mono (fun b o hb e hs => ⟨⟨hb, fun q => by subst q; rw [ha] at e; cases e⟩, k.get (ne_tab c.tab e hs.nf) e hs.nd⟩) _ _ r
theorem Fst.apart {a : Addr} {o : Obj} (F : Fst G n A env ok ρ s₀ sT s) (x : Aft G n A s s') (ha : s.heap.get? a = none) (hg : s'.heap.get? a = some o) : Fst G n A env (But ok a) ρ s₀ s' s' := by
  have F' := F.aft x
  refine ⟨F'.cx, ⟨F'.sat.eo, fun b q => ⟨F'.sat.fresh b q, fun h => by subst h; rw [hg] at q; cases q⟩, fun p hp => ?_⟩, F'.ext, F'.own, .refl _⟩
  obtain ⟨v, V, R⟩ := F.sat.vars p hp
  exact ⟨v, V.kept F.cx.tab x.1.kept, R.but F.cx x.1.kept ha⟩
theorem Own.apart {a b : Addr} {ds : List D} (c : Cx G n A s) (x : Aft G n A s s') (ha : s.heap.get? a = none) (O : Own G ok s₀ s b ds) : Own G (But ok a) s₀ s' b ds := by
  obtain ⟨vs, k, hg, rr⟩ := O.cont
  exact ⟨⟨vs, k, x.1.kept.get (ne_tab c.tab hg (IsSeq.nf ⟨_, _, rfl⟩)) hg (IsSeq.nd ⟨_, _, rfl⟩), rr.but c x.1.kept ha⟩, fun h => O.nok h.1, O.new, O.base⟩
/-- new here, new before -/
theorem Fst.old (F : Fst G n A env ok ρ s₀ sT s) {a : Addr} (ha : s.heap.get? a = none) : s₀.heap.get? a = none ∧ G.base.get? a = none := by
  refine ⟨F.ext.kept.none (F.cx.not99 ha) ha, ?_⟩
  cases q : G.base.get? a with
  | none => rfl
  | some o => rw [← ha, F.cx.stays a o q]

/-- an expression that makes a list of its own -/
noncomputable def Evf (G : W0) (n : Nat) (A : Around) (env : Env) (ok : Addr → Prop) (e : Expr) (ds : List D) (s : Shared) : Prop :=
  wpAny G.M A (eval e env) (fun v s' => Aft G n A s s' ∧ ∃ a vs k, v = .ref a ∧ s.heap.get? a = none ∧ s'.heap.get? a = some (LO vs k) ∧ RelAll (But ok a) s'.heap ds vs) (fun _ _ => False) s
theorem evf_of {es : List Expr} {p : Pos} {ds : List D} (c : Cx G n A s) (S : Sat G ok env ρ s) (h : Evs G n A env ok ρ es ds) (hz : ds.length ≤ sizeLine := by decide) : Evf G n A env ok (.List es p) ds s := by
  refine List_ (Ev.to (h p s c S) fun vs s₁ h00 => ?_)
  obtain ⟨a1, r1⟩ := h00
  have key := new_list a1.2 (S.aft c a1).fresh r1
  refine wpAny_newObj_type ⟨a1.trans key.1, s₁.heap.objs.size, vs, 0, rfl, back_none a1 no_get, Heap.get?_push_size _ rfl, r1.but a1.2 key.1.1.kept no_get⟩ (by show vs.toArray.size ≤ sizeLine; simp [r1.length]; exact hz)
theorem evf_listL {func : Str} {fpos pos : Pos} {e : Expr} {ds : List D} (c : Cx G n A s) (S : Sat G ok env ρ s) (hf : Blt G n A env ok ρ func fpos (.type "list")) (h : Ev G n A env ok ρ e (.list ds)) (hz : ds.length ≤ sizeLine)
    (he : ∀ rest : List Expr, starEach (e :: rest) env = (false, eval e env) :: starEach rest env := by intro _; rfl) (hp : (starEach [e] env).any (·.1) = false := by rfl) : Evf G n A env ok (.Call (.Name func fpos) [e] [] pos) ds s := by
  refine wp_callT c S hf (evs_one h he) (fun s₁ vs a1 S1 r => ?_) ⟨_, _, rfl, he⟩ hp
  obtain ⟨_, _, rfl, r0, rfl⟩ := r
  obtain ⟨a, ws, k, rfl, _, hg, rr⟩ := r0
  have hlen := rr.length
  refine call_list_seq a (T := "list") (.inl rfl) hg rfl rfl (fun h' c' hk hg' => ?_) (by simp; (first | lia | omega))
  have a2 := a1.2.keeps (h' := h') (tk := s₁.toks) hk
  exact ⟨a1.trans a2, _, ws, c', rfl, back_none a1 no_get, hg', rr.but a1.2 a2.1.kept no_get⟩

/-- that list set to a name -/
theorem st_own {x : String} {px pos : Pos} {e : Expr} {ds : List D} {ρ' : Addr → List (String × D)} (F : Fst G n A env ok ρ s₀ sT s) (hv : Evf G n A env ok e ds s) (hx : ∃ a, At env (Str.ofString x) a) (U : ∀ a, Upd x (.val (.ref a)) ρ (ρ' a))
    (h : ∀ s' a, Fst G n A env (But ok a) (ρ' a) s₀ s' s' → Own G (But ok a) s₀ s' a ds → (∀ b ds', Own G ok s₀ s b ds' → Own G (But ok a) s₀ s' b ds') → wpAny G.M A (execs rest env) Q E s') (hs : swapsWith e (some (.Name (Str.ofString x) px)) pos.line env = pure false := by rfl) :
    wpAny G.M A (execs (.Assign [.Name (Str.ofString x) px] e pos :: rest) env) Q E s := by
  refine st_of (wpAny_Assign_Name (Ev.to hv fun v s₁ h00 => ?_) hs)
  obtain ⟨a1, a, vs, k, ev, ha, hg, r⟩ := h00
  subst ev
  have F1 := F.apart a1 ha hg
  obtain ⟨h0, hb⟩ := F.old ha
  have O1 : Own G (But ok a) s₀ s₁ a ds := ⟨⟨vs, k, hg, r⟩, fun h => h.2 rfl, h0, hb⟩
  exact F1.store hx (d := .val (.ref a)) (by simp only [Rel]) (U a) fun s' F' sol => h s' a F'.reset (O1.sol sol) fun b ds' O => (O.apart F.cx a1 ha).sol sol

/-- the usual invariant of a for-loop that works on one list -/
theorem st_for1 {t iter : Expr} {body orelse : List Stmt} {pos : Pos} {val : Nat → D → Prop} {fin : Nat → Prop} {a : Addr} (L : Nat → List D) (N : Nat)
    (hsrc : wpAny G.M A (eval iter env) (fun x s₁ => wpAny G.M A (pyIter x) (fun it s₂ => ∃ Nx, Feed G n A env ok s₀ t it val fin Nx ∧ Nx 0 s₂ ∧ Fst G n A env ok ρ s₀ s₂ s₂ ∧ Own G ok s₀ s₂ a (L 0)) (fun _ _ => False) s₁) (fun _ _ => False) s)
    (hN : ∀ i d, val i d → i < N)
    (turn : ∀ i d s₁ v, val i d → Fst G n A env ok ρ s₀ s₁ s₁ → Own G ok s₀ s₁ a (L i) → Rel ok s₁.heap d v → wpAny G.M A (assign t env v) (fun _ s₂ => wpAny G.M A (execs body env) (fun f s₃ => match f with
      | .next | .cont => Fst G n A env ok ρ s₀ s₁ s₃ ∧ Own G ok s₀ s₃ a (L (i + 1))
      | .brk => wpAny G.M A (execs rest env) Q E s₃
      | .ret v => Q (.ret v) s₃) (fun _ _ => False) s₂) (fun _ _ => False) s₁)
    (hend : ∀ i s', fin i → Fst G n A env ok ρ s₀ s' s' → Own G ok s₀ s' a (L i) → wpAny G.M A (execs orelse env) (Nxt G A env rest Q E) (fun _ _ => False) s')
    (hs : ∀ x, foldedSetIterable iter env x = pure x := by intro _; rfl) :
    wpAny G.M A (execs (.For t iter body orelse pos :: rest) env) Q E s :=
  st_for (fun i sT s => i ≤ N ∧ Fst G n A env ok ρ s₀ sT s ∧ Own G ok s₀ s a (L i)) N (Ev.to hsrc fun x s₁ h => Ev.to h fun it s₂ ⟨Nx, fd, h0, F, O⟩ => ⟨Nx, fd, h0, Nat.zero_le _, F, O⟩)
    (fun i sT s ⟨_, F, _⟩ => ⟨F.cx, F.stb, F.sat.fresh⟩) (fun i sT s s' X gi ⟨h, F, O⟩ tk => ⟨h, F.tick tk, O.tick F.cx tk⟩) (fun i sT s ⟨h, _⟩ => h)
    (fun i d s₁ v hv ⟨_, F, O⟩ r => Ev.to (turn i d s₁ v hv F O r) fun _ s₂ h₂ => Ev.to h₂ fun f s₃ h₃ => by
      cases f with
      | next => exact ⟨hN i d hv, h₃⟩
      | cont => exact ⟨hN i d hv, h₃⟩
      | brk => exact h₃
      | ret v => exact h₃)
    (fun i s' hf ⟨_, F, O⟩ => hend i s' hf F O) hs

/-- the same, other names turning too -/
theorem st_for2 {t iter : Expr} {body orelse : List Stmt} {pos : Pos} {val : Nat → D → Prop} {fin : Nat → Prop} {a : Addr} (ρs : Nat → List (String × D)) (L : Nat → List D) (P : Nat → Prop) (N : Nat)
    (hsrc : wpAny G.M A (eval iter env) (fun x s₁ => wpAny G.M A (pyIter x) (fun it s₂ => ∃ Nx, Feed G n A env ok s₀ t it val fin Nx ∧ Nx 0 s₂ ∧ Fst G n A env ok (ρs 0) s₀ s₂ s₂ ∧ Own G ok s₀ s₂ a (L 0)) (fun _ _ => False) s₁) (fun _ _ => False) s)
    (hP : P 0) (hN : ∀ i, P i → i ≤ N)
    (turn : ∀ i d s₁ v, val i d → P i → Fst G n A env ok (ρs i) s₀ s₁ s₁ → Own G ok s₀ s₁ a (L i) → Rel ok s₁.heap d v → wpAny G.M A (assign t env v) (fun _ s₂ => wpAny G.M A (execs body env) (fun f s₃ => match f with
      | .next | .cont => P (i + 1) ∧ Fst G n A env ok (ρs (i + 1)) s₀ s₁ s₃ ∧ Own G ok s₀ s₃ a (L (i + 1))
      | .brk => wpAny G.M A (execs rest env) Q E s₃
      | .ret v => Q (.ret v) s₃) (fun _ _ => False) s₂) (fun _ _ => False) s₁)
    (hend : ∀ i s', fin i → P i → Fst G n A env ok (ρs i) s₀ s' s' → Own G ok s₀ s' a (L i) → wpAny G.M A (execs orelse env) (Nxt G A env rest Q E) (fun _ _ => False) s')
    (hs : ∀ x, foldedSetIterable iter env x = pure x := by intro _; rfl) :
    wpAny G.M A (execs (.For t iter body orelse pos :: rest) env) Q E s :=
  st_for (fun i sT s => P i ∧ Fst G n A env ok (ρs i) s₀ sT s ∧ Own G ok s₀ s a (L i)) N (Ev.to hsrc fun x s₁ h => Ev.to h fun it s₂ ⟨Nx, fd, h0, F, O⟩ => ⟨Nx, fd, h0, hP, F, O⟩)
    (fun i sT s ⟨_, F, _⟩ => ⟨F.cx, F.stb, F.sat.fresh⟩) (fun i sT s s' X gi ⟨h, F, O⟩ tk => ⟨h, F.tick tk, O.tick F.cx tk⟩) (fun i sT s ⟨h, _⟩ => hN i h)
    (fun i d s₁ v hv ⟨h, F, O⟩ r => turn i d s₁ v hv h F O r)
    (fun i s' hf ⟨h, F, O⟩ => hend i s' hf h F O) hs

/-- a loop's target -/
theorem Fst.assign {t : Expr} {d : D} {v : Value} {ρ' : List (String × D)} {Q : Unit → Shared → Prop} {E : Value → Shared → Prop} (F : Fst G n A env ok ρ s₀ sT s) (T : Tgt G n A env ok (fun a => ∃ x, At env x a) t d ρ ρ') (r : Rel ok s.heap d v)
    (h : ∀ s', Fst G n A env ok ρ' s₀ sT s' → OwnKeep G ok s₀ s s' → Q () s') : wpAny G.M A (assign t env v) Q E s :=
  Ev.to (T s v F.cx F.sat r) fun _ s' ⟨m, c, S, k⟩ => h s' ⟨c, S, F.ext.step m fun b ⟨x, hx⟩ => F.own x b hx, F.own, F.stb.trans (m.weak fun b hb => .inr hb)⟩ fun _ _ O => O.sol k
theorem tgtN {x : String} {pos : Pos} {d : D} {ρ' : List (String × D)} (hx : ∃ a, At env (Str.ofString x) a) (U : Upd x d ρ ρ') : Tgt G n A env ok (fun a => ∃ x, At env x a) (.Name (Str.ofString x) pos) d ρ ρ' :=
  tgt_name (let ⟨a, h⟩ := hx; ⟨a, h, _, h⟩) U
theorem RelAll.flat' {ok ok' : Addr → Prop} {h h' : Heap} : ∀ {ds : List D} {vs : List Value}, (∀ d ∈ ds, Flat d) → RelAll ok h ds vs → RelAll ok' h' ds vs
  | [], _, _, r => by simpa only [RelAll] using r
  | d :: ds, _, hf, r => by
    obtain ⟨v, t, rfl, h1, h2⟩ := r
    exact RelAll.cons' (h1.flat (hf d List.mem_cons_self)) (RelAll.flat' (fun d hd => hf d (List.mem_cons_of_mem _ hd)) h2)
/-- the frame's list handed back -/
theorem st_retown {x : String} {px pos : Pos} {a : Addr} {ds : List D} (F : Fst G n A env ok ρ s₀ sT s) (O : Own G ok s₀ s a ds) (hm : (x, .val (.ref a)) ∈ ρ) (hfl : ∀ d ∈ ds, Flat d)
    (h : ∀ s' v, Fst G n A env ok ρ s₀ sT s' → Rel (fun b => s₀.heap.get? b = none) s'.heap (.list ds) v → Q (.ret v) s') (h1 : (Str.ofString x == ("__debug__" : Str)) = false := by decide) (h2 : (Str.ofString x == ("__classdict__" : Str)) = false := by decide) :
    wpAny G.M A (execs (.Return (some (.Name (Str.ofString x) px)) pos :: rest) env) Q E s := by
  refine wpAny_execs_cons (wpAny_Return_some (Ev.to (F.ev (ev_name hm h1 h2)) fun v s' h00 => ?_))
  obtain ⟨x, r⟩ := h00
  obtain ⟨vs, k, hg, rr⟩ := (O.aft F.cx x).cont
  obtain rfl := r
  exact h s' _ (F.aft x) (by simp only [Rel]; exact ⟨a, vs, k, rfl, O.new, hg, RelAll.flat' hfl rr⟩)
end
end Mine
/-! A20 -/
namespace Mine
section
variable {G : W0} {n : Nat} {A : Around} {env : Env} {ok : Addr → Prop} {ρ : List (String × D)} {s₀ sT s s' : Shared} {Q : Flow → Shared → Prop} {E : Value → Shared → Prop} {rest : List Stmt}

/-- a pair made -/
theorem wp_pair {e1 e2 : Expr} {k : Nat} {p : Pos} {R : Value → Value → Shared → Prop} {Q : Value → Shared → Prop} (h : wpAny G.M A (eval e1 env) (fun v1 s₁ => wpAny G.M A (eval e2 env) (fun v2 s₂ => R v1 v2 s₂) (fun _ _ => False) s₁) (fun _ _ => False) s)
    (hQ : ∀ v1 v2 s₂, R v1 v2 s₂ → Q (.ref s₂.heap.objs.size) { s₂ with heap := s₂.heap.push (TO [v1, v2] 0) })
    (he : starEach [e1, e2] env = [(false, eval e1 env), (false, eval e2 env)] := by rfl) : wpAny G.M A (eval (.Tuple [e1, e2] k p) env) Q E s := by
  refine Tuple_ ?_
  rw [he]
  simp only [backTo, List.map_cons, List.map_nil, spliced, Bool.false_eq_true, if_false]
  refine wpAny_bind (Ev.to h fun v1 s₁ h₁ => ?_)
  refine wpAny_bind (wpAny_pure (wpAny_bind (wpAny_holding (wpAny_bind (Ev.to h₁ fun v2 s₂ h₂ => ?_)))))
  refine wpAny_bind (wpAny_pure (wpAny_bind (wpAny_holding (wpAny_pure (wpAny_pure (wpAny_pure ?_))))))
  refine wpAny_newObj_type (hQ v1 v2 s₂ h₂) (by show ([v1, v2] : List Value).toArray.size ≤ sizeLine; simp [sizeLine])

/-- two names set to a pair, one after the other -/
theorem st_pair {x y : String} {px py tp pos : Pos} {k : Nat} {value : Expr} {K : Value → Value → Shared → Prop} (hh : A.handled = none)
    (hv : wpAny G.M A (eval value env) (fun v s' => ∃ v1 v2 T j, v = .ref T ∧ s'.heap.get? T = some (TO [v1, v2] j) ∧ K v1 v2 s') (fun _ _ => False) s)
    (hK : ∀ v1 v2 s' h', K v1 v2 s' → (∀ b o, s'.heap.get? b = some o → h'.get? b = some o) → wpAny G.M A (storeName env (Str.ofString x) v1) (fun _ s₃ => wpAny G.M A (storeName env (Str.ofString y) v2) (fun _ s₄ => wpAny G.M A (execs rest env) Q E s₄) (fun _ _ => False) s₃) (fun _ _ => False) { s' with heap := h' })
    (hw : swappedStores [.Tuple [.Name (Str.ofString x) px, .Name (Str.ofString y) py] k tp] value env = pure none) (hs : swapsWithSole [.Tuple [.Name (Str.ofString x) px, .Name (Str.ofString y) py] k tp] value pos.line env = pure false := by rfl) :
    wpAny G.M A (execs (.Assign [.Tuple [.Name (Str.ofString x) px, .Name (Str.ofString y) py] k tp] value pos :: rest) env) Q E s := by
  refine st_of (Assign_Tuple (Ev.to hv fun v s₁ h00 => ?_) hs hw)
  obtain ⟨v1, v2, T, j, ev, hg, hk⟩ := h00
  subst ev
  refine assign_Tuple_tuple hh (TO.isTup hg) (by rfl) (by rfl) fun h' hx => ?_
  have hk' := hK v1 v2 s₁ h' hk fun b o e => hx b o (Nat.ne_of_lt (Heap.lt_size e)) e
  refine assignInOrder_cons (assign_Name (Ev.to hk' fun _ s₃ h₃ => assignInOrder_cons (assign_Name (Ev.to h₃ fun _ s₄ h₄ => assignInOrder_nil h₄))))
/-- the same, the stores swapped -/
theorem st_pairS {x y : String} {px py tp pos : Pos} {k : Nat} {value : Expr} {K : Value → Value → Shared → Prop} (hh : A.handled = none)
    (hv : wpAny G.M A (eval value env) (fun v s' => ∃ v1 v2 T j, v = .ref T ∧ s'.heap.get? T = some (TO [v1, v2] j) ∧ K v1 v2 s') (fun _ _ => False) s)
    (hK : ∀ v1 v2 s' h', K v1 v2 s' → (∀ b o, s'.heap.get? b = some o → h'.get? b = some o) → wpAny G.M A (storeName env (Str.ofString y) v2) (fun _ s₃ => wpAny G.M A (storeName env (Str.ofString x) v1) (fun _ s₄ => wpAny G.M A (execs rest env) Q E s₄) (fun _ _ => False) s₃) (fun _ _ => False) { s' with heap := h' })
    (hw : swappedStores [.Tuple [.Name (Str.ofString x) px, .Name (Str.ofString y) py] k tp] value env = pure (some [Str.ofString x, Str.ofString y])) (hs : swapsWithSole [.Tuple [.Name (Str.ofString x) px, .Name (Str.ofString y) py] k tp] value pos.line env = pure false := by rfl) :
    wpAny G.M A (execs (.Assign [.Tuple [.Name (Str.ofString x) px, .Name (Str.ofString y) py] k tp] value pos :: rest) env) Q E s := by
  refine st_of (Assign_Tuple_swapped (Ev.to hv fun v s₁ h00 => ?_) hs hw)
  obtain ⟨v1, v2, T, j, ev, hg, hk⟩ := h00
  subst ev
  have hu := unpackItems_tuple (A := A) (prog := prg) (w := G.w) (E := E) (Q := fun items s' => wpAny G.M A (assignInOrder (([Str.ofString x, Str.ofString y] : List Str).reverse.map fun n => bindName env n) items.reverse) (fun _ => Nxt G A env rest Q E .next) E s') hh (TO.isTup hg) fun h' hx => ?_
  · exact hu
  have hk' := hK v1 v2 s₁ h' hk fun b o e => hx b o (Nat.ne_of_lt (Heap.lt_size e)) e
  show wpAny G.M A (assignInOrder [bindName env (Str.ofString y), bindName env (Str.ofString x)] [v2, v1]) _ E _
  refine assignInOrder_cons (wpAny_bindName (Ev.to hk' fun _ s₃ h₃ => assignInOrder_cons (wpAny_bindName (Ev.to h₃ fun _ s₄ h₄ => assignInOrder_nil h₄))))

/-- which way the stores go -/
theorem swapped_no {x y : String} {px py tp p2 : Pos} {k k2 : Nat} {e1 e2 : Expr} (hb : env.blockKind = .function) (h : env.kindOf (Str.ofString x) = some .cell) : swappedStores [.Tuple [.Name (Str.ofString x) px, .Name (Str.ofString y) py] k tp] (.Tuple [e1, e2] k2 p2) env = pure none := by
  unfold swappedStores
  have e : (env.kindOf (Str.ofString x) == some NameKind.local) = false := by rw [h]; rfl
  simp only [List.filterMap_cons, List.filterMap_nil, e, Bool.false_and, hb]
  split
  · rfl
  · split
    · rfl
    · generalize (env.kindOf (Str.ofString y) == some NameKind.local && py.line == (Option.map (fun x => x.pos.line) [Expr.Name (Str.ofString x) px, Expr.Name (Str.ofString y) py].head?).getD 0) = b
      cases b <;> rfl
theorem swapped_yes {x y : String} {px py tp p2 : Pos} {k k2 : Nat} {e1 e2 : Expr} (hb : env.blockKind = .function) (hx : env.kindOf (Str.ofString x) = some .local) (hy : env.kindOf (Str.ofString y) = some .local)
    (hxy : (Str.ofString x == Str.ofString y) = false) (hl : (py.line == px.line) = true) (hs1 : (match e1 with | .Starred .. => true | _ => false) = false) (hs2 : (match e2 with | .Starred .. => true | _ => false) = false) (hf : [e1, e2].all (foldedForSure 8) = false) (hc : [e1, e2].all (constantsAlone 8) = false) :
    swappedStores [.Tuple [.Name (Str.ofString x) px, .Name (Str.ofString y) py] k tp] (.Tuple [e1, e2] k2 p2) env = pure (some [Str.ofString x, Str.ofString y]) := by
  unfold swappedStores
  have e : (env.kindOf (Str.ofString x) == some NameKind.local) = true := by rw [hx]; rfl
  have e' : (env.kindOf (Str.ofString y) == some NameKind.local) = true := by rw [hy]; rfl
  have el : ((px.line == px.line)) = true := beq_self_eq_true _
  have hxy' : (Str.ofString y == Str.ofString x) = false := by
    cases q : Str.ofString y == Str.ofString x with
    | false => rfl
    | true => rw [beq_iff_eq.mp q, beq_self_eq_true] at hxy; cases hxy
  simp only [List.filterMap_cons, List.filterMap_nil, e, e', hb, List.head?_cons, Option.map_some, Option.getD_some, show (Expr.Name (Str.ofString x) px).pos = px from rfl, el, hl, Bool.and_self, if_true, hf, hc]
  have : ([Str.ofString x, Str.ofString y].eraseDups).length = 2 := by
    simp [List.eraseDups, List.eraseDupsBy, List.eraseDupsBy.loop, hxy']
  simp [this]
  intro hq
  exfalso
  rcases hq with q | q
  · exact absurd (q.symm.trans hs1) nofun
  · exact absurd (q.symm.trans hs2) nofun

/-- a comprehension's list is new -/
theorem evn_comp {α : Type} {elt t iter : Expr} {ifs : List Expr} {scope : Scope} {pos : Pos} {isL : Bool} (xs : List α) (mk : α → D) (p : α → Bool) (f : α → D) (new : α → List (String × D)) {ρc : List (String × D)}
    (hsrc : Src G n A env ok ρ isL iter (xs.map mk))
    (hkind : scope.kind = .function) (hnd : (scope.names.map (·.1)).Nodup) (hfree : FreeOk scope env) (hsub : Sub scope env ρ ρc)
    (hlet : (∀ it v, letOwnedTupleGo t it v = pure ()) ∨ (isL = true ∧ (∃ es k p, t = .Tuple es k p) ∧ ∀ x ∈ xs, ∃ l, mk x = .tup l))
    (ht : ∀ cenv ok' X, IsComp scope cenv X → ∀ x ∈ xs, Tgt G n A cenv ok' X t (mk x) ρc (ρc ++ new x))
    (hif : ∀ cenv ok' X, IsComp scope cenv X → ∀ x ∈ xs, Tests G n A cenv ok' (ρc ++ new x) ifs (p x))
    (helt : ∀ cenv ok' X, IsComp scope cenv X → ∀ x ∈ xs, p x = true → Ev G n A cenv ok' (ρc ++ new x) elt (f x)) (hz : xs.length ≤ sizeLine) (c : Cx G n A s) (S : Sat G ok env ρ s)
    (hs : ∀ x, foldedSetIterable iter env x = pure x := by intro _; rfl) :
    wpAny G.M A (eval (.ListComp elt [⟨t, iter, ifs, 0⟩] scope pos) env) (fun v s' => Aft G n A s s' ∧ ∃ a vs k, v = .ref a ∧ s.heap.get? a = none ∧ s'.heap.get? a = some (LO vs k) ∧ RelAll ok s'.heap ((xs.filter p).map f) vs) (fun _ _ => False) s := by
  obtain ⟨cl, hcl, h1, h2⟩ := closure_ok hfree
  rw [eval_ListComp]
  refine wpAny_comprehension_free (use := none) rfl hs hcl hkind (hnames_of hnd) (Ev.to (hsrc s c S) fun x s₁ h₁ => Ev.to h₁ fun it s₂ h₂ => ?_)
  obtain ⟨a2, I, fp, P, St, rfl, hI, ita, st⟩ := h₂
  refine comp_core (Rr := fun acc C r s' => compPost G.M A (fun _ _ => False) none (fun v s' => Aft G n A s s' ∧ ∃ a vs k, v = .ref a ∧ s.heap.get? a = none ∧ s'.heap.get? a = some (LO vs k) ∧ RelAll ok s'.heap ((xs.filter p).map f) vs) acc C r s') xs mk p f new hkind hnd hsub hlet ht hif helt hz h1 h2 c S a2 hI ita st ?_
  intro D₀ C s' ys k hD hC e cx ⟨m, hn⟩ hd hDC hr
  refine ⟨m, hn, fun h' hs' => ?_⟩
  have w := wrap_up c S hD hC e cx ⟨m, hn⟩ hd hr hs'
  refine ⟨w.1, ?_⟩
  have w2 := w.2
  obtain ⟨a, vs, j, ea, _, hg, rr⟩ := w2
  cases ea
  exact ⟨D₀, vs, j, rfl, hD, hg, rr⟩
/-- such a list of plain things handed back -/
theorem st_retnew {e : Expr} {ds ds' : List D} {pos : Pos} (F : Fst G n A env ok ρ s₀ sT s) (hv : wpAny G.M A (eval e env) (fun v s' => Aft G n A s s' ∧ ∃ a vs k, v = .ref a ∧ s.heap.get? a = none ∧ s'.heap.get? a = some (LO vs k) ∧ RelAll ok' s'.heap ds' vs) (fun _ _ => False) s) (hd : ds' = ds) (hfl : ∀ d ∈ ds, Flat d)
    (h : ∀ s' v, Fst G n A env ok ρ s₀ sT s' → Rel (fun b => s₀.heap.get? b = none) s'.heap (.list ds) v → Q (.ret v) s') : wpAny G.M A (execs (.Return (some e) pos :: rest) env) Q E s := by
  refine wpAny_execs_cons (wpAny_Return_some (Ev.to hv fun v s' h00 => ?_))
  obtain ⟨x, a, vs, k, ev, hn, hg, rr⟩ := h00
  subst ev hd
  refine h s' _ (F.aft x) ?_
  simp only [Rel]
  exact ⟨a, vs, k, rfl, (F.old hn).1, hg, RelAll.flat' hfl rr⟩
end
end Mine
/-! A21 -/
namespace Mine
section
variable {G : W0} {n : Nat} {A : Around} {env : Env} {ok : Addr → Prop} {ρ : List (String × D)}

/-- into a comprehension, as into a frame -/
theorem comp_enter {scope : Scope} {ρc : List (String × D)} {s₀ sT s s₂ : Shared} {cl : List (Str × Addr)} {Post : Value → Env → Addr → Shared → Prop} {E : Value → Shared → Prop} (F : Fst G n A env ok ρ s₀ sT s)
    (hkind : scope.kind = .function) (hnd : (scope.names.map (·.1)).Nodup) (hsub : Sub scope env ρ ρc)
    (hcl : ∀ x c, cl.lookup x = some c → env.cells.lookup x = some c) (hcf : ∀ y ∈ scope.names, y.2 = .free → (cl.lookup y.1).isSome = true) (a2 : Aft G n A s s₂)
    (hR : ∀ D₀ cenv h₄, s₂.heap.get? D₀ = none → s₂.heap.get? cenv.locals = none → D₀ ≠ cenv.locals → IsComp scope cenv (fun a => s.heap.get? a = none) → Fst G n A cenv (But ok D₀) ρc s₀ { s₂ with heap := h₄ } { s₂ with heap := h₄ } → Own G (But ok D₀) s₀ { s₂ with heap := h₄ } D₀ [] →
      (∀ b o, s₂.heap.get? b = some o → h₄.get? b = some o) → (∀ x c, cenv.cells.lookup x = some c → s₂.heap.get? c = none ∨ env.cells.lookup x = some c) → Post (.ref D₀) cenv cenv.locals { s₂ with heap := h₄ }) :
    wpAny G.M A (newList []) (fun acc s₃ => wpAny G.M A (newFunctionEnv scope env.globals cl [] env.qual none .none (some env)) (fun cenv s₄ => Post acc { cenv with scope := relabel scope env } cenv.locals s₄) E s₃) E s₂ := by
  have c := F.cx
  have S := F.sat
  have S2 := S.aft c a2
  refine wpAny_newObj_type (wp_compEnv ?_)
  dsimp only
  generalize hD : s₂.heap.objs.size = D₀; revert D₀; refine hold ?_; intro D₀ hD
  generalize hH3 : s₂.heap.push (LO [] 0) = H3; revert H3; refine hold ?_; intro H3 hH3
  have hg3 : H3.get? D₀ = some (LO [] 0) := by rw [← hH3, ← hD]; exact Heap.get?_push_size _ rfl
  have k3 : ∀ b o, s₂.heap.get? b = some o → H3.get? b = some o := fun b o e => by rw [← hH3]; exact Heap.get?_push_of_some _ e
  have hz3 : H3.objs.size = D₀ + 1 := by rw [← hH3, Heap.size_push, hD]
  show Post (.ref D₀) { compEnvW scope env H3.objs.size cl with scope := relabel scope env } H3.objs.size { s₂ with heap := pushCells (H3.push { cls := .type "dict", data := .dict #[] }) scope.names }
  generalize hC : H3.objs.size = C; revert C; refine hold ?_; intro C hC
  generalize hH4 : pushCells (H3.push { cls := .type "dict", data := .dict #[] }) scope.names = H4; revert H4; refine hold ?_; intro H4 hH4
  have k34 : ∀ b o, H3.get? b = some o → H4.get? b = some o := fun b o e => by rw [← hH4]; exact pushCells_keeps _ _ _ _ (Heap.get?_push_of_some _ e)
  have k4 : ∀ b o, s₂.heap.get? b = some o → H4.get? b = some o := fun b o e => k34 b o (k3 b o e)
  have hg4 : H4.get? D₀ = some (LO [] 0) := k34 _ _ hg3
  have nC : H4.Ns C (fun _ => none) := by
    rw [← hH4, ← hC]; exact (Heap.Ns.new H3 (.type "dict")).keeps (pushCells_keeps _ _)
  have c4 : Aft G n A s₂ { s₂ with heap := H4 } := a2.2.keeps (tk := s₂.toks) k4
  have none2 : ∀ {b : Addr}, s₂.heap.objs.size ≤ b → s₂.heap.get? b = none := fun {b} hb => by
    cases q : s₂.heap.get? b with
    | none => rfl
    | some o => exact absurd (Heap.lt_size q) (Nat.not_lt.mpr hb)
  have back : ∀ {b : Addr}, s₂.heap.get? b = none → s.heap.get? b = none := fun {b} e => a2.1.kept.none (a2.2.not99 e) e
  have hDs : s₂.heap.get? D₀ = none := none2 (by rw [hD]; exact Nat.le_refl _)
  have hCs : s₂.heap.get? C = none := none2 (by rw [← hC, hz3, ← hD]; exact Nat.le_succ _)
  have hDC : D₀ ≠ C := by rw [← hC, hz3]; exact Nat.ne_of_lt (Nat.lt_succ_self _)
  have base : ∀ {b : Addr}, s₂.heap.get? b = none → G.base.get? b = none := fun {b} e => by
    cases q : G.base.get? b with
    | none => rfl
    | some o => rw [a2.2.stays b o q] at e; cases e
  generalize hce : ({ compEnvW scope env C cl with scope := relabel scope env } : Env) = cenv; revert cenv; refine hold ?_; intro cenv hce
  have hloc : cenv.locals = C := by rw [← hce]; rfl
  have hcells : cenv.cells = cellsFrom (C + 1) scope.names cl := by rw [← hce]; rfl
  have hkd : ∀ x, cenv.kindOf x = (relabel scope env).names.lookup x := fun x => by rw [← hce]; rfl
  have hC1 : C + 1 = (H3.push { cls := .type "dict", data := .dict #[] }).objs.size := by rw [Heap.size_push, hC]
  have lt2 : ∀ {b : Addr} {o : Obj}, s₂.heap.get? b = some o → b < C + 1 := fun {b o} e => by
    have := Heap.lt_size e
    rw [hD] at this
    rw [← hC, hz3]; exact Nat.lt_of_lt_of_le this (by (first | lia | omega))
  have nfree : ∀ x, scope.names.lookup x = some .free → ∀ k, (x, k) ∈ scope.names → k ≠ NameKind.cell := fun x h k hm q => by
    rw [lookup_nodup hnd hm] at h; cases h; cases q
  have eo : EnvOk G cenv H4 := by
    refine ⟨by rw [← hce]; exact hkind, by rw [← hce]; exact S.eo.glob, by rw [← hce]; exact S.eo.blt, ⟨_, by rw [hloc]; exact nC⟩, by rw [hloc]; exact base hCs, fun x cc q => ?_, ?_⟩
    · rw [hcells, hC1] at q
      rcases cells_new _ _ _ x cc q with q | ⟨q1, q2⟩
      · obtain ⟨⟨v, e1⟩, e2⟩ := S2.eo.cells x cc (hcl x cc q)
        exact ⟨⟨v, e1.keeps k4⟩, e2⟩
      · refine ⟨⟨none, by rw [← hH4]; exact q2⟩, base (none2 ?_)⟩
        rw [← hC1, ← hC, hz3, ← hD] at q1
        exact Nat.le_trans (by (first | lia | omega)) q1
    · rw [hcells]
      refine cells_apart _ _ _ (fun x cc q => ?_) fun x y cc hx hy => S.eo.apart x y cc (hcl _ _ hx) (hcl _ _ hy)
      obtain ⟨⟨v, o, e, _⟩, _⟩ := S2.eo.cells x cc (hcl x cc q)
      exact lt2 e
  have isC : IsComp scope cenv (fun a => s.heap.get? a = none) := by
    refine ⟨fun x k h hk => ?_, fun x k h hk => ?_, fun x k h hk => ?_, fun x h => ?_⟩
    · rw [hkd, relabel_lookup, h]
      have : (k == NameKind.free) = false := by simpa using hk
      simp only [Option.map_some, this, Bool.false_and, Bool.false_eq_true, if_false]
    · rcases hk with rfl | rfl
      · exact ⟨C, .inl ⟨by rw [hkd, relabel_lookup, h]; rfl, hloc.symm⟩, back hCs⟩
      · obtain ⟨cc, e1, e2⟩ := cells_own scope.names (C + 1) (C + 1) cl x (Nat.le_refl _) (.inl (lookup_mem h))
        refine ⟨cc, .inr ⟨by rw [hkd, relabel_lookup, h]; rfl, by rw [hcells]; exact e1⟩, back (none2 ?_)⟩
        rw [← hC, hz3, ← hD] at e2
        exact Nat.le_trans (by (first | lia | omega)) e2
    · rw [hcells]
      rcases hk with rfl | rfl
      · rw [cells_free _ _ _ x (nfree x h)]
        exact hcf _ (lookup_mem h) rfl
      · obtain ⟨cc, e1, e2⟩ := cells_own scope.names (C + 1) (C + 1) cl x (Nat.le_refl _) (.inl (lookup_mem h))
        rw [e1]; rfl
    · rw [hkd, relabel_lookup, h]
      simp only [Option.map_some]
      split <;> simp
  -- inside the loop, the list that is built is not looked at
  let ok' : Addr → Prop := fun b => ok b ∧ b ≠ D₀
  have relD : ∀ {d : D} {v : Value}, Rel ok s₂.heap d v → Rel ok' H4 d v := fun r =>
    Rel.mono (fun b o hb e hs => ⟨⟨hb, fun q => by subst q; rw [hDs] at e; cases e⟩, k4 b o e⟩) _ _ r
  have sat : Sat G ok' cenv ρc { s₂ with heap := H4 } := by
    refine ⟨eo, fun b e => ?_, fun q hq => ?_⟩
    · have e2 : s₂.heap.get? b = none := c4.1.kept.none (c4.2.not99 e) e
      exact ⟨S2.fresh b e2, fun q => by subst q; rw [show H4.get? b = none from e] at hg4; cases hg4⟩
    · obtain ⟨h1, h2, h3⟩ := hsub.mem q hq
      obtain ⟨v, V, r⟩ := S2.vars q h1
      refine ⟨v, ?_, relD r⟩
      rcases V with ⟨k1, _⟩ | ⟨k1, cc, l1, e1⟩
      · exact absurd k1 h3
      · refine .inr ⟨?_, cc, ?_, e1.keeps k4⟩
        · rw [hkd, relabel_lookup, h2]; simp only [Option.map_some]
          split
          · exact .inl rfl
          · exact .inr rfl
        · rw [hcells, cells_free _ _ _ _ (nfree _ h2)]
          have hs := hcf _ (lookup_mem h2) rfl
          obtain ⟨c', hc'⟩ := Option.isSome_iff_exists.mp hs
          rw [hc']; rw [hcl _ _ hc'] at l1; exact l1
  have ext4 : Ext s { s₂ with heap := H4 } := (a2.trans c4).1
  have none0 : ∀ {b : Addr}, s.heap.get? b = none → s₀.heap.get? b = none := fun {b} h => (F.old h).1
  have hcell : ∀ x cc, cenv.cells.lookup x = some cc → s₂.heap.get? cc = none ∨ env.cells.lookup x = some cc := fun x cc q => by
    rw [hcells, hC1] at q
    rcases cells_new _ _ _ x cc q with q | ⟨q1, q2⟩
    · exact .inr (hcl x cc q)
    · rw [← hC1, ← hC, hz3, ← hD] at q1
      exact .inl (none2 (Nat.le_trans (by (first | lia | omega)) q1))
  have hown : ∀ x a, At cenv x a → s₀.heap.get? a = none := fun x a hx => by
    rcases hx with ⟨_, rfl⟩ | ⟨hk, q⟩
    · rw [hloc]; exact none0 (back hCs)
    · rcases hcell x a q with h | h
      · exact none0 (back h)
      · rw [hkd, relabel_lookup] at hk
        cases hq : scope.names.lookup x with
        | none => rw [hq] at hk; cases hk
        | some k =>
          rw [hq] at hk
          simp only [Option.map_some, Option.some.injEq] at hk
          by_cases hif : (k == NameKind.free && env.scope.kind == .function && env.kindOf x == some .cell) = true
          · simp only [Bool.and_eq_true, beq_iff_eq] at hif
            exact F.own x a (.inr ⟨hif.2, h⟩)
          · rw [if_neg hif] at hk
            subst hk
            obtain ⟨cc, e1, e2⟩ := cells_own scope.names (C + 1) (C + 1) cl x (Nat.le_refl _) (.inl (lookup_mem hq))
            rw [hcells] at q
            rw [q] at e1; cases e1
            rw [← hC, hz3, ← hD] at e2
            exact none0 (back (none2 (Nat.le_trans (by (first | lia | omega)) e2)))
  have hgo := hR D₀ cenv H4 hDs (by rw [hloc]; exact hCs) (by rw [hloc]; exact hDC) isC ⟨c4.2, sat, F.ext.trans ext4, hown, .refl _⟩ ⟨⟨[], 0, hg4, RelAll.nil'⟩, fun h => h.2 rfl, none0 (back hDs), base hDs⟩ k4 hcell
  rw [hloc] at hgo
  exact hgo
end
end Mine
/-! A22 -/
namespace Mine

theorem turn_0 (elt t1 i1 t2 i2 : Expr) (scope : Scope) (pos : Pos) (it acc : Value) (env : Env) :
    compTurn (.ListComp elt [⟨t1, i1, [], 0⟩, ⟨t2, i2, [], 0⟩] scope pos) 0 it acc env = (do
      standAt i1.pos
      match ← pyNext it with
      | none => pure (.done .next)
      | some v =>
        letOwnedTupleGo t1 it v
        assign t1 env v
        let x ← eval i2 env
        standAt i2.pos
        let x ← foldedSetIterable i2 env x
        let _ ← runOwn (.compStart (.ListComp elt [⟨t1, i1, [], 0⟩, ⟨t2, i2, [], 0⟩] scope pos) 1 (← holding [x] (pyIter x)) acc env) env
        again (.compLoop (.ListComp elt [⟨t1, i1, [], 0⟩, ⟨t2, i2, [], 0⟩] scope pos) 0 it acc env)) := by rfl
theorem turn_1 (elt t1 i1 t2 i2 : Expr) (scope : Scope) (pos : Pos) (it acc : Value) (env : Env) :
    compTurn (.ListComp elt [⟨t1, i1, [], 0⟩, ⟨t2, i2, [], 0⟩] scope pos) 1 it acc env = (do
      standAt i2.pos
      match ← pyNext it with
      | none => pure (.done .next)
      | some v =>
        letOwnedTupleGo t2 it v
        assign t2 env v
        (do let _ ← call (.builtin "list.append") [acc, ← eval elt env])
        again (.compLoop (.ListComp elt [⟨t1, i1, [], 0⟩, ⟨t2, i2, [], 0⟩] scope pos) 1 it acc env)) := by rfl

section
variable {G : W0} {n : Nat} {A : Around} {env : Env} {ok : Addr → Prop} {ρ : List (String × D)} {s₀ sT s : Shared} {elt t1 i1 t2 i2 : Expr} {scope : Scope} {pos : Pos} {it acc : Value} {R : Result → Shared → Prop}

theorem comp_start1 (h0 : codeAny G.M A (.compLoop (.ListComp elt [⟨t1, i1, [], 0⟩, ⟨t2, i2, [], 0⟩] scope pos) 1 it acc env) R s)
    (h : wpAny G.M A (pyIter it) (fun it' s' => codeAny G.M A (.compLoop (.ListComp elt [⟨t1, i1, [], 0⟩, ⟨t2, i2, [], 0⟩] scope pos) 1 it' acc env) R s') (notedBy G.M A env fun x s' => R (.error x) s') s) :
    codeAny G.M A (.compStart (.ListComp elt [⟨t1, i1, [], 0⟩, ⟨t2, i2, [], 0⟩] scope pos) 1 it acc env) R s := by
  refine codeAny_of_tree ?_
  show wpAny _ _ ((compStart (.ListComp elt [⟨t1, i1, [], 0⟩, ⟨t2, i2, [], 0⟩] scope pos) 1 it acc env).onRaise (fun x => do noteFrame x env; standAt theWindowsPlace)) _ _ s
  refine wpAny_notedAt ?_
  unfold compStart
  show wpAny _ _ (ask >>= _) _ _ s
  refine wpAny_bind (wpAny_askSetting (wpAny_ite ?_))
  split
  · first
      | exact wpAny_bind (wpAny_pure (wpAny_pure (And.intro rfl h0)))
      | exact wpAny_pure (And.intro rfl h0)
  · exact wpAny_bind (wpAny_rule (wpAny_bind (wpAny_standAt (wpAny_bind (wpAny_mono h (fun it' s' h' => wpAny_pure (And.intro rfl h')) fun _ _ x => x)))))

/-- a turn, seen from an older state -/
theorem Tick.stb {sB s' : Shared} {X : Addr → Prop} {gi : Nat} (t : Tick G n A env ok sB s s' X gi) (m : Mod (Mine.Local env ok) sT s) (h : ∀ b, ¬ Mine.Local env ok b → sB.heap.get? b = none → sT.heap.get? b = none) (hg : ∀ i : Nat, sB.gens[i]? = none → sT.gens[i]? = none) : Mod (Mine.Local env ok) sT s' := by
  refine ⟨fun b o h9 hl e => ?_, t.os.trans m.os, fun i g q => t.gens i g (fun h => by subst h; rw [hg _ t.gnew] at q; cases q) (m.gens i g q)⟩
  have hx : ¬ X b := fun q => by rw [h b hl (t.new b q)] at e; cases e
  obtain ⟨sl, e1, f1⟩ := m.kept b o h9 hl e
  obtain ⟨sl', e2, f2⟩ := t.kept b _ h9 hx e1
  exact ⟨sl', e2, fun hn => (f2 hn).trans (f1 hn)⟩
theorem Tick.base {sB s' : Shared} {X : Addr → Prop} {gi : Nat} (t : Tick G n A env ok sB s s' X gi) (h : ∀ b, sB.heap.get? b = none → s₀.heap.get? b = none) (hg : ∀ i : Nat, sB.gens[i]? = none → s₀.gens[i]? = none) : Tick G n A env ok s₀ s s' X gi :=
  ⟨t.cx, t.kept, t.os, t.gens, fun b q => h b (t.new b q), t.oks, t.nl, t.nc, t.nseq, hg _ t.gnew⟩
theorem Fst.gens0 (F : Fst G n A env ok ρ s₀ sT s) : ∀ i : Nat, s.gens[i]? = none → s₀.gens[i]? = none := fun i h => by
  cases q : s₀.gens[i]? with
  | none => rfl
  | some g => rw [F.ext.gens i g q] at h; cases h

/-- a list or a range drawn on, seen from here -/
theorem wp_srcB {isL : Bool} {iter t : Expr} {ρ' : List (String × D)} {ds : List D} {J : Shared → Prop} (c : Cx G n A s) (S : Sat G ok env ρ' s) (hsrc : Src G n A env ok ρ' isL iter ds)
    (hlet : (∀ it v, letOwnedTupleGo t it v = pure ()) ∨ (isL = true ∧ (∃ es k p, t = .Tuple es k p) ∧ ∀ d ∈ ds, ∃ l, d = .tup l)) (hJ : ∀ s', Aft G n A s s' → J s') :
    wpAny G.M A (eval iter env) (fun x s₁ => wpAny G.M A (pyIter x) (fun it s₂ => ∃ Nx, Feed G n A env ok s t it (fun i d => ds[i]? = some d) (fun i => i = ds.length) Nx ∧ Nx 0 s₂ ∧ J s₂) (fun _ _ => False) s₁) (fun _ _ => False) s := by
  refine Ev.to (hsrc s c S) fun x s₁ h₁ => Ev.to h₁ fun it s₂ h₂ => ?_
  obtain ⟨a, I, fp, P, St, rfl, hI, ita, st⟩ := h₂
  have hI9 := c.not99 hI
  have hb : G.base.get? I = none := by
    cases q : G.base.get? I with
    | none => rfl
    | some o => rw [c.stays I o q] at hI; cases hI
  obtain ⟨Nx, fd, h0⟩ := feed_of (t := t) (s₀ := s) a.2 (S.aft c a) hI9 hI hb (S.fresh I hI) (fun q => by
      subst q; obtain ⟨m', o', es, ep, e', _⟩ := S.eo.ns; rw [hI] at e'; cases e') (fun x cc q h => by
      subst h; obtain ⟨⟨v, o', e', _⟩, _⟩ := S.eo.cells _ _ q; rw [hI] at e'; cases e') ita s.gens.size (by simp) hlet st
  exact ⟨Nx, fd, h0, hJ s₂ a⟩

/-- a target that is new since sA -/
theorem Fst.assignA {sA : Shared} {t : Expr} {d : D} {v : Value} {ρ' : List (String × D)} {Q : Unit → Shared → Prop} {E : Value → Shared → Prop} (F : Fst G n A env ok ρ s₀ sT s) (hA : Ext sA s) (T : Tgt G n A env ok (fun a => (∃ x, At env x a) ∧ sA.heap.get? a = none) t d ρ ρ') (r : Rel ok s.heap d v)
    (h : ∀ s', Fst G n A env ok ρ' s₀ sT s' → Ext sA s' → OwnKeep G ok s₀ s s' → Q () s') : wpAny G.M A (PySem.assign t env v) Q E s :=
  Ev.to (T s v F.cx F.sat r) fun _ s' ⟨m, c, S, k⟩ => h s' ⟨c, S, F.ext.step m fun b ⟨⟨x, hx⟩, _⟩ => F.own x b hx, F.own, F.stb.trans (m.weak fun b hb => .inr hb.1)⟩ (hA.step m fun b hb => hb.2) fun _ _ O => O.sol k

/-- the inner clause -/
theorem comp_inner {sA sB : Shared} {val : Nat → D → Prop} {fin : Nat → Prop} {Nx : Nat → Shared → Prop} {a : Addr} (fd : Feed G n A env ok sB t2 it val fin Nx) (L : Nat → List D) (N : Nat) (ρ1 : D → List (String × D)) (f : D → D)
    (hN : ∀ i d, val i d → i < N) (hT : ∀ i d, val i d → Tgt G n A env ok (fun a => (∃ x, At env x a) ∧ sA.heap.get? a = none) t2 d ρ (ρ1 d)) (hsub : ∀ d, ∀ p ∈ ρ, p ∈ ρ1 d) (he : ∀ i d, val i d → Ev G n A env ok (ρ1 d) elt (f d)) (hL : ∀ i d, val i d → L (i + 1) = L i ++ [f d]) (hz : ∀ i d, val i d → (L i).length < sizeLine)
    (hB : ∀ b, ¬ Mine.Local env ok b → sB.heap.get? b = none → sT.heap.get? b = none) (hBg : ∀ i : Nat, sB.gens[i]? = none → sT.gens[i]? = none) (hB0 : ∀ b, sB.heap.get? b = none → s₀.heap.get? b = none) (hBg0 : ∀ i : Nat, sB.gens[i]? = none → s₀.gens[i]? = none) (hBA : ∀ b, sB.heap.get? b = none → sA.heap.get? b = none) (hBgA : ∀ i : Nat, sB.gens[i]? = none → sA.gens[i]? = none) (hA : Ext sA s) (haA : sA.heap.get? a = none)
    (F : Fst G n A env ok ρ s₀ sT s) (O : Own G ok s₀ s a (L 0)) (h0 : Nx 0 s)
    (hR : ∀ i s', fin i → Fst G n A env ok ρ s₀ sT s' → Own G ok s₀ s' a (L i) → Ext sA s' → R (.ok .next) s') :
    codeAny G.M A (.compLoop (.ListComp elt [⟨t1, i1, [], 0⟩, ⟨t2, i2, [], 0⟩] scope pos) 1 it (.ref a) env) R s := by
  refine codeAny_loop rfl (fun k s' => ∃ i, k = N + 1 - i ∧ i ≤ N ∧ Nx i s' ∧ Fst G n A env ok ρ s₀ sT s' ∧ Own G ok s₀ s' a (L i) ∧ Ext sA s') ?_ (N + 1) ⟨0, rfl, Nat.zero_le _, h0, F, O, hA⟩
  rintro k s' ⟨i, rfl, hi, hNx, F', O', hA'⟩
  show wpAny _ A ((compTurn (.ListComp elt [⟨t1, i1, [], 0⟩, ⟨t2, i2, [], 0⟩] scope pos) 1 it (.ref a) env).onRaise (fun x => do noteFrame x env; theTreesLotGoes x)) _ _ s'
  refine wpAny_noted ?_
  rw [turn_1]
  refine wpAny_bind (wpAny_standAt (wpAny_bind (wpAny_mono (fd.step i s' F'.cx F'.sat.fresh hNx) (fun r s₁ h₁ => ?_) fun _ _ h' => h'.elim)))
  have tick : ∀ {s₁ : Shared} {X : Addr → Prop} {gi : Nat}, Tick G n A env ok sB s' s₁ X gi → Fst G n A env ok ρ s₀ sT s₁ ∧ Own G ok s₀ s₁ a (L i) ∧ Ext sA s₁ := fun {s₁ X gi} tk => by
    have tk0 := tk.base hB0 hBg0
    exact ⟨⟨tk.cx, tk.sat F'.cx F'.sat, tk0.ext F'.ext, F'.own, tk.stb F'.stb hB hBg⟩, O'.tick F'.cx tk0, (tk.base hBA hBgA).ext hA'⟩
  cases r with
  | none =>
    obtain ⟨hf, X, gi, tk⟩ := h₁
    exact wpAny_pure (hR i s₁ hf (tick tk).1 (tick tk).2.1 (tick tk).2.2)
  | some v =>
    refine wpAny_bind (wpAny_mono h₁ (fun _ s₂ h₂ => ?_) fun _ _ h' => h'.elim)
    obtain ⟨⟨X, gi, tk⟩, d, hd, rd, hNx'⟩ := h₂
    obtain ⟨F2, O2, hA2⟩ := tick tk
    refine wpAny_bind (F2.reset.assignA hA2 (hT i d hd) rd fun s₃ F3 hA3 k3 => ?_)
    have O3 := k3 _ _ O2
    have hev := he i d hd
    refine wpAny_bind (wpAny_bind (wpAny_mono (F3.ev hev) (fun y s₄ h00 => ?_) fun _ _ h' => h'.elim))
    obtain ⟨a4, r4⟩ := h00
    have O4 := O3.aft F3.cx a4
    obtain ⟨vs, kk, hg, rr⟩ := O4.cont
    have hlen := rr.length
    have hz' := hz i d hd
    refine wpAny_bind (wp_append hg (by (first | lia | omega)) fun h' k' hg' hs' => ?_)
    obtain ⟨F5, O5⟩ := own_set (tk := s₄.toks) (F3.aft a4) O4 hs' hg' (rr.append (RelAll.cons' r4 RelAll.nil'))
    refine wpAny_pure (wpAny_pure ⟨rfl, N + 1 - (i + 1), by have := hN i d hd; (first | lia | omega), i + 1, rfl, hN i d hd, fd.frame _ _ _ F2.cx hNx' F5.cx F5.stb, ?_, by rw [hL i d hd]; exact O5, (hA3.trans a4.1).step (Mod.same hs' rfl rfl) fun b hb => by subst hb; exact haA⟩)
    have F6 := F5.sub (hsub d)
    exact ⟨F6.cx, F6.sat, F6.ext, F6.own, F2.stb.trans F5.stb⟩

/-- the outer clause -/
theorem comp_outer {sA sB : Shared} {val : Nat → D → Prop} {fin : Nat → Prop} {Nx : Nat → Shared → Prop} {a : Addr} {isL : Bool} (hB0 : ∀ b, sB.heap.get? b = none → s₀.heap.get? b = none) (hBg0 : ∀ i : Nat, sB.gens[i]? = none → s₀.gens[i]? = none) (hBA : ∀ b, sB.heap.get? b = none → sA.heap.get? b = none) (hBgA : ∀ i : Nat, sB.gens[i]? = none → sA.gens[i]? = none) (fd : Feed G n A env ok sB t1 it val fin Nx) (xs : List D) (L : Nat → List D) (N : Nat) (ρ1 : D → List (String × D)) (ρ2 : D → D → List (String × D)) (f : D → D → D)
    (hN : ∀ i d, val i d → i < N) (hT : ∀ i d, val i d → Tgt G n A env ok (fun a => (∃ x, At env x a) ∧ sA.heap.get? a = none) t1 d ρ (ρ1 d)) (hsub : ∀ d, ∀ p ∈ ρ, p ∈ ρ1 d) (hsrc : ∀ i d, val i d → Src G n A env ok (ρ1 d) isL i2 xs)
    (hlet : ∀ it v, letOwnedTupleGo t2 it v = pure ()) (hT2 : ∀ i d, val i d → ∀ x ∈ xs, Tgt G n A env ok (fun a => (∃ x, At env x a) ∧ sA.heap.get? a = none) t2 x (ρ1 d) (ρ2 d x)) (hsub2 : ∀ d x, ∀ p ∈ ρ1 d, p ∈ ρ2 d x) (he : ∀ i d, val i d → ∀ x ∈ xs, Ev G n A env ok (ρ2 d x) elt (f d x))
    (hL : ∀ i d, val i d → L (i + 1) = L i ++ xs.map (f d)) (hz : ∀ i d, val i d → (L i).length + xs.length < sizeLine) (hA : Ext sA s) (haA : sA.heap.get? a = none)
    (F : Fst G n A env ok ρ s₀ s s) (O : Own G ok s₀ s a (L 0)) (h0 : Nx 0 s)
    (hR : ∀ i s', fin i → Fst G n A env ok ρ s₀ s' s' → Own G ok s₀ s' a (L i) → Ext sA s' → R (.ok .next) s')
    (hs : ∀ x, foldedSetIterable i2 env x = pure x) :
    codeAny G.M A (.compLoop (.ListComp elt [⟨t1, i1, [], 0⟩, ⟨t2, i2, [], 0⟩] scope pos) 0 it (.ref a) env) R s := by
  refine codeAny_loop rfl (fun k s' => ∃ i, k = N + 1 - i ∧ i ≤ N ∧ Nx i s' ∧ Fst G n A env ok ρ s₀ s' s' ∧ Own G ok s₀ s' a (L i) ∧ Ext sA s') ?_ (N + 1) ⟨0, rfl, Nat.zero_le _, h0, F, O, hA⟩
  rintro k s' ⟨i, rfl, hi, hNx, F', O', hA'⟩
  show wpAny _ A ((compTurn (.ListComp elt [⟨t1, i1, [], 0⟩, ⟨t2, i2, [], 0⟩] scope pos) 0 it (.ref a) env).onRaise (fun x => do noteFrame x env; theTreesLotGoes x)) _ _ s'
  refine wpAny_noted ?_
  rw [turn_0]
  refine wpAny_bind (wpAny_standAt (wpAny_bind (wpAny_mono (fd.step i s' F'.cx F'.sat.fresh hNx) (fun r s₁ h₁ => ?_) fun _ _ h' => h'.elim)))
  cases r with
  | none =>
    obtain ⟨hf, X, gi, tk⟩ := h₁
    have tk0 := tk.base hB0 hBg0
    exact wpAny_pure (hR i s₁ hf (F'.tick tk0) (O'.tick F'.cx tk0) ((tk.base hBA hBgA).ext hA'))
  | some v =>
    refine wpAny_bind (wpAny_mono h₁ (fun _ s₂ h₂ => ?_) fun _ _ h' => h'.elim)
    obtain ⟨⟨X, gi, tk⟩, d, hd, rd, hNx'⟩ := h₂
    have tk0 := tk.base hB0 hBg0
    have F2 := F'.tick tk0
    have O2 := O'.tick F'.cx tk0
    refine wpAny_bind (F2.assignA ((tk.base hBA hBgA).ext hA') (hT i d hd) rd fun s₃ F3 hA3 k3 => ?_)
    have O3 := k3 _ _ O2
    refine wpAny_bind (wpAny_mono (wp_srcB (t := t2) (J := fun s' => Fst G n A env ok (ρ1 d) s₀ s₂ s' ∧ Own G ok s₀ s' a (L i) ∧ Ext sA s') F3.cx F3.sat (hsrc i d hd) (.inl hlet) fun s' x => ⟨(F3.aft x), O3.aft F3.cx x, hA3.trans x.1⟩) (fun x s₄ h₄ => ?_) fun _ _ h' => h'.elim)
    refine wpAny_bind (wpAny_standAt (wpAny_bind (wpAny_of_eq (hs x) (wpAny_bind (wpAny_holding (wpAny_mono h₄ (fun it2 s₅ h₅ => ?_) fun _ _ h' => h'.elim))))))
    obtain ⟨Nx2, fd2, h02, F5, O5, hA5⟩ := h₅
    have inner : codeAny G.M A (.compLoop (.ListComp elt [⟨t1, i1, [], 0⟩, ⟨t2, i2, [], 0⟩] scope pos) 1 it2 (.ref a) env) (fun r s' => match r with | .ok _ => Fst G n A env ok (ρ1 d) s₀ s₂ s' ∧ Own G ok s₀ s' a (L (i + 1)) ∧ Ext sA s' | .error _ => False) s₅ := by
      have hz' := hz i d hd
      refine comp_inner fd2 (fun k => L i ++ (xs.take k).map (f d)) xs.length (ρ2 d) (f d) (fun k x hx => (List.getElem?_eq_some_iff.mp hx).1) (fun k x hx => hT2 i d hd x (List.mem_of_getElem? hx)) (hsub2 d) (fun k x hx => he i d hd x (List.mem_of_getElem? hx)) (fun k x hx => ?_) (fun k x hx => ?_) (fun b hl hn => ?_) (fun j hj => ?_) (fun b hn => (F3.old hn).1) F3.gens0 (fun b hn => hA3.kept.none (F3.cx.not99 hn) hn) (fun j hj => ?_) hA5 haA F5 (by simpa using O5) h02 fun k s' hk F' O' hA'' => ?_
      · rw [List.take_add_one, hx, List.map_append, List.append_assoc]; rfl
      · simp only [List.length_append, List.length_map, List.length_take]
        have := (List.getElem?_eq_some_iff.mp hx).1
        (first | lia | omega)
      · cases q : s₂.heap.get? b with
        | none => rfl
        | some o =>
          obtain ⟨sl, e1, _⟩ := F3.stb.kept b o (F3.cx.not99 hn) hl q
          rw [hn] at e1; cases e1
      · cases q : s₂.gens[j]? with
        | none => rfl
        | some g => rw [F3.stb.gens j g q] at hj; cases hj
      · cases q : sA.gens[j]? with
        | none => rfl
        | some g => rw [hA3.gens j g q] at hj; cases hj
      · subst hk
        rw [List.take_length] at O'
        rw [hL i d hd]
        exact ⟨F', O', hA''⟩
    refine wpAny_bind (wpAny_runOwn (comp_start1 inner (fd2.self 0 s₅ _ _ h02 inner) |> fun h => codeAny_mono h fun r s' hr => ?_))
    cases r with
    | error e => exact hr.elim
    | ok f =>
      obtain ⟨F6, O6, hA6⟩ := hr
      exact wpAny_pure ⟨rfl, N + 1 - (i + 1), by have := hN i d hd; (first | lia | omega), i + 1, rfl, hN i d hd, fd.frame _ _ _ F2.cx hNx' F6.cx F6.stb, (F6.sub (hsub d)).reset, O6, hA6⟩
end
end Mine
/-! A23 -/
namespace Mine
section
variable {G : W0} {n : Nat} {A : Around} {env : Env} {ok : Addr → Prop} {ρ ρ' : List (String × D)} {s₀ sT s : Shared} {Q : Flow → Shared → Prop} {E : Value → Shared → Prop} {rest : List Stmt}

theorem ItAt.but {isL : Bool} {I D₀ : Addr} {ds : List D} {fp : List Addr} {P : Nat → Value → Prop} {St : Nat → Heap → Prop} {h h' : Heap} (it : ItAt G A ok isL I ds fp P St h) (k : ∀ b o, h.get? b = some o → h'.get? b = some o) (hD : h.get? D₀ = none) : ItAt G A (But ok D₀) isL I ds fp P St h' :=
  ⟨it.W, it.mem, fun b hb hne => let ⟨h1, o, h2, h3⟩ := it.fpo b hb hne; ⟨⟨h1, fun q => by subst q; rw [hD] at h2; cases h2⟩, o, k _ _ h2, h3⟩, it.shape,
    fun i v hv => let ⟨d, h1, h2⟩ := it.val i v hv; ⟨d, h1, Rel.mono (fun b o hb e hs => ⟨⟨hb, fun q => by subst q; rw [hD] at e; cases e⟩, k b o e⟩) _ _ h2⟩, it.lst⟩

/-- a comprehension of two clauses set to a name of the frame -/
theorem st_comp2 {elt t1 i1 t2 i2 : Expr} {scope : Scope} {px cpos pos : Pos} {isL isL2 : Bool} {y : String} (xs xs2 : List D) (f : D → D → D) (ρ1 : D → List (String × D)) (ρ2 : D → D → List (String × D)) {ρc : List (String × D)} (F : Fst G n A env ok ρ s₀ sT s)
    (hsrc : Src G n A env ok ρ isL i1 xs)
    (hkind : scope.kind = .function) (hnd : (scope.names.map (·.1)).Nodup) (hfree : FreeOk scope env) (hsub : Sub scope env ρ ρc)
    (hlet : ∀ it v, letOwnedTupleGo t1 it v = pure ()) (hlet2 : ∀ it v, letOwnedTupleGo t2 it v = pure ())
    (hT : ∀ cenv ok' X, IsComp scope cenv X → ∀ d ∈ xs, Tgt G n A cenv ok' (fun a => (∃ x, At cenv x a) ∧ X a) t1 d ρc (ρ1 d)) (hsub1 : ∀ d, ∀ p ∈ ρc, p ∈ ρ1 d)
    (hsrc2 : ∀ cenv ok' X, IsComp scope cenv X → ∀ d ∈ xs, Src G n A cenv ok' (ρ1 d) isL2 i2 xs2)
    (hT2 : ∀ cenv ok' X, IsComp scope cenv X → ∀ d ∈ xs, ∀ x ∈ xs2, Tgt G n A cenv ok' (fun a => (∃ x, At cenv x a) ∧ X a) t2 x (ρ1 d) (ρ2 d x)) (hsub2 : ∀ d x, ∀ p ∈ ρ1 d, p ∈ ρ2 d x)
    (helt : ∀ cenv ok' X, IsComp scope cenv X → ∀ d ∈ xs, ∀ x ∈ xs2, Ev G n A cenv ok' (ρ2 d x) elt (f d x)) (hz : xs.length * xs2.length + xs2.length < 2 ^ 20)
    (hy : env.kindOf (Str.ofString y) = some .local) (U : Upd y (.list (xs.flatMap fun d => xs2.map (f d))) ρ ρ')
    (h : ∀ s', Fst G n A env ok ρ' s₀ s' s' → OwnKeep G ok s₀ s s' → wpAny G.M A (execs rest env) Q E s')
    (hl : (px.line == cpos.line) = true := by rfl) (hnm : (scope.names.any fun (n, k) => n == Str.ofString y && (k == .local || k == .cell)) = false := by decide)
    (hs : ∀ x, foldedSetIterable i1 env x = pure x := by intro _; rfl) (hs2 : ∀ env' x, foldedSetIterable i2 env' x = pure x := by intro _ _; rfl) :
    wpAny G.M A (execs (.Assign [.Name (Str.ofString y) px] (.ListComp elt [⟨t1, i1, [], 0⟩, ⟨t2, i2, [], 0⟩] scope cpos) pos :: rest) env) Q E s := by
  have c := F.cx
  have S := F.sat
  have hbk : env.blockKind = .function := by unfold Env.blockKind; rw [S.eo.kind]; rfl
  have hsw : swapsWith (.ListComp elt [⟨t1, i1, [], 0⟩, ⟨t2, i2, [], 0⟩] scope cpos) (some (.Name (Str.ofString y) px)) pos.line env = pure true := by
    unfold swapsWith
    show (pure (env.blockKind == .function && env.kindOf (Str.ofString y) == some .local && px.line == cpos.line && !(scope.names.any fun (n, k) => n == Str.ofString y && (k == .local || k == .cell))) : Sem Bool) = pure true
    rw [hbk, hy, hl, hnm]; rfl
  obtain ⟨cl, hcl, h1, h2⟩ := closure_ok hfree
  refine st_of ?_
  rw [exec_Assign_Name_used _ _ _ _ hsw]
  refine wpAny_bind (wpAny_standAt (wpAny_bind ?_))
  show wpAny _ A (do let _ ← comprehension (.ListComp elt [⟨t1, i1, [], 0⟩, ⟨t2, i2, [], 0⟩] scope cpos) scope env _ (newList []) false (eval i1 env) (some (assign (.Name (Str.ofString y) px) env))) _ _ s
  refine wpAny_bind (wpAny_mono (wpAny_comprehension_free (use := some (assign (.Name (Str.ofString y) px) env)) (Q := fun _ s' => wpAny G.M A (execs rest env) Q E s') rfl hs hcl hkind (hnames_of hnd)
    (Ev.to (hsrc s c S) fun x s₁ h₁ => Ev.to h₁ fun it s₂ h₂ => ?_)) (fun _ s' hq => wpAny_pure (wpAny_pure hq)) fun _ _ e => e)
  obtain ⟨a2, I, fp, P, St, rfl, hI, ita, st⟩ := h₂
  refine comp_enter (Post := fun acc cenv C s₄ => codeAny G.M A (.compStart (.ListComp elt [⟨t1, i1, [], 0⟩, ⟨t2, i2, [], 0⟩] scope cpos) 0 (.ref I) acc cenv) (compPost G.M A E (some (assign (.Name (Str.ofString y) px) env)) (fun _ s' => wpAny G.M A (execs rest env) Q E s') acc C) s₄) F hkind hnd hsub h1 h2 a2 ?_
  intro D₀ cenv h₄ hD hC hDC isC F4 O4 k4 hcell
  obtain ⟨oI, eI, _⟩ := ita.shape _ _ st
  have hDs := back_none a2 hD
  have hCs := back_none a2 hC
  have hI0 := F.old hI
  have itb := ita.but k4 hD
  have stb : St 0 h₄ := ita.W.frame _ _ _ st fun b _ o e => k4 b o e
  obtain ⟨Nx, fd, hNx⟩ := feed_of (t := t1) (s₀ := s) F4.cx F4.sat (c.not99 hI) hI hI0.2 ⟨S.fresh I hI, fun q => by subst q; rw [hD] at eI; cases eI⟩ (fun q => by subst q; rw [hC] at eI; cases eI) (fun x cc q hq => by
      subst hq
      rcases hcell x _ q with e | e
      · rw [e] at eI; cases eI
      · obtain ⟨⟨v, o', e', _⟩, _⟩ := S.eo.cells _ _ e; rw [hI] at e'; cases e') itb s.gens.size (by simp) (.inl hlet) stb
  have c4 : Aft G n A s₂ { s₂ with heap := h₄ } := a2.2.keeps (tk := s₂.toks) k4
  let L : Nat → List D := fun i => (xs.take i).flatMap fun d => xs2.map (f d)
  have hLlen : ∀ i, i ≤ xs.length → (L i).length = i * xs2.length := fun i hi => by
    show ((xs.take i).flatMap fun d => xs2.map (f d)).length = _
    rw [List.length_flatMap]
    simp only [List.length_map]
    rw [List.map_const', List.sum_replicate_nat, List.length_take, Nat.min_eq_left hi]
  have loop : codeAny G.M A (.compLoop (.ListComp elt [⟨t1, i1, [], 0⟩, ⟨t2, i2, [], 0⟩] scope cpos) 0 (.ref I) (.ref D₀) cenv) (compPost G.M A E (some (assign (.Name (Str.ofString y) px) env)) (fun _ s' => wpAny G.M A (execs rest env) Q E s') (.ref D₀) cenv.locals) { s₂ with heap := h₄ } := by
    refine comp_outer (sA := s) (sB := s) (isL := isL2) (fun b hb => (F.old hb).1) F.gens0 (fun b hb => hb) (fun i hi => hi) fd xs2 L xs.length ρ1 ρ2 f (fun i d hd => (List.getElem?_eq_some_iff.mp hd).1) (fun i d hd => hT cenv _ _ isC d (List.mem_of_getElem? hd)) hsub1 (fun i d hd => hsrc2 cenv _ _ isC d (List.mem_of_getElem? hd)) hlet2
      (fun i d hd x hx => hT2 cenv _ _ isC d (List.mem_of_getElem? hd) x hx) hsub2 (fun i d hd x hx => helt cenv _ _ isC d (List.mem_of_getElem? hd) x hx) (fun i d hd => ?_) (fun i d hd => ?_) (a2.1.trans c4.1) hDs F4 O4 hNx ?_ (hs2 cenv)
    · show (xs.take (i + 1)).flatMap _ = _
      rw [List.take_add_one, hd, List.flatMap_append]
      simp [L]
    · have hi := (List.getElem?_eq_some_iff.mp hd).1
      rw [hLlen i (by (first | lia | omega))]
      have : i * xs2.length ≤ xs.length * xs2.length := Nat.mul_le_mul_right _ (by (first | lia | omega))
      unfold sizeLine; (first | lia | omega)
    · rintro i s' rfl F' O' hA'
      have eL : L xs.length = xs.flatMap fun d => xs2.map (f d) := by show (xs.take xs.length).flatMap _ = _; rw [List.take_length]
      rw [eL] at O'
      have hAft : Aft G n A s s' := ⟨hA', F'.cx⟩
      have F1 := F.aft hAft
      have hat : At env (Str.ofString y) env.locals := .inl ⟨hy, rfl⟩
      obtain ⟨ys, k, hg, hr⟩ := O'.cont
      have hR : Rel ok s'.heap (.list (xs.flatMap fun d => xs2.map (f d))) (.ref D₀) := by
        simp only [Rel]; exact ⟨D₀, ys, k, rfl, S.fresh D₀ hDs, hg, hr.weak fun _ h => h.1⟩
      show wpAny _ A (assign (.Name (Str.ofString y) px) env (.ref D₀)) _ _ _
      refine assign_Name (wp_store F1.cx F1.sat hat hR U fun s'' m c' S' sol => ?_)
      have F2 : Fst G n A env ok ρ' s₀ sT s'' := ⟨c', S', F1.ext.step m fun b q => by subst q; exact F.own _ _ hat, F.own, F1.stb.trans (m.weak fun b q => .inr ⟨_, q ▸ hat⟩)⟩
      have hCl : cenv.locals ≠ env.locals := fun q => by rw [q] at hCs; obtain ⟨m', o', es, ep, e', _⟩ := S.eo.ns; rw [hCs] at e'; cases e'
      have hC9 : cenv.locals ≠ 99 := c.not99 hCs
      obtain ⟨mC, hnC⟩ := F'.sat.eo.ns
      have hnC' : s''.heap.Ns cenv.locals mC := by
        obtain ⟨o, es, ep, e1, hd, r⟩ := hnC
        obtain ⟨sl, e2, _⟩ := m.kept _ o hC9 hCl e1
        exact ⟨_, es, ep, e2, hd, r⟩
      refine ⟨mC, hnC', fun h' hs' => ?_⟩
      have cx' : Cx G n A { s'' with heap := h' } := c.sameNew c' (s' := { s'' with heap := h' }) hCs hs' (fun o vs q hd => by obtain ⟨o', es, ep, e1, hd', _⟩ := hnC'; rw [e1] at q; cases q; rw [hd'] at hd; cases hd) rfl
      have tk : Tick G n A env ok s₀ s'' { s'' with heap := h' } (· = cenv.locals) s₀.gens.size := by
        refine ⟨cx', fun b o _ hb q => ⟨o.slots, by show h'.get? b = _; rw [hs'.2 b hb]; exact q, fun _ => rfl⟩, rfl, fun _ _ _ q => q, fun b q => q ▸ (F.old hCs).1, fun b q => q ▸ S.fresh _ hCs, fun q => hCl q.symm, fun x cc q hq => ?_, fun b o q e' hq => ?_, by simp⟩
        · subst hq; obtain ⟨⟨v, o', e', _⟩, _⟩ := S.eo.cells _ _ q; rw [hCs] at e'; cases e'
        · subst q; obtain ⟨o', es, ep, e1, hd', _⟩ := hnC'; rw [e1] at e'; cases e'; obtain ⟨_, _, z⟩ := hq; rw [hd'] at z; cases z
      exact h _ (F2.tick tk) (((OwnKeep.aft F.cx hAft).trans fun _ _ O => O.sol sol).trans fun _ _ O => O.tick c' tk)
  exact codeAny_compStart_list loop (fd.self 0 _ _ _ hNx loop)
end
end Mine
/-! A24 -/
namespace Mine
section
variable {G : W0} {n : Nat} {A : Around} {env : Env} {ok : Addr → Prop} {ρ ρ' : List (String × D)} {s₀ sT s : Shared}

theorem call_next_item {it l : Addr} {i : Nat} {items : Array Value} {x : Value} {Q : Value → Shared → Prop} {E : Value → Shared → Prop} (hit : s.heap.IsListIter it l i) (hl : s.heap.IsList l items) (hx : items[i]? = some x)
    (hQ : ∀ h', h'.IsListIter it l (i + 1) → Heap.SameBut it s.heap h' → Q x { s with heap := h' }) : wpAny G.M A (call (.builtin "next") [.ref it]) Q E s := by
  refine call_function_entry (by decide +kernel) (by decide +kernel) kdk_entry_next (kdk_args_next _) ?_
  unfold Builtin.«next»
  refine wpAny_bind (m := someArgs "next" 1 2 _) (wpAny_of_eq (a := [Value.ref it]) (by first | rfl | kernel_rfl!) ?_)
  dsimp only
  refine wpAny_bind (wpAny_specialOf (name := Str.ofString "__next__") hit.typeIs slot_listiter_next.lookup ?_)
  refine wpAny_ite_split (fun hab => absurd hab (by decide)) (fun _ => ?_)
  obtain ⟨o, ho, hc, hd⟩ := id hit
  obtain ⟨ol, hol, _, nl, hdl⟩ := hl
  refine wpAny_bind (wpAny_callSpecial?_slot (name := Str.ofString "__next__") hit.typeIs slot_listiter_next
    (wpAny_call_entry slot_listiter_next hit.typeIs entry_listiter_next ?_ (args_listiter_next _)))
  show wpAny _ _ (field (.ref it) 0 >>= _) _ _ s
  refine wpAny_bind (wpAny_field ho hd (x := .ref l) rfl ?_)
  show wpAny _ _ (if (Value.ref l == Value.none) = true then _ else _) _ _ s
  rw [if_neg (show ¬ ((Value.ref l == Value.none) = true) from Bool.false_ne_true)]
  show wpAny _ _ (field (.ref it) 1 >>= _) _ _ s
  refine wpAny_bind (wpAny_field ho hd (x := .int i 0) rfl ?_)
  show wpAny _ _ (seqItems? (.ref l) >>= _) _ _ s
  refine wpAny_bind (wpAny_seqItems hol hdl ?_)
  simp only [Int.toNat_natCast, hx]
  refine wpAny_bind (wpAny_setField ho hd (by simp) (wpAny_pure ⟨x, rfl, wpAny_pure ⟨_, rfl, hQ _ ?_ (Heap.SameBut.update ..)⟩⟩))
  exact ⟨_, Heap.get?_update_self _ ho (Obj.isFreed_of_fields (Obj.data_mapFields hd _)), (Obj.cls_mapFields ..).trans hc, by
    rw [Obj.data_mapFields hd]; simp [rawInt]⟩

theorem call_next_end {it l : Addr} {i : Nat} {items : Array Value} {Q : Value → Shared → Prop} {E : Value → Shared → Prop} (hh : A.handled = none) (hit : s.heap.IsListIter it l i) (hl : s.heap.IsList l items) (hx : items[i]? = none)
    (hE : ∀ h' e t, (∀ b o, b ≠ it → s.heap.get? b = some o → h'.get? b = some o) → (∃ o, h'.get? it = some o) → s.heap.get? e = none → h'.get? e = some { cls := .type "StopIteration", dict := none, data := .fields #[.ref t, .none, .none, .none, .bool false, .none], slots := #[] } → E (.ref e) { s with heap := h' }) : wpAny G.M A (call (.builtin "next") [.ref it]) Q E s := by
  refine call_function_entry (by decide +kernel) (by decide +kernel) kdk_entry_next (kdk_args_next _) ?_
  unfold Builtin.«next»
  refine wpAny_bind (m := someArgs "next" 1 2 _) (wpAny_of_eq (a := [Value.ref it]) (by first | rfl | kernel_rfl!) ?_)
  dsimp only
  refine wpAny_bind (wpAny_specialOf (name := Str.ofString "__next__") hit.typeIs slot_listiter_next.lookup ?_)
  refine wpAny_ite_split (fun hab => absurd hab (by decide)) (fun _ => ?_)
  obtain ⟨o, ho, hc, hd⟩ := id hit
  obtain ⟨ol, hol, _, nl, hdl⟩ := hl
  refine wpAny_bind (wpAny_callSpecial?_slot (name := Str.ofString "__next__") hit.typeIs slot_listiter_next
    (wpAny_call_entry slot_listiter_next hit.typeIs entry_listiter_next ?_ (args_listiter_next _)))
  show wpAny _ _ (field (.ref it) 0 >>= _) _ _ s
  refine wpAny_bind (wpAny_field ho hd (x := .ref l) rfl ?_)
  show wpAny _ _ (if (Value.ref l == Value.none) = true then _ else _) _ _ s
  rw [if_neg (show ¬ ((Value.ref l == Value.none) = true) from Bool.false_ne_true)]
  show wpAny _ _ (field (.ref it) 1 >>= _) _ _ s
  refine wpAny_bind (wpAny_field ho hd (x := .int i 0) rfl ?_)
  show wpAny _ _ (seqItems? (.ref l) >>= _) _ _ s
  refine wpAny_bind (wpAny_seqItems hol hdl ?_)
  simp only [Int.toNat_natCast, hx]
  refine wpAny_bind (wpAny_rule (wpAny_bind (wpAny_setField ho hd (by simp) ?_)))
  show wpAny _ _ (newExc (.type "StopIteration") [] >>= _) _ _ _
  refine wpAny_bind ?_
  simp only [newExc, newTuple]
  refine wpAny_bind (wpAny_newObj_type ?_ (by size_fits))
  refine wpAny_bind (m := firstArgMember _ _) (wpAny_of_eq (a := Value.none) (by first | rfl | (simp only [firstArgMember]; rfl)) ?_)
  refine wpAny_newObj_type ?_ (by size_fits)
  simp only [raiseNew]
  refine wpAny_bind (wpAny_handled ?_)
  first | rw [show A.in1.handled = none from hh] | rw [show A.in1.in1.handled = none from hh] | rw [hh]
  refine wpAny_bind (wpAny_pure (wpAny_throw ?_))
  have ke : Heap.ExtBut it s.heap (((s.heap.update it (Obj.mapFields (·.setIfInBounds 0 .none))).push { cls := .type "tuple", data := .seq #[] }).push { cls := .type "StopIteration", data := .fields (#[.ref (s.heap.update it (Obj.mapFields (·.setIfInBounds 0 .none))).objs.size, .none, .none, .none, .bool false, .none] ++ ownMembersOf (.type "StopIteration") []) }) := ((Heap.SameBut.update ..).extBut.push _).push _
  refine hE _ _ (s.heap.update it (Obj.mapFields (·.setIfInBounds 0 .none))).objs.size ke ⟨_, Heap.get?_push_of_some _ (Heap.get?_push_of_some _ (Heap.get?_update_self _ ho (Obj.isFreed_of_fields (Obj.data_mapFields hd _))))⟩ ?_ (Heap.get?_push_size _ rfl)
  apply Heap.get?_none_of_le
  rw [Heap.size_push, Heap.size_update]
  exact Nat.le_succ _
end
end Mine
/-! B1 -/
namespace Mine
noncomputable def stAt (i : Nat) : Stmt := (PySem.Challenge.pw_uy0002_01.main.body[i]?).getD (.Pass default)
noncomputable def bodyOf : Stmt → List Stmt
  | .FunctionDef _ _ body _ _ _ _ _ _ _ => body
  | _ => []
noncomputable def scopeOf : Stmt → Scope
  | .FunctionDef _ _ _ _ _ _ sc _ _ _ => sc
  | _ => default

theorem d61 (P : Params) : isDef (hd.heap_1 P) 61 = true := by kernel_rfl
theorem b61 (P : Params) : (fdOf (hd.heap_1 P) 61).body = .stmts (bodyOf (stAt 9)) := by kernel_rfl
theorem s61 (P : Params) : (fdOf (hd.heap_1 P) 61).scope = scopeOf (stAt 9) := by kernel_rfl

section
variable {G : W0} {n : Nat} {A : Around} {env : Env} {ok : Addr → Prop} {ρ : List (String × D)}

/-- the end of a def: a value handed back -/
theorem Fst.done {A₀ : Around} {s₀ sT s' : Shared} (c : Cx G (n + 1) A₀ s₀) (F : Fst G n A env ok ρ s₀ sT s') : Aft G (n + 1) A₀ s₀ s' := ⟨F.ext, c.back F.ext F.cx⟩

theorem spec_strxfrm (x : Str) : Spec G (n + 1) 61 [.str x] [] [] (.str x) := fun A s vs us c r1 r2 => by
  obtain ⟨v, _, rfl, rv, rfl⟩ := r1
  obtain rfl := r2
  refine enter c (d61 _) (b61 _) (s61 _) (by kernel_rfl) (binds := [(Str.ofString "s", v)]) (fun S => by kernel_rfl) (by simp) (by kernel_rfl) (.cons rv .nil) fun env s₁ iE hfr F _ _ => ?_
  refine st_ret F (ev_name (.head _)) fun s' u F' r => ?_
  exact ⟨u, rfl, F'.done c, by simpa only [Rel] using r⟩
end
end Mine
/-! B2 -/
namespace Mine

/-- what is less, among atoms -/
noncomputable def dlt : D → D → Bool
  | .int a, .int b => decide (a < b)
  | .str a, .str b => decide (a.cps.toList < b.cps.toList)
  | _, _ => false
/-- halving -/
noncomputable def bis (p : Nat → Bool) : Nat → Nat → Nat → Nat
  | 0, lo, _ => lo
  | f + 1, lo, hi => if lo < hi then (if p ((lo + hi) / 2) then bis p f ((lo + hi) / 2 + 1) hi else bis p f lo ((lo + hi) / 2)) else lo

theorem d32 (P : Params) : isDef (hd.heap_1 P) 32 = true := by kernel_rfl
theorem b32 (P : Params) : (fdOf (hd.heap_1 P) 32).body = .stmts (bodyOf (stAt 2)) := by kernel_rfl
theorem s32 (P : Params) : (fdOf (hd.heap_1 P) 32).scope = scopeOf (stAt 2) := by kernel_rfl

section
variable {G : W0} {n : Nat} {A : Around} {env : Env} {ok : Addr → Prop} {ρ : List (String × D)}

theorem cmp_dlt {b : Bool} {d d' : D} (h : Atom b d) (h' : Atom b d') : Cmp G n A ok .Lt d d' (dlt d d') := by
  cases b <;> cases d <;> first | exact h.elim | skip
  all_goals cases d' <;> first | exact h'.elim | skip
  · exact cmp_ltS
  · exact cmp_lt

/-- a key -/
structure Key (G : W0) (n : Nat) (kv : Addr) (kf : D → D) (dom : D → Prop) : Prop where
  fn : ∀ m A s, Cx G m A s → ∃ o fd, s.heap.get? kv = some o ∧ o.data = .func fd
  spec : ∀ d, dom d → Spec G n kv [d] [] [] (kf d)

theorem ev_key {kv : Addr} {kf : D → D} {dom : D → Prop} {func : Str} {fpos pos : Pos} {e : Expr} {d : D} {m : Nat} (K : Key G m kv kf dom) (hm : m ≤ n) (hf : Ev G n A env ok ρ (.Name func fpos) (.val (.ref kv))) (h : Ev G n A env ok ρ e d) (hd : dom d)
    (he : ∀ rest : List Expr, starEach (e :: rest) env = (false, eval e env) :: starEach rest env := by intro _; rfl) : Ev G n A env ok ρ (.Call (.Name func fpos) [e] [] pos) (kf d) :=
  ev_callF hf (evs_one h he) ekw_nil (fun s c => K.fn _ _ s c) (fun s vs us c f r1 r2 => wpAny_call (codeAny_mono (K.spec d hd A s vs us (c.less hm) (r1.weak fun _ _ => trivial) (r2.weak fun _ _ => trivial)) fun r s' ⟨v, e, a, rr⟩ => by
    subst e; exact ⟨⟨a.1, c.back a.1 a.2⟩, rr.weak f⟩)) ⟨_, _, rfl, he⟩


theorem bis_ge {p : Nat → Bool} {f lo hi : Nat} (h : hi ≤ lo) : bis p f lo hi = lo := by
  cases f with
  | zero => rfl
  | succ f => unfold bis; rw [if_neg (by (first | lia | omega))]

noncomputable abbrev rB (ds : List D) (dx kd : D) (l h : Nat) : List (String × D) := [("a", .list ds), ("x", dx), ("lo", .int l), ("hi", .int h), ("key", kd)]

theorem at_of {sc : Scope} {X : Addr → Prop} (iE : IsComp sc env X) {x : String} (h : sc.names.lookup (Str.ofString x) = some .local) : ∃ a, At env (Str.ofString x) a :=
  let ⟨a, h1, _⟩ := iE.atX _ _ h (.inl rfl); ⟨a, h1⟩
theorem at_ofC {sc : Scope} {X : Addr → Prop} (iE : IsComp sc env X) {x : String} (h : sc.names.lookup (Str.ofString x) = some .cell) : ∃ a, At env (Str.ofString x) a :=
  let ⟨a, h1, _⟩ := iE.atX _ _ h (.inr rfl); ⟨a, h1⟩

/-- a turn's test -/
noncomputable abbrev Half (G : W0) (n : Nat) (A : Around) (env : Env) (ok : Addr → Prop) (ds : List D) (dx kd : D) (p : Nat → Bool) (test : Expr) : Prop :=
  ∀ l h m, m < ds.length → Tst G n A env ok (rB ds dx kd l h ++ [("mid", .int (m : Nat))]) test (p m)

theorem bisect_loop {ds : List D} {dx kd : D} {p : Nat → Bool} {test wt em el eh : Expr} {lo hi R : Nat} {s₀ sT s : Shared} {X : Addr → Prop} {Q : Flow → Shared → Prop} {E : Value → Shared → Prop} {rest : List Stmt} {p1 p2 p3 p4 p5 p6 p7 p8 : Pos} (iE : IsComp (scopeOf (stAt 2)) env X)
    (F : Fst G n A env ok (rB ds dx kd lo hi) s₀ sT s) (hlh : hi ≤ ds.length) (hz : ds.length < 2 ^ 40)
    (hw : ∀ l h : Nat, Tst G n A env ok (rB ds dx kd l h) wt (decide ((l : Int) < h))) (hm : ∀ l h : Nat, Ev G n A env ok (rB ds dx kd l h) em (.int (((l : Int) + h) / 2)))
    (ht : Half G n A env ok ds dx kd p test) (hl : ∀ l h m : Nat, Ev G n A env ok (rB ds dx kd l h ++ [("mid", .int m)]) el (.int ((m : Int) + 1))) (hh : ∀ l h m : Nat, Ev G n A env ok (rB ds dx kd l h ++ [("mid", .int m)]) eh (.int m))
    (f : Nat) (hf : hi - lo ≤ f) (hR : bis p f lo hi = R)
    (h : ∀ l s', Fst G n A env ok (rB ds dx kd R l) s₀ sT s' → wpAny G.M A (execs rest env) Q E s')
    (sm : swapsWith em (some (.Name (Str.ofString "mid") p1)) p2.line env = pure false := by rfl) (sl : swapsWith el (some (.Name (Str.ofString "lo") p3)) p4.line env = pure false := by rfl) (sh : swapsWith eh (some (.Name (Str.ofString "hi") p5)) p6.line env = pure false := by rfl) :
    wpAny G.M A (execs (.While wt [.Assign [.Name (Str.ofString "mid") p1] em p2, .If test [.Assign [.Name (Str.ofString "lo") p3] el p4] [.Assign [.Name (Str.ofString "hi") p5] eh p6] p7] [] p8 :: rest) env) Q E s := by
  refine st_while (fun k s' => ∃ l hh f, k = hh - l ∧ hh ≤ ds.length ∧ hh - l ≤ f ∧ bis p f l hh = R ∧ Fst G n A env ok (rB ds dx kd l hh) s₀ sT s') (hi - lo) ⟨lo, hi, f, rfl, hlh, hf, hR, F⟩ ?_
  rintro k s' ⟨l, h', f, rfl, hle, hfu, hbis, F'⟩
  refine Ev.to (F'.tst (hw l h')) fun b s₂ h00 => ?_
  obtain ⟨a, e⟩ := h00
  subst e
  have F2 := F'.aft a
  by_cases hlt : l < h'
  · have hd : decide ((l : Int) < (h' : Int)) = true := by simp; (first | lia | omega)
    rw [hd]
    simp only [if_true]
    have hmid : (((l : Int) + (h' : Int)) / 2) = (((l + h') / 2 : Nat) : Int) := by (first | lia | omega)
    refine st_set F2 (F2.ev (hmid ▸ hm l h')) (at_of iE (by kernel_rfl)) (ρ' := rB ds dx kd l h' ++ [("mid", .int ((l + h') / 2 : Nat))]) (.tail (.tail (.tail (.tail (.tail .nil))))) (hs := sm) fun s₃ F3 _ => ?_
    have hmm : (l + h') / 2 < ds.length := by (first | lia | omega)
    obtain ⟨f', rfl⟩ : ∃ f', f = f' + 1 := ⟨f - 1, by (first | lia | omega)⟩
    unfold bis at hbis
    rw [if_pos hlt] at hbis
    refine st_if F3 (ht l h' _ hmm) fun s₄ F4 => ?_
    cases hp : p ((l + h') / 2) with
    | true =>
      rw [hp] at hbis
      simp only [if_true] at hbis ⊢
      have e1 : (((l + h') / 2 : Nat) : Int) + 1 = (((l + h') / 2 + 1 : Nat) : Int) := by (first | lia | omega)
      refine st_set F4 (F4.ev (e1 ▸ hl l h' _)) (at_of iE (by kernel_rfl)) (ρ' := rB ds dx kd ((l + h') / 2 + 1) h' ++ [("mid", .int ((l + h') / 2 : Nat))]) (.tail (.tail .head)) (hs := sl) fun s₅ F5 _ => ?_
      refine wpAny_execs_nil (wpAny_execs_nil ⟨h' - ((l + h') / 2 + 1), by (first | lia | omega), _, _, f', rfl, hle, ar_mid (by assumption), hbis, F5.sub fun q hq => List.mem_append_left _ hq⟩)
    | false =>
      rw [hp] at hbis
      simp only [Bool.false_eq_true, if_false] at hbis ⊢
      refine st_set F4 (F4.ev (hh l h' _)) (at_of iE (by kernel_rfl)) (ρ' := rB ds dx kd l ((l + h') / 2) ++ [("mid", .int ((l + h') / 2 : Nat))]) (.tail (.tail (.tail .head))) (hs := sh) fun s₅ F5 _ => ?_
      refine wpAny_execs_nil (wpAny_execs_nil ⟨(l + h') / 2 - l, by (first | lia | omega), _, _, f', rfl, by (first | lia | omega), by (first | lia | omega), hbis, F5.sub fun q hq => List.mem_append_left _ hq⟩)
  · have hd : decide ((l : Int) < (h' : Int)) = false := by simp; (first | lia | omega)
    rw [hd]
    simp only [Bool.false_eq_true, if_false]
    rw [bis_ge (by (first | lia | omega))] at hbis
    subst hbis
    exact h _ _ F2

theorem half_plain {ds : List D} {dx kd : D} {b : Bool} {e1 e2 : Expr} {q : Pos} (hx : Atom b dx) (hds : ∀ d ∈ ds, Atom b d)
    (h1 : ∀ l h m : Nat, m < ds.length → Ev G n A env ok (rB ds dx kd l h ++ [("mid", .int m)]) e1 (ds.getD m .none)) (h2 : ∀ l h m : Nat, Ev G n A env ok (rB ds dx kd l h ++ [("mid", .int m)]) e2 dx) (hm : behindInMarks .Lt e2 = false := by rfl) :
    Half G n A env ok ds dx kd (fun i => dlt (ds.getD i .none) dx) (.Compare e1 [.Lt] [e2] q) := fun l h m hmm => by
  have hg : ds[m]? = some (ds.getD m .none) := by rw [List.getD_eq_getElem?_getD, List.getElem?_eq_getElem hmm]; rfl
  exact tst_cmp (h1 l h m hmm) (h2 l h m) (cmp_dlt (b := b) (hds _ (List.mem_of_getElem? hg)) hx) hm
theorem half_key {ds : List D} {dx kd : D} {kf : D → D} {dom : D → Prop} {b : Bool} {e1 e2 : Expr} {q : Pos} (hx : Atom b dx) (hds : ∀ d ∈ ds, Atom b (kf d) ∧ dom d)
    (h1 : ∀ l h m : Nat, m < ds.length → dom (ds.getD m .none) → Ev G n A env ok (rB ds dx kd l h ++ [("mid", .int m)]) e1 (kf (ds.getD m .none))) (h2 : ∀ l h m : Nat, Ev G n A env ok (rB ds dx kd l h ++ [("mid", .int m)]) e2 dx) (hm : behindInMarks .Lt e2 = false := by rfl) :
    Half G n A env ok ds dx kd (fun i => dlt (kf (ds.getD i .none)) dx) (.Compare e1 [.Lt] [e2] q) := fun l h m hmm => by
  have hg : ds[m]? = some (ds.getD m .none) := by rw [List.getD_eq_getElem?_getD, List.getElem?_eq_getElem hmm]; rfl
  have hd := hds _ (List.mem_of_getElem? hg)
  exact tst_cmp (h1 l h m hmm hd.2) (h2 l h m) (cmp_dlt (b := b) hd.1 hx) hm
theorem getD_some {ds : List D} {m : Nat} (h : m < ds.length) : ds[m]? = some (ds.getD m .none) := by rw [List.getD_eq_getElem?_getD, List.getElem?_eq_getElem h]; rfl

noncomputable abbrev rB0 (ds : List D) (dx kd : D) (l : Nat) (h : D) : List (String × D) := [("a", .list ds), ("x", dx), ("lo", .int l), ("hi", h), ("key", kd)]

theorem bisect_head {ds : List D} {dx kd : D} {lo : Nat} {s₀ sT s : Shared} {X : Addr → Prop} {Q : Flow → Shared → Prop} {E : Value → Shared → Prop} (iE : IsComp (scopeOf (stAt 2)) env X) (F : Fst G n A env ok (rB0 ds dx kd lo .none) s₀ sT s) (hz : ds.length < 2 ^ 40)
    (h : ∀ s', Fst G n A env ok (rB ds dx kd lo ds.length) s₀ sT s' → wpAny G.M A (execs ((bodyOf (stAt 2)).drop 2) env) Q E s') : wpAny G.M A (execs (bodyOf (stAt 2)) env) Q E s := by
  refine st_if F (b := false) (tst_cmp (ev_name (.tail _ (.tail _ (.head _)))) ev_int ?_) fun s₂ F2 => wpAny_execs_nil ?_
  · have : decide ((lo : Int) < 0) = false := by simp
    rw [← this]; exact cmp_lt
  refine st_if F2 (b := true) (tst_cmp (ev_name (.tail _ (.tail _ (.tail _ (.head _))))) ev_none cmp_isNone) fun s₃ F3 => ?_
  refine st_set F3 (F3.ev (ev_lenL (ev_blt (iE.kinds _ _ (by kernel_rfl) (by decide)) (by kernel_rfl) (by kernel_rfl)) (ev_name (.head _)) (by (first | lia | omega)))) (at_of iE (by kernel_rfl)) (ρ' := rB ds dx kd lo ds.length) (.tail (.tail (.tail .head))) fun s₄ F4 _ => wpAny_execs_nil (h s₄ F4)

theorem bisect_plain {ds : List D} {dx : D} {lo : Nat} {s₀ sT s : Shared} {X : Addr → Prop} {Q : Flow → Shared → Prop} {E : Value → Shared → Prop} {b : Bool} (iE : IsComp (scopeOf (stAt 2)) env X) (F : Fst G n A env ok (rB0 ds dx .none lo .none) s₀ sT s) (hx : Atom b dx) (hds : ∀ d ∈ ds, Atom b d) (hz : ds.length < 2 ^ 40)
    (h : ∀ s' v, Fst G n A env ok [] s₀ sT s' → (∃ t, v = .int (bis (fun i => dlt (ds.getD i .none) dx) ds.length lo ds.length) t) → Q (.ret v) s') : wpAny G.M A (execs (bodyOf (stAt 2)) env) Q E s := by
  refine bisect_head iE F hz fun s₁ F1 => ?_
  refine st_if F1 (b := true) (tst_cmp (ev_name (.tail _ (.tail _ (.tail _ (.tail _ (.head _)))))) ev_none cmp_isNone) fun s₂ F2 => ?_
  refine bisect_loop iE F2 (Nat.le_refl _) hz (fun l h => tst_cmp (ev_name (.tail _ (.tail _ (.head _)))) (ev_name (.tail _ (.tail _ (.tail _ (.head _))))) cmp_lt) (fun l h => ev_fdiv (ev_add (ev_name (.tail _ (.tail _ (.head _)))) (ev_name (.tail _ (.tail _ (.tail _ (.head _)))))) ev_int (by decide) (by decide))
    (half_plain hx hds (fun l h m hm' => ev_item (k := (m : Nat)) (ev_name (.head _)) (ev_name (.tail _ (.tail _ (.tail _ (.tail _ (.tail _ (.head _))))))) (by (first | lia | omega)) (by (first | lia | omega)) (by simpa using getD_some hm')) fun l h m => ev_name (.tail _ (.head _))) (fun l h m => ev_add (ev_name (.tail _ (.tail _ (.tail _ (.tail _ (.tail _ (.head _))))))) ev_int) (fun l h m => ev_name (.tail _ (.tail _ (.tail _ (.tail _ (.tail _ (.head _))))))) ds.length (by (first | lia | omega)) rfl fun l s₃ F3 => wpAny_execs_nil ?_
  refine st_ret F3 (ev_name (.tail _ (.tail _ (.head _)))) fun s' v F' r => ?_
  exact h s' v (F'.sub fun _ h => by cases h) r
theorem bisect_key {ds : List D} {dx : D} {lo : Nat} {s₀ sT s : Shared} {X : Addr → Prop} {Q : Flow → Shared → Prop} {E : Value → Shared → Prop} {b : Bool} {kv : Addr} {kf : D → D} {dom : D → Prop} {m : Nat} (K : Key G m kv kf dom) (hm : m ≤ n) (iE : IsComp (scopeOf (stAt 2)) env X) (F : Fst G n A env ok (rB0 ds dx (.val (.ref kv)) lo .none) s₀ sT s) (hx : Atom b dx) (hds : ∀ d ∈ ds, Atom b (kf d) ∧ dom d) (hz : ds.length < 2 ^ 40)
    (h : ∀ s' v, Fst G n A env ok [] s₀ sT s' → (∃ t, v = .int (bis (fun i => dlt (kf (ds.getD i .none)) dx) ds.length lo ds.length) t) → Q (.ret v) s') : wpAny G.M A (execs (bodyOf (stAt 2)) env) Q E s := by
  refine bisect_head iE F hz fun s₁ F1 => ?_
  refine st_if F1 (b := false) (tst_cmp (ev_name (.tail _ (.tail _ (.tail _ (.tail _ (.head _)))))) ev_none cmp_isNot) fun s₂ F2 => ?_
  refine bisect_loop iE F2 (Nat.le_refl _) hz (fun l h => tst_cmp (ev_name (.tail _ (.tail _ (.head _)))) (ev_name (.tail _ (.tail _ (.tail _ (.head _))))) cmp_lt) (fun l h => ev_fdiv (ev_add (ev_name (.tail _ (.tail _ (.head _)))) (ev_name (.tail _ (.tail _ (.tail _ (.head _)))))) ev_int (by decide) (by decide))
    (half_key hx hds (fun l h m hm' hd => ev_key K hm (ev_name (.tail _ (.tail _ (.tail _ (.tail _ (.head _)))))) (ev_item (k := (m : Nat)) (ev_name (.head _)) (ev_name (.tail _ (.tail _ (.tail _ (.tail _ (.tail _ (.head _))))))) (by (first | lia | omega)) (by (first | lia | omega)) (by simpa using getD_some hm')) hd) fun l h m => ev_name (.tail _ (.head _))) (fun l h m => ev_add (ev_name (.tail _ (.tail _ (.tail _ (.tail _ (.tail _ (.head _))))))) ev_int) (fun l h m => ev_name (.tail _ (.tail _ (.tail _ (.tail _ (.tail _ (.head _))))))) ds.length (by (first | lia | omega)) rfl fun l s₃ F3 => wpAny_execs_nil ?_
  refine st_ret F3 (ev_name (.tail _ (.tail _ (.head _)))) fun s' v F' r => ?_
  exact h s' v (F'.sub fun _ h => by cases h) r

/-! the calls -/
theorem spec_bisect4 {ds : List D} {dx : D} {lo : Nat} {b : Bool} (hx : Atom b dx) (hds : ∀ d ∈ ds, Atom b d) (hz : ds.length < 2 ^ 40) :
    Spec G (n + 5) 32 [.list ds, dx, .int lo, .none] [] [] (.int (bis (fun i => dlt (ds.getD i .none) dx) ds.length lo ds.length)) := fun A s vs us c r1 r2 => by
  obtain ⟨va, _, rfl, ra, vx, _, rfl, rx, vl, _, rfl, rl, vh, _, rfl, rh, rfl⟩ := r1
  obtain rfl := r2
  refine enter (n := n + 4) c (d32 _) (b32 _) (s32 _) (by kernel_rfl) (binds := [(Str.ofString "a", va), (Str.ofString "x", vx), (Str.ofString "lo", vl), (Str.ofString "hi", vh), (Str.ofString "key", .none)]) (fun S => by kernel_rfl) (by simp only [List.map]; decide) (by kernel_rfl)
    (.cons ra (.cons rx (.cons rl (.cons rh (.cons (d := .none) (by simp only [Rel]) .nil))))) fun env s₁ iE hfr F _ _ => ?_
  exact bisect_plain iE F hx hds hz fun s' v F' hv => ⟨v, rfl, F'.done c, by simpa only [Rel] using hv⟩
/-- from the front, no key -/
theorem spec_bisect3 {ds : List D} {dx : D} {lo : Nat} {b : Bool} (hx : Atom b dx) (hds : ∀ d ∈ ds, Atom b d) (hz : ds.length < 2 ^ 40) :
    Spec G (n + 5) 32 [.list ds, dx, .int lo] ["key"] [.none] (.int (bis (fun i => dlt (ds.getD i .none) dx) ds.length lo ds.length)) := fun A s vs us c r1 r2 => by
  obtain ⟨va, _, rfl, ra, vx, _, rfl, rx, vl, _, rfl, rl, rfl⟩ := r1
  obtain ⟨vk, _, rfl, rk, rfl⟩ := r2
  refine enter (n := n + 4) c (d32 _) (b32 _) (s32 _) (by kernel_rfl) (binds := [(Str.ofString "a", va), (Str.ofString "x", vx), (Str.ofString "lo", vl), (Str.ofString "hi", .none), (Str.ofString "key", vk)]) (fun S => by kernel_rfl) (by simp only [List.map]; decide) (by kernel_rfl)
    (.cons ra (.cons rx (.cons rl (.cons (d := .none) (by simp only [Rel]) (.cons rk .nil))))) fun env s₁ iE hfr F _ _ => ?_
  exact bisect_plain iE F hx hds hz fun s' v F' hv => ⟨v, rfl, F'.done c, by simpa only [Rel] using hv⟩
theorem spec_bisect3k {ds : List D} {dx : D} {lo : Nat} {b : Bool} {kv : Addr} {kf : D → D} {dom : D → Prop} {m : Nat} (K : Key G m kv kf dom) (hm : m ≤ n + 4) (hx : Atom b dx) (hds : ∀ d ∈ ds, Atom b (kf d) ∧ dom d) (hz : ds.length < 2 ^ 40) :
    Spec G (n + 5) 32 [.list ds, dx, .int lo] ["key"] [.val (.ref kv)] (.int (bis (fun i => dlt (kf (ds.getD i .none)) dx) ds.length lo ds.length)) := fun A s vs us c r1 r2 => by
  obtain ⟨va, _, rfl, ra, vx, _, rfl, rx, vl, _, rfl, rl, rfl⟩ := r1
  obtain ⟨vk, _, rfl, rk, rfl⟩ := r2
  refine enter (n := n + 4) c (d32 _) (b32 _) (s32 _) (by kernel_rfl) (binds := [(Str.ofString "a", va), (Str.ofString "x", vx), (Str.ofString "lo", vl), (Str.ofString "hi", .none), (Str.ofString "key", vk)]) (fun S => by kernel_rfl) (by simp only [List.map]; decide) (by kernel_rfl)
    (.cons ra (.cons rx (.cons rl (.cons (d := .none) (by simp only [Rel]) (.cons rk .nil))))) fun env s₁ iE hfr F _ _ => ?_
  exact bisect_key K hm iE F hx hds hz fun s' v F' hv => ⟨v, rfl, F'.done c, by simpa only [Rel] using hv⟩
theorem spec_bisect4k {ds : List D} {dx : D} {lo : Nat} {b : Bool} {kv : Addr} {kf : D → D} {dom : D → Prop} {m : Nat} (K : Key G m kv kf dom) (hm : m ≤ n + 4) (hx : Atom b dx) (hds : ∀ d ∈ ds, Atom b (kf d) ∧ dom d) (hz : ds.length < 2 ^ 40) :
    Spec G (n + 5) 32 [.list ds, dx, .int lo, .none] ["key"] [.val (.ref kv)] (.int (bis (fun i => dlt (kf (ds.getD i .none)) dx) ds.length lo ds.length)) := fun A s vs us c r1 r2 => by
  obtain ⟨va, _, rfl, ra, vx, _, rfl, rx, vl, _, rfl, rl, vh, _, rfl, rh, rfl⟩ := r1
  obtain ⟨vk, _, rfl, rk, rfl⟩ := r2
  refine enter (n := n + 4) c (d32 _) (b32 _) (s32 _) (by kernel_rfl) (binds := [(Str.ofString "a", va), (Str.ofString "x", vx), (Str.ofString "lo", vl), (Str.ofString "hi", vh), (Str.ofString "key", vk)]) (fun S => by kernel_rfl) (by simp only [List.map]; decide) (by kernel_rfl)
    (.cons ra (.cons rx (.cons rl (.cons rh (.cons rk .nil))))) fun env s₁ iE hfr F _ _ => ?_
  exact bisect_key K hm iE F hx hds hz fun s' v F' hv => ⟨v, rfl, F'.done c, by simpa only [Rel] using hv⟩
end
end Mine
/-! B3 -/
namespace Mine

theorem d23 (P : Params) : isDef (hd.heap_1 P) 23 = true := by kernel_rfl
theorem b23 (P : Params) : (fdOf (hd.heap_1 P) 23).body = .stmts (bodyOf (stAt 1)) := by kernel_rfl
theorem s23 (P : Params) : (fdOf (hd.heap_1 P) 23).scope = scopeOf (stAt 1) := by kernel_rfl

section
variable {G : W0} {n : Nat} {A : Around} {env : Env} {ok : Addr → Prop} {ρ : List (String × D)} {s₀ sT s s' : Shared}

theorem RelAll.flat {ok ok' : Addr → Prop} {h h' : Heap} : ∀ {ds : List D} {vs : List Value}, (∀ d ∈ ds, Flat d) → RelAll ok h ds vs → RelAll ok' h' ds vs
  | [], _, _, r => by simpa only [RelAll] using r
  | d :: ds, _, hf, r => by
    obtain ⟨v, t, rfl, h1, h2⟩ := r
    exact RelAll.cons' (h1.flat (hf d List.mem_cons_self)) (RelAll.flat (fun d hd => hf d (List.mem_cons_of_mem _ hd)) h2)
theorem Atom.flat {b : Bool} {d : D} (h : Atom b d) : Flat d := by cases b <;> cases d <;> first | exact h.elim | trivial

theorem Fst.see {x : String} {v : Value} {d : D} (F : Fst G n A env ok ρ s₀ sT s) (hm : (x, .val v) ∈ ρ) (r : Rel ok s.heap d v) : Fst G n A env ok ((x, d) :: ρ) s₀ sT s := by
  refine ⟨F.cx, ⟨F.sat.eo, F.sat.fresh, fun p hp => ?_⟩, F.ext, F.own, F.stb⟩
  rcases List.mem_cons.mp hp with rfl | hp
  · obtain ⟨u, V, R⟩ := F.sat.vars _ hm
    obtain rfl := R
    exact ⟨_, V, r⟩
  · exact F.sat.vars p hp

/-- a list of the frame's own, turned by a callee -/
theorem own_mod {a : Addr} {ds ds' : List D} {vs' : List Value} {k' : Nat} (F : Fst G n A env ok ρ s₀ sT s) (O : Own G ok s₀ s a ds) (m : Mod (· = a) s s') (cx : Cx G n A s') (hg : s'.heap.get? a = some (LO vs' k')) (hr : RelAll ok s'.heap ds' vs') :
    Fst G n A env ok ρ s₀ sT s' ∧ Own G ok s₀ s' a ds' ∧ ∀ b ds', b ≠ a → Own G ok s₀ s b ds' → Own G ok s₀ s' b ds' := by
  obtain ⟨vs, k, hg0, _⟩ := O.cont
  have seqk : ∀ b o, ok b → IsSeq o → s.heap.get? b = some o → s'.heap.get? b = some o := fun b o hb hs e => m.get (ne_tab F.cx.tab e hs.nf) (fun q => O.nok (q ▸ hb)) hs.nd e
  have nsk : ∀ {y : Addr} {m : Str → Option Value}, s.heap.Ns y m → s'.heap.Ns y m := fun {y mm} q => by
    have h9 := ns_ne F.cx.tab q
    obtain ⟨o, es, ep, e, hd, r⟩ := q
    obtain ⟨sl, e1, _⟩ := m.kept y o h9 (fun h => by rw [h] at e; rw [hg0] at e; cases e; cases hd) e
    exact ⟨_, es, ep, e1, hd, r⟩
  have cek : ∀ {y : Addr} {u : Option Value}, s.heap.IsCell y u → s'.heap.IsCell y u := fun {y u} q => by
    have h9 := cell_ne F.cx.tab q
    obtain ⟨o', e', hd⟩ := q
    exact ⟨o', m.get h9 (fun h => by rw [h] at e'; rw [hg0] at e'; cases e'; cases hd) (fun es ep z => by rw [hd] at z; cases z) e', hd⟩
  refine ⟨⟨cx, ⟨⟨F.sat.eo.kind, F.sat.eo.glob, F.sat.eo.blt, let ⟨m, q⟩ := F.sat.eo.ns; ⟨m, nsk q⟩, F.sat.eo.nsNew, fun x cc q => let ⟨⟨v, a⟩, b⟩ := F.sat.eo.cells x cc q; ⟨⟨v, cek a⟩, b⟩, F.sat.eo.apart⟩, fun b q => F.sat.fresh b ?_, fun p hp => ?_⟩, F.ext.step m fun b q => by subst q; exact O.new, F.own, F.stb.trans (m.weak fun b q => .inl (q ▸ O.nok))⟩, ⟨⟨_, _, hg, hr⟩, O.nok, O.new, O.base⟩, fun b ds' hb O' => ?_⟩
  · cases z : s.heap.get? b with
    | none => rfl
    | some o =>
      by_cases hb : b = a
      · subst hb; rw [q] at hg; cases hg
      · obtain ⟨sl, e1, _⟩ := m.kept b o (cx.not99 q) hb z
        rw [q] at e1; cases e1
  · obtain ⟨v, V, R⟩ := F.sat.vars p hp
    refine ⟨v, ?_, Rel.mono (fun b o hb e hs => ⟨hb, seqk b o hb hs e⟩) _ _ R⟩
    rcases V with ⟨k1, m, q1, q2⟩ | ⟨k1, cc, l1, q1⟩
    · exact .inl ⟨k1, m, nsk q1, q2⟩
    · exact .inr ⟨k1, cc, l1, cek q1⟩
  · obtain ⟨ws, j, e, r⟩ := O'.cont
    exact ⟨⟨ws, j, m.get (ne_tab F.cx.tab e (IsSeq.nf ⟨_, _, rfl⟩)) hb (IsSeq.nd ⟨_, _, rfl⟩) e, RelAll.mono (fun c o hc e hs => ⟨hc, seqk c o hc hs e⟩) _ _ r⟩, O'.nok, O'.new, O'.base⟩

/-- putting one thing into a list -/
noncomputable def SpecIns (G : W0) (n : Nat) (ds : List D) (dx : D) (rest : List D) (names : List Str) (kds : List D) (i : Nat) : Prop :=
  ∀ A s a k ws vx vs us, Cx G n A s → G.base.get? a = none → s.heap.get? a = some (LO ws k) → RelAll (fun _ => True) s.heap ds ws → Rel (fun _ => True) s.heap dx vx → RelAll (fun _ => True) s.heap rest vs → RelAll (fun _ => True) s.heap kds us →
    codeAny G.M A (.call (.ref 23) ⟨.ref a :: vx :: vs, names.zip us⟩) (fun r s' => r = .ok (.ret .none) ∧ Cx G n A s' ∧ Mod (· = a) s s' ∧ ∃ ws' k', s'.heap.get? a = some (LO ws' k') ∧ RelAll (fun _ => True) s'.heap (ds.take i ++ dx :: ds.drop i) ws') s

noncomputable abbrev rI (a : Addr) (ds : List D) (dx kd : D) (l : Nat) : List (String × D) := [("a", .list ds), ("a", .val (.ref a)), ("x", dx), ("lo", .int l), ("hi", .none), ("key", kd)]

theorem Var.uniq {h : Heap} {x : Str} {u v : Value} (a : Var env h x u) (b : Var env h x v) : u = v := by
  rcases a with ⟨k1, m, n1, e1⟩ | ⟨k1, c1, l1, e1⟩ <;> rcases b with ⟨k2, m2, n2, e2⟩ | ⟨k2, c2, l2, e2⟩
  · obtain ⟨o1, es1, ep1, g1, d1, _, f1⟩ := n1
    obtain ⟨o2, es2, ep2, g2, d2, _, f2⟩ := n2
    rw [g1] at g2; cases g2; rw [d1] at d2; cases d2
    have := (f1 x).symm.trans (f2 x)
    rw [e1, e2] at this; cases this; rfl
  · rw [k1] at k2; rcases k2 with q | q <;> cases q
  · rw [k2] at k1; rcases k1 with q | q <;> cases q
  · rw [l1] at l2; cases l2
    obtain ⟨o1, g1, d1⟩ := e1
    obtain ⟨o2, g2, d2⟩ := e2
    rw [g1] at g2; cases g2; rw [d1] at d2; cases d2; rfl

theorem insort_tail {a : Addr} {ds : List D} {dx kd : D} {i : Nat} {X : Addr → Prop} {Q : Flow → Shared → Prop} {E : Value → Shared → Prop} {bb : Bool} {nn : Nat} {AA : Around} (iE : IsComp (scopeOf (stAt 1)) env X) (c : Cx G nn AA s₀) (hb : G.base.get? a = none)
    (F : Fst G n A env (fun _ => True) (rI a ds dx kd i) s₀ sT s) (hx : Atom bb dx) (hds : ∀ d ∈ ds, Atom bb d) (hi : i ≤ ds.length) (hz : ds.length < 2 ^ 20)
    (h : ∀ s', Cx G nn AA s' → Mod (· = a) s₀ s' → (∃ ws' k', s'.heap.get? a = some (LO ws' k') ∧ RelAll (fun _ => True) s'.heap (ds.take i ++ dx :: ds.drop i) ws') → Q .next s') :
    wpAny G.M A (execs ((bodyOf (stAt 1)).drop 1) env) Q E s := by
  have hint : interactive env = false := by
    unfold interactive
    rw [F.sat.eo.kind]; rfl
  obtain ⟨v, V, R⟩ := F.sat.vars ("a", .val (.ref a)) (.tail _ (.head _))
  obtain rfl := R
  obtain ⟨v', V', R'⟩ := F.sat.vars ("a", .list ds) (.head _)
  have hv := V'.uniq V
  subst hv
  obtain ⟨a', ws, k, ea, _, hg, rr⟩ := R'
  cases ea
  refine st_of (wpAny_Expr_any (wpAny_Call_method rfl rfl rfl PySem.F.plainAttrs_list PySem.F.slot_list_insert PySem.F.type_list_insert ?_) hint rfl)
  refine wpAny_Name (load_var F.sat.eo.kind V rfl ⟨⟨_, hg, rfl⟩, fun b q => (by cases q; exact ⟨_, hg, rfl⟩), ?_⟩) rfl
  refine Calls.callWith_builtin rfl ?_
  refine wp_evalArgs (ds := [.int i, dx]) (evs_cons (ev_name (.tail _ (.tail _ (.tail _ (.head _))))) (evs_one (ev_name (.tail _ (.tail _ (.head _)))))) ekw_nil ⟨_, _, rfl, fun _ => rfl⟩ F.cx F.sat fun s₁ vs us a1 r1 r2 => ?_
  obtain rfl := r2
  obtain ⟨_, _, rfl, ri, vx, _, rfl, rx, rfl⟩ := r1
  obtain ⟨t, rfl⟩ := ri
  have F1 := F.aft a1
  have hg1 : s₁.heap.get? a = some (LO ws k) := a1.1.kept.get (ne_tab F.cx.tab hg (IsSeq.nf ⟨_, _, rfl⟩)) hg (IsSeq.nd ⟨_, _, rfl⟩)
  have rr1 := rr.kept F.cx.tab a1.1.kept
  have hlen := rr.length
  show wpAny G.M A (call (.builtin "list.insert") [.ref a, .int i t, vx]) _ _ s₁
  refine wp_insert hg1 rfl (by (first | lia | omega)) (by unfold sizeLine; (first | lia | omega)) (fitsIndex_of (by (first | lia | omega)) (by (first | lia | omega))) fun h' k' tk hg' hs' => wpAny_execs_nil ?_
  have m1 : Mod (· = a) s₁ { s₁ with heap := h', toks := tk } := Mod.same hs' rfl rfl
  have h9 := ne_tab F1.cx.tab hg1 (IsSeq.nf ⟨_, _, rfl⟩)
  have c1 := F1.cx.same (s' := { s₁ with heap := h', toks := tk }) hs' hb h9 (fun o es ep e hd => by rw [hg1] at e; cases e; cases hd) (fun o vs e hd => by rw [hg1] at e; cases e; cases hd) rfl
  refine h _ ⟨c1.stays, c1.tab, ?_, c.hh, c.dep, c.un, c1.bare⟩ ((F1.ext.mod).trans m1) ⟨_, _, hg', ?_⟩
  · obtain ⟨l, e1, e2⟩ := c.fr
    exact ⟨l, e1, (e2.kept F1.ext.kept).same hs' fun o es ep e hd => by rw [hg1] at e; cases e; cases hd⟩
  · have fl : ∀ d ∈ ds, Flat d := fun d hd => (hds d hd).flat
    refine RelAll.append (RelAll.flat (fun d hd => fl d (List.mem_of_mem_take hd)) (rr1.take i)) (RelAll.cons' (rx.flat hx.flat) (RelAll.flat (fun d hd => fl d (List.mem_of_mem_drop hd)) (rr1.drop i)))

theorem bis_le {p : Nat → Bool} : ∀ (f lo hi : Nat), lo ≤ hi → bis p f lo hi ≤ hi
  | 0, lo, hi, h => h
  | f + 1, lo, hi, h => by
    unfold bis
    split
    · split
      · exact bis_le f _ hi (by omega)
      · exact Nat.le_trans (bis_le f lo _ (by omega)) (by omega)
    · exact h

/-- with a key, or with none -/
inductive KeyD (G : W0) (n : Nat) (b : Bool) (dx : D) (ds : List D) : D → (D → D) → Prop
  | none (hx : Atom b dx) (hds : ∀ d ∈ ds, Atom b d) : KeyD G n b dx ds .none id
  | key {kv : Addr} {kf : D → D} {dom : D → Prop} {b' : Bool} (K : Key G n kv kf dom) (hx : Atom b dx) (hds : ∀ d ∈ ds, Atom b d) (hk : ∀ d ∈ dx :: ds, Atom b' (kf d) ∧ dom d) : KeyD G n b dx ds (.val (.ref kv)) kf

theorem insort_body {a : Addr} {ds : List D} {dx kd : D} {lo : Nat} {kf : D → D} {X : Addr → Prop} {Q : Flow → Shared → Prop} {E : Value → Shared → Prop} {bb : Bool} {nn : Nat} {AA : Around} (K : KeyD G n bb dx ds kd kf) (iE : IsComp (scopeOf (stAt 1)) env X) (c : Cx G nn AA s₀) (hb : G.base.get? a = none)
    (F : Fst G (n + 6) A env (fun _ => True) (rI a ds dx kd lo) s₀ sT s) (hlo : lo ≤ ds.length) (hz : ds.length < 2 ^ 20)
    (h : ∀ s', Cx G nn AA s' → Mod (· = a) s₀ s' → (∃ ws' k', s'.heap.get? a = some (LO ws' k') ∧ RelAll (fun _ => True) s'.heap (ds.take (bis (fun i => dlt (kf (ds.getD i .none)) (kf dx)) ds.length lo ds.length) ++ dx :: ds.drop (bis (fun i => dlt (kf (ds.getD i .none)) (kf dx)) ds.length lo ds.length)) ws') → Q .next s') :
    wpAny G.M A (execs (bodyOf (stAt 1)) env) Q E s := by
  have hle := bis_le (p := fun i => dlt (kf (ds.getD i .none)) (kf dx)) ds.length lo ds.length hlo
  cases K with
  | none hx hds =>
    refine st_if F (b := true) (tst_cmp (ev_name (.tail _ (.tail _ (.tail _ (.tail _ (.tail _ (.head _))))))) ev_none cmp_isNone) fun s₁ F1 => ?_
    refine st_set F1 (F1.ev (ev_call (fa := 32) (ds := [.list ds, dx, .int lo, .none]) (kds := []) (names := []) (ev_glob (iE.kinds _ _ (by kernel_rfl) (by decide)) (by kernel_rfl)) (evs_cons (ev_name (.head _)) (evs_cons (ev_name (.tail _ (.tail _ (.head _)))) (evs_cons (ev_name (.tail _ (.tail _ (.tail _ (.head _))))) (evs_one (ev_name (.tail _ (.tail _ (.tail _ (.tail _ (.head _)))))))))) ekw_nil (d32 _)
      (spec_bisect4 (n := n) hx hds (by (first | lia | omega))) (by (first | lia | omega)))) (at_of iE (by kernel_rfl)) (ρ' := rI a ds dx .none _) (.tail (.tail (.tail .head))) fun s₂ F2 _ => wpAny_execs_nil ?_
    exact insort_tail iE c hb F2 hx hds hle hz h
  | key Kk hx hds hk =>
    refine st_if F (b := false) (tst_cmp (ev_name (.tail _ (.tail _ (.tail _ (.tail _ (.tail _ (.head _))))))) ev_none cmp_isNot) fun s₁ F1 => ?_
    refine st_set F1 (F1.ev (ev_call (fa := 32) (ds := [.list ds, kf dx, .int lo, .none]) (kds := [.val (.ref _)]) (names := ["key"]) (ev_glob (iE.kinds _ _ (by kernel_rfl) (by decide)) (by kernel_rfl)) (evs_cons (ev_name (.head _)) (evs_cons (ev_key Kk (by (first | lia | omega)) (ev_name (.tail _ (.tail _ (.tail _ (.tail _ (.tail _ (.head _))))))) (ev_name (.tail _ (.tail _ (.head _)))) (hk _ List.mem_cons_self).2) (evs_cons (ev_name (.tail _ (.tail _ (.tail _ (.head _))))) (evs_one (ev_name (.tail _ (.tail _ (.tail _ (.tail _ (.head _))))))))))
      (ekw_cons (ev_name (.tail _ (.tail _ (.tail _ (.tail _ (.tail _ (.head _))))))) ekw_nil) (d32 _)
      (spec_bisect4k (n := n) Kk (by (first | lia | omega)) (hk _ List.mem_cons_self).1 (fun d hd => hk d (List.mem_cons_of_mem _ hd)) (by (first | lia | omega))) (by (first | lia | omega)))) (at_of iE (by kernel_rfl)) (ρ' := rI a ds dx (.val (.ref _)) _) (.tail (.tail (.tail .head))) fun s₂ F2 _ => wpAny_execs_nil ?_
    exact insort_tail iE c hb F2 hx hds hle hz h

noncomputable abbrev insAt (ds : List D) (dx : D) (kf : D → D) (lo : Nat) : Nat := bis (fun i => dlt (kf (ds.getD i .none)) (kf dx)) ds.length lo ds.length

theorem spec_insort3 {ds : List D} {dx kd : D} {lo : Nat} {kf : D → D} {b : Bool} (K : KeyD G n b dx ds kd kf) (hlo : lo ≤ ds.length) (hz : ds.length < 2 ^ 20) : SpecIns G (n + 7) ds dx [.int lo] ["key"] [kd] (insAt ds dx kf lo) := fun A s a k ws vx vs us c hb hg r0 rx r1 r2 => by
  obtain ⟨vl, _, rfl, rl, rfl⟩ := r1
  obtain ⟨vk, _, rfl, rk, rfl⟩ := r2
  refine enter (n := n + 6) c (d23 _) (b23 _) (s23 _) (by kernel_rfl) (binds := [(Str.ofString "a", .ref a), (Str.ofString "x", vx), (Str.ofString "lo", vl), (Str.ofString "hi", .none), (Str.ofString "key", vk)]) (fun S => by kernel_rfl) (by simp only [List.map]; decide) (by kernel_rfl)
    (.cons (d := .val (.ref a)) (by simp only [Rel]) (.cons rx (.cons rl (.cons (d := .none) (by simp only [Rel]) (.cons rk .nil))))) fun env s₁ iE hfr F hk _ => ?_
  have hlist : Rel (fun _ => True) s₁.heap (.list ds) (.ref a) := by
    simp only [Rel]; exact ⟨a, ws, k, rfl, trivial, hk _ _ hg, r0.kept c.tab (.of hk)⟩
  exact insort_body K iE c hb (F.see (.head _) hlist) hlo hz fun s' cx m w => ⟨rfl, cx, m, w⟩
theorem spec_insort2 {ds : List D} {dx kd : D} {kf : D → D} {b : Bool} (K : KeyD G n b dx ds kd kf) (hz : ds.length < 2 ^ 20) : SpecIns G (n + 7) ds dx [] ["key"] [kd] (insAt ds dx kf 0) := fun A s a k ws vx vs us c hb hg r0 rx r1 r2 => by
  obtain rfl := r1
  obtain ⟨vk, _, rfl, rk, rfl⟩ := r2
  refine enter (n := n + 6) c (d23 _) (b23 _) (s23 _) (by kernel_rfl) (binds := [(Str.ofString "a", .ref a), (Str.ofString "x", vx), (Str.ofString "lo", .int 0 189), (Str.ofString "hi", .none), (Str.ofString "key", vk)]) (fun S => by kernel_rfl) (by simp only [List.map]; decide) (by kernel_rfl)
    (.cons (d := .val (.ref a)) (by simp only [Rel]) (.cons rx (.cons (d := .int (0 : Nat)) (by simp only [Rel]; exact ⟨189, rfl⟩) (.cons (d := .none) (by simp only [Rel]) (.cons rk .nil))))) fun env s₁ iE hfr F hk _ => ?_
  have hlist : Rel (fun _ => True) s₁.heap (.list ds) (.ref a) := by
    simp only [Rel]; exact ⟨a, ws, k, rfl, trivial, hk _ _ hg, r0.kept c.tab (.of hk)⟩
  exact insort_body K iE c hb (F.see (.head _) hlist) (Nat.zero_le _) hz fun s' cx m w => ⟨rfl, cx, m, w⟩

/-- insort_left as a statement -/
theorem st_insort {x : String} {fpos px pos epos : Pos} {ex : Expr} {es : List Expr} {ks : List Keyword} {a : Addr} {ds : List D} {dx : D} {dr kds : List D} {names : List Str} {i m : Nat} {Q : Flow → Shared → Prop} {E : Value → Shared → Prop} {rest : List Stmt} {func : Str}
    (F : Fst G n A env ok ρ s₀ sT s) (O : Own G ok s₀ s a ds) (hf : Ev G n A env ok ρ (.Name func fpos) (.val (.ref 23))) (hm : (x, .val (.ref a)) ∈ ρ) (hx : Ev G n A env ok ρ ex dx) (hr : Evs G n A env ok ρ es dr) (hk : Ekw G n A env ok ρ ks names kds)
    (hs : SpecIns G m ds dx dr names kds i) (hn : m ≤ n) (hfl : ∀ d ∈ dx :: ds, Flat d)
    (h : ∀ s', Fst G n A env ok ρ s₀ sT s' → Own G ok s₀ s' a (ds.take i ++ dx :: ds.drop i) → (∀ b ds', b ≠ a → Own G ok s₀ s b ds' → Own G ok s₀ s' b ds') → wpAny G.M A (execs rest env) Q E s')
    (he : ∀ rest : List Expr, starEach (ex :: rest) env = (false, eval ex env) :: starEach rest env := by intro _; rfl)
    (hsw : swapsWith (.Call (.Name func fpos) (.Name (Str.ofString x) px :: ex :: es) ks pos) none epos.line env = pure false := by rfl) (h1 : (Str.ofString x == ("__debug__" : Str)) = false := by decide) (h2 : (Str.ofString x == ("__classdict__" : Str)) = false := by decide) :
    wpAny G.M A (execs (.Expr (.Call (.Name func fpos) (.Name (Str.ofString x) px :: ex :: es) ks pos) epos :: rest) env) Q E s := by
  have hint : interactive env = false := by
    unfold interactive
    rw [F.sat.eo.kind]; rfl
  refine st_of (wpAny_Expr_any (wpAny_Call_Name_kw (Ev.to (hf s F.cx F.sat) fun v s₁ h00 => ?_)) hint hsw)
  obtain ⟨a1, r1⟩ := h00
  obtain rfl := r1
  have F1 := F.aft a1
  have O1 := O.aft F.cx a1
  obtain ⟨o, fd, ho, hd⟩ := isDef_there (d23 _) s₁ F1.cx
  refine callWith_function_kw (o := o) (fd := fd) (wp_evalArgs (ds := .val (.ref a) :: dx :: dr) (evs_cons (ev_name hm h1 h2) (evs_cons hx hr he)) hk ⟨_, _, rfl, fun _ => rfl⟩ F1.cx F1.sat fun s₂ vs us a2 r2 r3 => ⟨⟨?_, hd⟩, ?_⟩)
  · exact a2.1.kept.get (ne_tab F1.cx.tab ho fun ws q => by rw [hd] at q; cases q) ho fun es ep q => by rw [hd] at q; cases q
  · simp only [RelAll] at r2
    obtain ⟨_, _, rfl, e1, vx, vr, rfl, rx, rr⟩ := r2
    obtain rfl := e1
    have F2 := F1.aft a2
    have O2 := O1.aft F1.cx a2
    obtain ⟨ws, k, hg, rw0⟩ := O2.cont
    refine wpAny_call (codeAny_mono (hs A s₂ a k ws vx vr us (F2.cx.less hn) O2.base hg (rw0.weak fun _ _ => trivial) (rx.weak fun _ _ => trivial) (rr.weak fun _ _ => trivial) (r3.weak fun _ _ => trivial)) fun r s' h00 => ?_)
    obtain ⟨er, cx, mm, ws', k', hg', rr'⟩ := h00
    subst er
    have cx' : Cx G n A s' := ⟨cx.stays, cx.tab, cx.fr, cx.hh, F2.cx.dep, F2.cx.un, cx.bare⟩
    have fl : ∀ d ∈ ds.take i ++ dx :: ds.drop i, Flat d := fun d hd => by
      rcases List.mem_append.mp hd with q | q
      · exact hfl d (List.mem_cons_of_mem _ (List.mem_of_mem_take q))
      · rcases List.mem_cons.mp q with rfl | q
        · exact hfl _ List.mem_cons_self
        · exact hfl d (List.mem_cons_of_mem _ (List.mem_of_mem_drop q))
    obtain ⟨F3, O3, K3⟩ := own_mod F2 O2 mm cx' hg' (RelAll.flat fl rr')
    exact h s' F3 O3 fun b ds' hb O' => K3 b ds' hb ((O'.aft F.cx a1).aft F1.cx a2)
end
end Mine
/-! B4 -/
namespace Mine

noncomputable abbrev zs (l : List Int) : List D := l.map .int
noncomputable def cellAt (own xs : List Int) : Nat → List Int
  | 0 => own
  | i + 1 => (cellAt own xs i).set (i % own.length) ((cellAt own xs i).getD (i % own.length) 0 + xs.getD i 0 % 1000000)
theorem cellAt_len (own xs : List Int) : ∀ i, (cellAt own xs i).length = own.length
  | 0 => rfl
  | i + 1 => by simp [cellAt, cellAt_len own xs i]

theorem d75 (P : Params) : isDef (hd.heap_1 P) 75 = true := by kernel_rfl
theorem b75 (P : Params) : (fdOf (hd.heap_1 P) 75).body = .stmts (bodyOf (stAt 13)) := by kernel_rfl
theorem s75 (P : Params) : (fdOf (hd.heap_1 P) 75).scope = scopeOf (stAt 13) := by kernel_rfl

section
variable {G : W0} {n : Nat} {A : Around} {env : Env} {ok : Addr → Prop} {ρ : List (String × D)}

theorem zs_get {l : List Int} {i : Nat} (h : i < l.length) : (zs l)[i]? = some (.int (l.getD i 0)) := by
  rw [List.getElem?_map, List.getElem?_eq_getElem h, List.getD_eq_getElem?_getD, List.getElem?_eq_getElem h]; rfl
theorem zs_set {l : List Int} {i : Nat} {x : Int} : zs (l.set i x) = (zs l).set i (.int x) := by rw [zs, List.map_set]

theorem spec_cells {own xs : List Int} (ho : 0 < own.length) (ho2 : own.length < 1000) (hx : xs.length < 1000) :
    Spec G (n + 2) 75 [.list (zs own), .list (zs xs)] [] [] (.list (zs (cellAt own (xs.take 60) (xs.take 60).length))) := fun A s vs us c r1 r2 => by
  obtain ⟨va, _, rfl, ra, vx, _, rfl, rx, rfl⟩ := r1
  obtain rfl := r2
  refine enter (n := n + 1) c (d75 _) (b75 _) (s75 _) (by kernel_rfl) (binds := [(Str.ofString "own", va), (Str.ofString "script", vx)]) (fun S => by kernel_rfl) (by simp only [List.map]; decide) (by kernel_rfl)
    (.cons ra (.cons rx .nil)) fun env s₁ iE hfr F _ _ => gen fun Q E hQ hE => ?_
  have gb : ∀ x : String, (scopeOf (stAt 13)).names.lookup (Str.ofString x) = some .globalImplicit → env.kindOf (Str.ofString x) = some .globalImplicit := fun x h => iE.kinds _ _ h (by decide)
  refine st_own F (evf_listL F.cx F.sat (ev_blt (gb "list" (by kernel_rfl)) (by kernel_rfl) (by kernel_rfl)) (ev_name (.head _)) (by unfold sizeLine; simp; (first | lia | omega))) (at_of iE (by kernel_rfl)) (ρ' := fun a => [("own", .list (zs own)), ("script", .list (zs xs)), ("cells", .val (.ref a))]) (fun a => .tail (.tail .nil)) fun s₂ a F2 O2 _ => ?_
  have hsl : (((zs xs).drop ((none : Option Int).elim 0 (clipAt (zs xs).length))).take ((some (60 : Int)).elim (zs xs).length (clipAt (zs xs).length) - (none : Option Int).elim 0 (clipAt (zs xs).length))) = zs (xs.take 60) := by
    simp only [Option.elim, List.drop_zero, Nat.sub_zero, zs, List.map_take]
    have : clipAt (xs.map D.int).length 60 = min 60 (xs.map D.int).length := clipAt_nat _ 60
    rw [this, ← List.take_take, List.take_length]
  refine st_for1 (fun i => zs (cellAt own (xs.take 60) i)) (xs.take 60).length (wp_enum (ds := zs (xs.take 60)) F2 F2.sat (ev_blt (gb "enumerate" (by kernel_rfl)) (by kernel_rfl) (by kernel_rfl)) (hsl ▸ ev_slice (ev_name (.tail _ (.head _))) part_none (part_some ev_int) (by unfold sizeLine; simp; (first | lia | omega))) fun s' x => ⟨(F2.aft x).reset, O2.aft F2.cx x⟩)
    (fun i d ⟨x, hx, _⟩ => by have := (List.getElem?_eq_some_iff.mp hx).1; simpa using this) ?_ ?_
  · rintro i d s₃ v ⟨x, hx, rfl⟩ F3 O3 r
    have hi : i < (xs.take 60).length := by have := (List.getElem?_eq_some_iff.mp hx).1; simpa using this
    rw [zs_get hi] at hx
    cases hx
    refine F3.assign (tgt_pair (tgtN (at_of iE (by kernel_rfl)) (.tail (.tail (.tail .nil)))) (tgtN (at_of iE (by kernel_rfl)) (.tail (.tail (.tail (.tail .nil)))))) r fun s₄ F4 k4 => ?_
    have O4 := k4 _ _ O3
    have hlen := cellAt_len own (xs.take 60) i
    have hm : ((i : Int) % (own.length : Int)) = ((i % own.length : Nat) : Int) := by (first | lia | omega)
    have hlt : i % own.length < (cellAt own (xs.take 60) i).length := by rw [hlen]; exact Nat.mod_lt _ ho
    have idx : ∀ {ok' : Addr → Prop} {ρ' : List (String × D)} {e1 e2 : Expr} {q : Pos}, Ev G (n + 1) (A.deeper env) env ok' ρ' e1 (.int i) → Ev G (n + 1) (A.deeper env) env ok' ρ' e2 (.int own.length) → Ev G (n + 1) (A.deeper env) env ok' ρ' (.BinOp e1 .Mod e2 q) (.int ((i % own.length : Nat) : Int)) := fun h1 h2 => hm ▸ ev_mod h1 h2 (by (first | lia | omega))
    have lenE : ∀ {ok' : Addr → Prop} {q1 q2 q3 : Pos} {ρ'' : List (String × D)}, ("own", D.list (zs own)) ∈ ρ'' → Ev G (n + 1) (A.deeper env) env ok' ρ'' (.Call (.Name (Str.ofString "len") q1) [.Name (Str.ofString "own") q2] [] q3) (.int own.length) := fun {ok' q1 q2 q3 ρ''} h => by
      have := ev_lenL (fpos := q1) (pos := q3) (ev_blt (gb "len" (by kernel_rfl)) (by kernel_rfl) (by kernel_rfl)) (ev_name (G := G) (n := n + 1) (A := A.deeper env) (ok := ok') (pos := q2) h) (by simp; (first | lia | omega))
      simpa using this
    refine st_setitem (k := ((i % own.length : Nat) : Int)) F4 (.tail _ (.tail _ (.head _))) O4 (fun s' F' O' => F'.sat.full O' (.tail _ (.tail _ (.head _))))
      (ev_add (ev_item (k := ((i % own.length : Nat) : Int)) (ev_name (.head _)) (idx (ev_name (.tail _ (.tail _ (.tail _ (.tail _ (.head _)))))) (lenE (.tail _ (.head _)))) (by (first | lia | omega)) (by (first | lia | omega)) (by rw [Int.toNat_natCast]; exact zs_get hlt)) (ev_mod (ev_name (.tail _ (.tail _ (.tail _ (.tail _ (.tail _ (.head _))))))) (ev_pow (k := 6) ev_int ev_int (by decide) (by decide)) (by decide))) trivial
      (idx (ev_name (.tail _ (.tail _ (.tail _ (.tail _ (.head _)))))) (lenE (.tail _ (.head _)))) (by (first | lia | omega)) (by simp; (first | lia | omega)) (by simp; (first | lia | omega)) fun s₅ F5 O5 => wpAny_execs_nil ⟨F5.sub fun q hq => ?_, ?_⟩
    · simp only [List.mem_cons, List.not_mem_nil, or_false] at hq ⊢; rcases hq with q | q | q <;> simp [q]
    · have e : (zs (cellAt own (xs.take 60) i)).set (((i % own.length : Nat) : Int)).toNat (.int ((cellAt own (xs.take 60) i).getD (i % own.length) 0 + (xs.take 60).getD i 0 % 10 ^ 6)) = zs (cellAt own (xs.take 60) (i + 1)) := by
        rw [Int.toNat_natCast, ← zs_set]; rfl
      rw [← e]; exact O5
  · rintro i s' rfl F' O'
    refine no_orelse ?_
    have e : (zs (List.take 60 xs)).length = (xs.take 60).length := List.length_map ..
    rw [e] at O'
    exact st_retown F' O' (.tail _ (.tail _ (.head _))) (fun d hd => by obtain ⟨x, _, rfl⟩ := List.mem_map.mp hd; trivial) fun s'' v F'' r => hQ _ _ ⟨v, rfl, F''.done c, r⟩
end
end Mine
/-! B5 -/
namespace Mine

theorem d80 (P : Params) : isDef (hd.heap_1 P) 80 = true := by kernel_rfl
theorem b80 (P : Params) : (fdOf (hd.heap_1 P) 80).body = .stmts (bodyOf (stAt 14)) := by kernel_rfl
theorem s80 (P : Params) : (fdOf (hd.heap_1 P) 80).scope = scopeOf (stAt 14) := by kernel_rfl

/-- the row, grown -/
noncomputable def rowAt (things : List D) : Nat → List D
  | 0 => things
  | i + 1 => if leq (((rowAt things i).drop (insAt (rowAt things i) (things.getD i .none) id things.length)).take 1) [things.getD i .none] then rowAt things i
      else (rowAt things i).take (insAt (rowAt things i) (things.getD i .none) id things.length) ++ things.getD i .none :: (rowAt things i).drop (insAt (rowAt things i) (things.getD i .none) id things.length)
noncomputable def rankOf (things : List D) (t : D) : Int := (insAt (rowAt things things.length) t id things.length : Int) - things.length
noncomputable abbrev ranksF (things : List D) : List Int := things.map (rankOf things)

theorem rowAt_len (things : List D) : ∀ i, things.length ≤ (rowAt things i).length ∧ (rowAt things i).length ≤ things.length + i
  | 0 => ⟨Nat.le_refl _, Nat.le_refl _⟩
  | i + 1 => by
    have := rowAt_len things i
    unfold rowAt
    split
    · (first | lia | omega)
    · have hl : insAt (rowAt things i) (things.getD i .none) id things.length ≤ (rowAt things i).length := bis_le _ _ _ this.1
      revert hl; generalize insAt (rowAt things i) (things.getD i .none) id things.length = m; intro hl
      simp only [List.length_append, List.length_take, List.length_cons, List.length_drop]
      (first | lia | omega)
theorem rowAt_atom {b : Bool} {things : List D} (h : ∀ d ∈ things, Atom b d) : ∀ i, i ≤ things.length → ∀ d ∈ rowAt things i, Atom b d
  | 0, _, d, hd => h d hd
  | i + 1, hi, d, hd => by
    have ih := rowAt_atom h i (by omega)
    unfold rowAt at hd
    split at hd
    · exact ih d hd
    · rcases List.mem_append.mp hd with q | q
      · exact ih d (List.mem_of_mem_take q)
      · rcases List.mem_cons.mp q with rfl | q
        · exact h _ (List.mem_of_getElem? (getD_some (by omega)))
        · exact ih d (List.mem_of_mem_drop q)

section
variable {G : W0} {n : Nat} {A : Around} {env : Env} {ok : Addr → Prop} {ρ : List (String × D)}

theorem freeOk {sc1 sc2 : Scope} {X : Addr → Prop} (iE : IsComp sc1 env X) (h : (sc2.names.all fun y => y.2 != .free || sc1.names.lookup y.1 == some .cell || sc1.names.lookup y.1 == some .free) = true) : FreeOk sc2 env := fun y hy hk => by
  have := List.all_eq_true.mp h y hy
  simp only [hk, Bool.or_eq_true, beq_iff_eq, bne_self_eq_false, Bool.false_eq_true, false_or] at this
  rcases this with q | q
  · exact iE.has y.1 _ q (.inr rfl)
  · exact iE.has y.1 _ q (.inl rfl)
theorem Sub.cell {sc1 sc2 : Scope} {X : Addr → Prop} {x : String} {d : D} {r : List (String × D)} (iE : IsComp sc1 env X) (hm : (x, d) ∈ ρ) (h2 : sc2.names.lookup (Str.ofString x) = some .free) (h1 : sc1.names.lookup (Str.ofString x) = some .cell) (s : Sub sc2 env ρ r) : Sub sc2 env ρ ((x, d) :: r) :=
  .cons hm h2 (by rw [iE.kinds _ _ h1 (by decide)]; nofun) s
theorem Sub.free {sc1 sc2 : Scope} {X : Addr → Prop} {x : String} {d : D} {r : List (String × D)} (iE : IsComp sc1 env X) (hm : (x, d) ∈ ρ) (h2 : sc2.names.lookup (Str.ofString x) = some .free) (h1 : sc1.names.lookup (Str.ofString x) = some .free) (s : Sub sc2 env ρ r) : Sub sc2 env ρ ((x, d) :: r) :=
  .cons hm h2 (iE.fr _ h1) s
theorem bk (S : EnvOk G env h) : env.blockKind = .function := by unfold Env.blockKind; rw [S.kind]; rfl

theorem keyStr : Key G 1 61 id (fun d => Atom false d) := ⟨fun m A s c => isDef_there (d61 _) s c, fun d hd => by
  cases d <;> first | exact hd.elim | skip
  exact spec_strxfrm (n := 0) _⟩
/-- the two keys of the ranks -/
inductive RK : Bool → D → Prop
  | none {b : Bool} : RK b .none
  | str : RK false (.val (.ref 61))
theorem RK.keyD {b : Bool} {kd dx : D} {ds : List D} (r : RK b kd) (hx : Atom b dx) (hds : ∀ d ∈ ds, Atom b d) : KeyD G 1 b dx ds kd id := by
  cases r with
  | none => exact .none hx hds
  | str =>
    refine .key keyStr hx hds (b' := false) fun d hd => ?_
    rcases List.mem_cons.mp hd with rfl | hd
    · exact ⟨hx, hx⟩
    · exact ⟨hds d hd, hds d hd⟩
theorem spec_bis {b : Bool} {kd dx : D} {ds : List D} {lo : Nat} (r : RK b kd) (hx : Atom b dx) (hds : ∀ d ∈ ds, Atom b d) (hz : ds.length < 2 ^ 40) : Spec G (n + 5) 32 [.list ds, dx, .int lo] ["key"] [kd] (.int (insAt ds dx id lo)) := by
  cases r with
  | none => exact spec_bisect3 hx hds hz
  | str => exact spec_bisect3k keyStr (by (first | lia | omega)) hx (fun d hd => ⟨hds d hd, hds d hd⟩) hz

/-- the thing, by its key -/
theorem ev_keyed {b : Bool} {kd dx : D} {ek e0 e0' : Expr} {func : Str} {q1 q2 q3 q4 fpos : Pos} {k : Nat} (r : RK b kd) (hx : Atom b dx) (hn : 1 ≤ n) (h0 : Ev G n A env ok ρ e0 dx) (hk : Ev G n A env ok ρ ek kd) (hf : Ev G n A env ok ρ (.Name func fpos) kd) (h0' : Ev G n A env ok ρ e0' dx)
    (he : ∀ rest : List Expr, starEach (e0' :: rest) env = (false, eval e0' env) :: starEach rest env := by intro _; rfl) :
    Ev G n A env ok ρ (.IfExp (.Compare ek [.Is] [.Constant .none k q1] q2) e0 (.Call (.Name func fpos) [e0'] [] q3) q4) dx := by
  cases r with
  | none => exact ev_ifexp (b := true) (tst_cmp hk ev_none cmp_isNone) (fun _ => h0) (fun h => by cases h)
  | str => exact ev_ifexp (b := false) (tst_cmp hk ev_none cmp_isNot) (fun h => by cases h) (fun _ => ev_key keyStr hn hf h0' hx he)
/-- one item, as a slice -/
theorem ev_slice1 {value e1 e2 : Expr} {p pos : Pos} {ds : List D} {k : Nat} (hv : Ev G n A env ok ρ value (.list ds)) (hl : Ev G n A env ok ρ e1 (.int k)) (hu : Ev G n A env ok ρ e2 (.int ((k : Int) + 1))) (hk : k ≤ ds.length) (hz : ds.length ≤ sizeLine)
    (ht : ∀ o r, letTemporaryGo value o r = pure () := by intro _ _; rfl) : Ev G n A env ok ρ (.Subscript value (.Slice (some e1) (some e2) none p) pos) (.list ((ds.drop k).take 1)) := by
  have h := ev_slice (pos := pos) (p := p) hv (part_some hl) (part_some hu) hz ht
  have c1 : clipAt ds.length (k : Int) = k := (clipAt_nat _ _).trans (Nat.min_eq_left hk)
  have c2 : clipAt ds.length ((k : Int) + 1) = min (k + 1) ds.length := clipAt_nat ds.length (k + 1)
  simp only [Option.elim, c1, c2] at h
  have e : (ds.drop k).take (min (k + 1) ds.length - k) = (ds.drop k).take 1 := by
    by_cases hlt : k < ds.length
    · rw [show min (k + 1) ds.length - k = 1 by (first | lia | omega)]
    · rw [List.drop_eq_nil_of_le (by (first | lia | omega))]; simp
  rw [e] at h
  exact h

theorem spec_ranks {b : Bool} {kd : D} {things : List D} (r : RK b kd) (ht : ∀ d ∈ things, Atom b d) (hz : things.length < 2 ^ 18) :
    Spec G (n + 9) 80 [.list things, kd] [] [] (.list (zs (ranksF things))) := fun A s vs us c r1 r2 => by
  obtain ⟨va, _, rfl, ra, vx, _, rfl, rx, rfl⟩ := r1
  obtain rfl := r2
  refine enter (n := n + 8) c (d80 _) (b80 _) (s80 _) (by kernel_rfl) (binds := [(Str.ofString "things", va), (Str.ofString "key", vx)]) (fun S => by kernel_rfl) (by simp only [List.map]; decide) (by kernel_rfl)
    (.cons ra (.cons rx .nil)) fun env s₁ iE hfr F _ _ => gen fun Q E hQ hE => ?_
  have gb : ∀ x : String, (scopeOf (stAt 14)).names.lookup (Str.ofString x) = some .globalImplicit → env.kindOf (Str.ofString x) = some .globalImplicit := fun x h => iE.kinds _ _ h (by decide)
  -- row, front
  refine st_pair (K := fun v1 v2 s' => ∃ a vs k t, v1 = .ref a ∧ v2 = .int things.length t ∧ s₁.heap.get? a = none ∧ Aft G (n + 8) (A.deeper env) s₁ s' ∧ s'.heap.get? a = some (LO vs k) ∧ RelAll (But (fun _ => True) a) s'.heap things vs) F.cx.hh
    (wp_pair (R := fun v1 v2 s' => ∃ a vs k t, v1 = .ref a ∧ v2 = .int things.length t ∧ s₁.heap.get? a = none ∧ Aft G (n + 8) (A.deeper env) s₁ s' ∧ s'.heap.get? a = some (LO vs k) ∧ RelAll (But (fun _ => True) a) s'.heap things vs)
      (Ev.to (evf_listL F.cx F.sat (ev_blt (gb "list" (by kernel_rfl)) (by kernel_rfl) (by kernel_rfl)) (ev_name (.head _)) (by unfold sizeLine; (first | lia | omega))) fun v1 s₂ ⟨x, a, vs, k, e, hn, hg, rr⟩ => ?_) ?_) ?_ (swapped_no (bk F.sat.eo) (iE.kinds _ _ (by kernel_rfl) (by decide)))
  · have F2 := F.aft x
    refine Ev.to (F2.ev (ev_lenL (ev_blt (gb "len" (by kernel_rfl)) (by kernel_rfl) (by kernel_rfl)) (ev_name (.head _)) (by (first | lia | omega)))) fun v2 s₃ h00 => ?_
    obtain ⟨x2, r2⟩ := h00
    obtain ⟨t, rfl⟩ := r2
    exact ⟨a, vs, k, t, e, rfl, hn, x.trans x2, x2.1.kept.get (ne_tab F2.cx.tab hg (IsSeq.nf ⟨_, _, rfl⟩)) hg (IsSeq.nd ⟨_, _, rfl⟩), rr.kept F2.cx.tab x2.1.kept⟩
  · rintro v1 v2 s₂ ⟨a, vs, k, t, e1, e2, hn, x, hg, rr⟩
    have x2 := x.2.keeps (h' := s₂.heap.push (TO [v1, v2] 0)) (tk := s₂.toks) fun b o e => Heap.get?_push_of_some _ e
    exact ⟨v1, v2, s₂.heap.objs.size, 0, rfl, Heap.get?_push_size _ rfl, a, vs, k, t, e1, e2, hn, x.trans x2, Heap.get?_push_of_some _ hg, rr.kept x.2.tab x2.1.kept⟩
  rintro v1 v2 s₂ h' ⟨a, vs, k, t, rfl, rfl, hn, x, hg, rr⟩ hk'
  have x2 := x.2.keeps (h' := h') (tk := s₂.toks) hk'
  have F2 := F.apart (x.trans x2) hn (hk' _ _ hg)
  obtain ⟨h0, hb⟩ := F.old hn
  have O2 : Own G (But (fun _ => True) a) s { s₂ with heap := h' } a things := ⟨⟨vs, k, hk' _ _ hg, rr.kept x.2.tab x2.1.kept⟩, fun h => h.2 rfl, h0, hb⟩
  refine F2.store (at_ofC iE (by kernel_rfl)) (d := .val (.ref a)) (by simp only [Rel]) (ρ' := [("things", .list things), ("key", kd), ("row", .val (.ref a))]) (.tail (.tail .nil)) fun s₃ F3 k3 => ?_
  refine F3.store (at_ofC iE (by kernel_rfl)) (d := .int things.length) ⟨t, rfl⟩ (ρ' := [("things", .list things), ("key", kd), ("row", .val (.ref a)), ("front", .int things.length)]) (.tail (.tail (.tail .nil))) fun s₄ F4 k4 => ?_
  have O4 := (O2.sol k3).sol k4
  -- the loop
  refine st_for1 (fun i => rowAt things i) things.length (wp_src F4 F4.sat ⟨_, _, c⟩ (src_list (ev_name (.head _))) (.inl fun _ _ => rfl) fun s' x => ⟨(F4.aft x).reset, O4.aft F4.cx x⟩) (fun i d h => (List.getElem?_eq_some_iff.mp h).1) ?_ ?_
  · rintro i d s₅ v hd F5 O5 rd
    have hi : i < things.length := (List.getElem?_eq_some_iff.mp hd).1
    have had : Atom b d := ht d (List.mem_of_getElem? hd)
    have hgd : things.getD i .none = d := by rw [List.getD_eq_getElem?_getD, hd]; rfl
    have hrow := rowAt_atom ht i (by (first | lia | omega))
    have hlen := rowAt_len things i
    refine F5.assign (tgtN (at_of iE (by kernel_rfl)) (ρ' := [("things", .list things), ("key", kd), ("row", .val (.ref a)), ("front", .int things.length), ("thing", d)]) (.tail (.tail (.tail (.tail .nil))))) rd fun s₆ F6 k6 => ?_
    have O6 := k6 _ _ O5
    have hsp : Spec G (n + 5) 32 [.list (rowAt things i), d, .int things.length] ["key"] [kd] (.int (insAt (rowAt things i) d id things.length)) := spec_bis r had hrow (by (first | lia | omega))
    refine st_set F6 (wide (ev_call (fa := 32) (ds := [.list (rowAt things i), d, .int things.length]) (kds := [kd]) (names := ["key"]) (ev_glob (gb "bisect_left" (by kernel_rfl)) (by kernel_rfl))
      (evs_cons (ev_name (.head _)) (evs_cons (ev_keyed r had (by (first | lia | omega)) (ev_name (.tail _ (.tail _ (.tail _ (.tail _ (.tail _ (.head _))))))) (ev_name (.tail _ (.tail _ (.head _)))) (ev_name (.tail _ (.tail _ (.head _)))) (ev_name (.tail _ (.tail _ (.tail _ (.tail _ (.tail _ (.head _)))))))) (evs_one (ev_name (.tail _ (.tail _ (.tail _ (.tail _ (.head _)))))))))
      (ekw_cons (ev_name (.tail _ (.tail _ (.head _)))) ekw_nil) (d32 _) hsp (by (first | lia | omega))) trivial F6.cx (F6.sat.full O6 (.tail _ (.tail _ (.head _))))) (at_of iE (by kernel_rfl)) (ρ' := [("things", .list things), ("key", kd), ("row", .val (.ref a)), ("front", .int things.length), ("thing", d), ("place", .int (insAt (rowAt things i) d id things.length))])
      (.tail (.tail (.tail (.tail (.tail .nil))))) fun s₇ F7 k7 => ?_
    have O7 := k7 _ _ O6
    have hins : insAt (rowAt things i) d id things.length ≤ (rowAt things i).length := bis_le _ _ _ hlen.1
    have hat : ∀ q ∈ ((rowAt things i).drop (insAt (rowAt things i) d id things.length)).take 1, Atom b q := fun q hq => hrow q (List.mem_of_mem_drop (List.mem_of_mem_take hq))
    refine st_ifW F7 (F7.sat.full O7 (.tail _ (.tail _ (.head _)))) (tst_cmp (ev_slice1 (ev_name (.head _)) (ev_name (.tail _ (.tail _ (.tail _ (.tail _ (.tail _ (.tail _ (.head _)))))))) (ev_add (ev_name (.tail _ (.tail _ (.tail _ (.tail _ (.tail _ (.tail _ (.head _)))))))) ev_int) hins (by unfold sizeLine; (first | lia | omega)))
      (ev_list (ds := [d]) (evs_one (ev_name (.tail _ (.tail _ (.tail _ (.tail _ (.tail _ (.head _)))))))) (by simp [sizeLine])) (cmp_lne (b := b) hat (by simpa using had))) fun s₈ F8 k8 => ?_
    have O8 := k8 _ _ O7
    have estep : rowAt things (i + 1) = if leq (((rowAt things i).drop (insAt (rowAt things i) d id things.length)).take 1) [d] then rowAt things i else (rowAt things i).take (insAt (rowAt things i) d id things.length) ++ d :: (rowAt things i).drop (insAt (rowAt things i) d id things.length) := by
      rw [rowAt, hgd]
    have sub6 : ∀ p ∈ [("things", D.list things), ("key", kd), ("row", D.val (Value.ref a)), ("front", D.int things.length)], p ∈ [("things", D.list things), ("key", kd), ("row", D.val (Value.ref a)), ("front", D.int things.length), ("thing", d), ("place", D.int (insAt (rowAt things i) d id things.length))] := fun p hp => List.mem_append_left [("thing", d), ("place", D.int (insAt (rowAt things i) d id things.length))] hp
    cases hq : leq (((rowAt things i).drop (insAt (rowAt things i) d id things.length)).take 1) [d] with
    | true =>
      rw [hq] at estep
      simp only [Bool.not_true, Bool.false_eq_true, if_false, if_true] at estep ⊢
      rw [estep]
      exact wpAny_execs_nil (wpAny_execs_nil ⟨F8.sub sub6, O8⟩)
    | false =>
      rw [hq] at estep
      simp only [Bool.not_false, Bool.false_eq_true, if_false, if_true] at estep ⊢
      rw [estep]
      refine st_insort F8 O8 (ev_glob (gb "insort_left" (by kernel_rfl)) (by kernel_rfl)) (.tail _ (.tail _ (.head _))) (ev_name (.tail _ (.tail _ (.tail _ (.tail _ (.head _)))))) (evs_one (ev_name (.tail _ (.tail _ (.tail _ (.head _)))))) (ekw_cons (ev_name (.tail _ (.head _))) ekw_nil)
        (spec_insort3 (n := 1) (r.keyD had hrow) hlen.1 (by (first | lia | omega))) (by (first | lia | omega)) (fun q hq => by
          rcases List.mem_cons.mp hq with rfl | hq
          · exact had.flat
          · exact (hrow q hq).flat) fun s₉ F9 O9 _ => wpAny_execs_nil (wpAny_execs_nil ⟨F9.sub sub6, O9⟩)
  · rintro i s' rfl F' O'
    refine no_orelse ?_
    have hrow := rowAt_atom ht things.length (Nat.le_refl _)
    have hlen := rowAt_len things things.length
    have e2 : ((things.filter fun _ => true).map fun d => D.int (rankOf things d)) = zs (ranksF things) := by
      rw [List.filter_eq_self.mpr (fun _ _ => rfl), zs, List.map_map]; rfl
    refine st_retnew (ds := zs (ranksF things)) (ok' := fun b => But (fun _ => True) a b ∨ b = a) F' (evn_comp (G := G) (n := n + 8) (A := A.deeper env) (env := env) (s := s') (ok := fun b => But (fun _ => True) a b ∨ b = a) (ρ := ("row", .list (rowAt things things.length)) :: [("things", .list things), ("key", kd), ("row", .val (.ref a)), ("front", .int things.length)])
      things id (fun _ => true) (fun d => D.int (rankOf things d)) (fun d => [("thing", d)]) (ρc := [("row", .list (rowAt things things.length)), ("key", kd), ("front", .int things.length)])
      (by rw [List.map_id]; exact src_list (ev_name (.tail _ (.head _)))) rfl (by decide) (freeOk iE (by kernel_rfl)) (.cell iE (.head _) (by kernel_rfl) (by kernel_rfl) (.cell iE (.tail _ (.tail _ (.head _))) (by kernel_rfl) (by kernel_rfl) (.cell iE (.tail _ (.tail _ (.tail _ (.tail _ (.head _))))) (by kernel_rfl) (by kernel_rfl) .nil)))
      (.inl fun _ _ => rfl) (fun cenv ok' X iC x hx => tgt_name (iC.atX _ _ (by kernel_rfl) (.inl rfl)) (.tail (.tail (.tail .nil)))) (fun cenv ok' X iC x hx => tests_nil)
      (fun cenv ok' X iC x hx _ => ev_sub (ev_call (fa := 32) (ds := [.list (rowAt things things.length), x, .int things.length]) (kds := [kd]) (names := ["key"]) (ev_glob (iC.kinds _ _ (by kernel_rfl) (by decide)) (by kernel_rfl))
          (evs_cons (ev_name (.head _)) (evs_cons (ev_keyed r (ht x hx) (by (first | lia | omega)) (ev_name (.tail _ (.tail _ (.tail _ (.head _))))) (ev_name (.tail _ (.head _))) (ev_name (.tail _ (.head _))) (ev_name (.tail _ (.tail _ (.tail _ (.head _)))))) (evs_one (ev_name (.tail _ (.tail _ (.head _)))))))
          (ekw_cons (ev_name (.tail _ (.head _))) ekw_nil) (d32 _) (spec_bis (n := n) r (ht x hx) hrow (by (first | lia | omega))) (by (first | lia | omega))) (ev_name (.tail _ (.tail _ (.head _))))) (by unfold sizeLine; (first | lia | omega)) F'.cx (F'.sat.full O' (.tail _ (.tail _ (.head _))))) e2 (fun d hd => by obtain ⟨x, _, rfl⟩ := List.mem_map.mp hd; trivial) fun s'' v F'' r => hQ _ _ ⟨v, rfl, F''.done c, r⟩
end
end Mine
/-! B6 -/
namespace Mine

theorem d54 (P : Params) : isDef (hd.heap_1 P) 54 = true := by kernel_rfl
theorem b54 (P : Params) : (fdOf (hd.heap_1 P) 54).body = .stmts (bodyOf (stAt 8)) := by kernel_rfl
theorem s54 (P : Params) : (fdOf (hd.heap_1 P) 54).scope = scopeOf (stAt 8) := by kernel_rfl

noncomputable def sgn (a b : Str) : Int := (if decide (b.cps.toList < a.cps.toList) then 1 else 0) - (if decide (a.cps.toList < b.cps.toList) then 1 else 0)
section
variable {G : W0} {n : Nat} {A : Around} {env : Env} {ok : Addr → Prop} {ρ : List (String × D)}

theorem ev_subB {l r : Expr} {pos : Pos} {a b : Bool} (hl : Ev G n A env ok ρ l (.bool a)) (hr : Ev G n A env ok ρ r (.bool b)) : Ev G n A env ok ρ (.BinOp l .Sub r pos) (.int ((if a then 1 else 0) - (if b then 1 else 0))) :=
  ev_bin hl hr fun s x y c f hx hy => by
    subst hx hy
    exact PyProof.Rows.sub_bool ⟨c.tok, ⟨_, rfl⟩⟩
theorem spec_strcoll {x y : Str} : Spec G (n + 1) 54 [.str x, .str y] [] [] (.int (sgn x y)) := fun A s vs us c r1 r2 => by
  obtain ⟨v, _, rfl, rv, w, _, rfl, rw, rfl⟩ := r1
  obtain rfl := r2
  refine enter c (d54 _) (b54 _) (s54 _) (by kernel_rfl) (binds := [(Str.ofString "a", v), (Str.ofString "b", w)]) (fun S => by kernel_rfl) (by simp only [List.map]; decide) (by kernel_rfl) (.cons rv (.cons rw .nil)) fun env s₁ iE hfr F _ _ => ?_
  refine st_ret F (ev_subB (ev_cmp (ev_name (.head _)) (ev_name (.tail _ (.head _))) cmp_gtS) (ev_cmp (ev_name (.head _)) (ev_name (.tail _ (.head _))) cmp_ltS)) fun s' u F' r => ?_
  exact ⟨u, rfl, F'.done c, by simp only [Rel] at r ⊢; exact r⟩
end
end Mine
/-! B7 -/
namespace Mine

theorem d40 (P : Params) : isDef (hd.heap_1 P) 40 = true := by kernel_rfl
theorem b40 (P : Params) : (fdOf (hd.heap_1 P) 40).body = .stmts (bodyOf (stAt 5)) := by kernel_rfl
theorem s40 (P : Params) : (fdOf (hd.heap_1 P) 40).scope = scopeOf (stAt 5) := by kernel_rfl

/-- the rows of a dict display of ints and texts -/
noncomputable def rowsOf : Stmt → List (Int × PyData)
  | .Assign _ (.Dict ks vs _) _ => (ks.zip vs).filterMap fun | (some (.Constant (.int i) _ _), .Constant (.str x) _ _) => some (i, .str x) | _ => none
  | _ => []
noncomputable def flagD : List (Int × PyData) := rowsOf (stAt 4)
noncomputable def flagW (i : Nat) : Str := match PySem.Spec.lookup (.int ((2 : Int) ^ i)) (flagD.map fun p => (PyData.int p.1, p.2)) with
  | some (.str x) => x
  | _ => baseText "0x" 16 ((2 : Int) ^ i)
theorem keyed33 (P : Params) : KTD.keyedLook (fun a => List.lookup a (hd.heap_1 P)) 33 flagD = true := by kernel_rfl

theorem bitAnd_nat (a b : Nat) : Builtin.bitAnd (a : Int) (b : Int) = ((a &&& b : Nat) : Int) := by
  unfold Builtin.bitAnd
  simp
/-- the flags that are left -/
noncomputable def leftF (m i : Nat) : Nat := m / 2 ^ i * 2 ^ i
theorem leftF_bit (m i j : Nat) : (leftF m i).testBit j = (decide (i ≤ j) && m.testBit j) := by
  unfold leftF
  rw [Nat.testBit_mul_two_pow, Nat.testBit_div_two_pow]
  by_cases h : i ≤ j
  · simp [h]
  · simp [h]
theorem leftF_and (m i : Nat) : leftF m i &&& 2 ^ i = if m.testBit i then 2 ^ i else 0 := by
  apply Nat.eq_of_testBit_eq
  intro j
  rw [Nat.testBit_and, leftF_bit, Nat.testBit_two_pow]
  by_cases hj : i = j
  · subst hj
    cases m.testBit i <;> simp
  · cases m.testBit i <;> simp [hj, Nat.testBit_two_pow]
theorem leftF_step (m i : Nat) : leftF m i = leftF m (i + 1) + (if m.testBit i then 2 ^ i else 0) := by
  unfold leftF
  have h1 : m / 2 ^ (i + 1) = m / 2 ^ i / 2 := by rw [Nat.pow_succ, Nat.div_div_eq_div_mul]
  rw [h1, Nat.pow_succ, Nat.testBit_eq_decide_div_mod_eq]
  generalize m / 2 ^ i = q
  have e : q / 2 * (2 ^ i * 2) = q / 2 * 2 * 2 ^ i := by rw [Nat.mul_comm (2 ^ i) 2, Nat.mul_assoc]
  rw [e]
  by_cases h : q % 2 = 1
  · simp only [h, decide_true, if_true]
    have : q = q / 2 * 2 + 1 := by (first | lia | omega)
    rw [show q * 2 ^ i = (q / 2 * 2 + 1) * 2 ^ i by rw [← this], Nat.add_mul, Nat.one_mul]
  · simp only [h, decide_false, Bool.false_eq_true, if_false]
    have : q = q / 2 * 2 := by (first | lia | omega)
    rw [← this, Nat.add_zero]

theorem flagW_len : ∀ i < 32, (flagW i).length ≤ 100 := by decide +kernel
theorem hex_len : ∀ i < 32, (baseText "0x" 16 ((2 : Int) ^ i)).length ≤ 1000 := by decide +kernel
theorem flagW_all : ∀ i < 32, PySem.Spec.lookup (.int ((2 : Int) ^ i)) (flagD.map fun p => (PyData.int p.1, p.2)) = some (.str (flagW i)) ∨ (PySem.Spec.lookup (.int ((2 : Int) ^ i)) (flagD.map fun p => (PyData.int p.1, p.2)) = none ∧ flagW i = baseText "0x" 16 ((2 : Int) ^ i)) := by
  intro i hi
  unfold flagW
  have : ∀ i < 32, (match PySem.Spec.lookup (.int ((2 : Int) ^ i)) (flagD.map fun p => (PyData.int p.1, p.2)) with | some (.str _) => true | none => true | _ => false) = true := by decide +kernel
  have h := this i hi
  split at h
  · rename_i x hx; rw [hx]; exact .inl rfl
  · rename_i hx; rw [hx]; exact .inr ⟨rfl, rfl⟩
  · cases h

section
variable {G : W0} {n : Nat} {A : Around} {env : Env} {ok : Addr → Prop} {ρ : List (String × D)}

theorem keyedHere {s : Shared} (c : Cx G n A s) : KTD.Keyed s.heap 33 flagD := KTD.keyed_of_look (get := fun a => List.lookup a (KK G)) (fun a o e => c.K a o e) (keyed33 _)

theorem ev_flag {o e1 e2 : Expr} {apos pos : Pos} {i : Nat} (hi : i < 32) (ho : Ev G n A env ok ρ o (.val (.ref 33))) (h1 : Ev G n A env ok ρ e1 (.int ((2 : Int) ^ i))) (h2 : Ev G n A env ok ρ e2 (.str (baseText "0x" 16 ((2 : Int) ^ i))))
    (hbase : attributeBase o "get" env (eval o env) = eval o env := by rfl) (hline : (apos.endLine == pos.line) = true := by rfl)
    (he1 : ∀ rest : List Expr, starEach (e1 :: rest) env = (false, eval e1 env) :: starEach rest env := by intro _; rfl) (he2 : ∀ rest : List Expr, starEach (e2 :: rest) env = (false, eval e2 env) :: starEach rest env := by intro _; rfl) :
    Ev G n A env ok ρ (.Call (.Attribute o "get" apos) [e1, e2] [] pos) (.str (flagW i)) := fun s c S => by
  refine wpAny_Call_method hbase (by rw [he1, he2]; rfl) hline PySem.F.plainAttrs_dict PySem.F.slot_dict_get PySem.F.type_dict_get (Ev.to (ho s c S) fun ov s₁ h00 => ?_)
  obtain ⟨a1, r1⟩ := h00
  obtain rfl := r1
  have T := keyedHere a1.2 prg G.w
  obtain ⟨lo, xs, hd, hf⟩ := id T
  have hT : s₁.TypeIs (.ref 33) "dict" := hd.typeIs
  refine ⟨hT, fun a q => (by cases q; exact hd.mapOf.noDict _ rfl), ?_⟩
  have S1 := S.aft c a1
  refine Calls.callWith_builtin (by rw [he1, he2]; rfl) (wp_evalArgs (evs_cons h1 (evs_one h2 he2) he1) ekw_nil ⟨_, _, rfl, he1⟩ a1.2 S1 fun s₂ vs us a2 r2 r3 => ?_)
  obtain rfl := r3
  obtain ⟨_, _, rfl, ⟨t, rfl⟩, _, _, rfl, ⟨u, rfl⟩, rfl⟩ := r2
  have aa := a1.trans a2
  refine call_get2_intTab (keyedHere a2.2 prg G.w) (PyProof.V.Flat.str _ u) fun v hv => ?_
  refine ⟨aa.trans a2.2.tok, ?_⟩
  rcases flagW_all i hi with h | ⟨h, e⟩
  · rw [h] at hv
    exact hv.str_inv
  · rw [h] at hv
    rw [e]; exact hv.str_inv

noncomputable def namesTo (m k : Nat) : List Str := ((List.range k).filter fun j => m.testBit j).map flagW
theorem namesTo_succ (m k : Nat) : namesTo m (k + 1) = namesTo m k ++ (if m.testBit k then [flagW k] else []) := by
  unfold namesTo
  rw [List.range_succ, List.filter_append, List.map_append]
  cases h : m.testBit k <;> simp [h]
theorem namesTo_end {m k : Nat} (h : leftF m k = 0) (hk : k ≤ 32) : namesTo m k = namesTo m 32 := by
  have key : ∀ j, k ≤ j → m.testBit j = false := fun j hj => by
    have := leftF_bit m k j
    rw [h] at this
    simpa [hj] using this.symm
  have : ∀ d, namesTo m (k + d) = namesTo m k := by
    intro d
    induction d with
    | zero => rfl
    | succ d ih => rw [← Nat.add_assoc, namesTo_succ, key (k + d) (by (first | lia | omega)), ih]; simp
  rw [show 32 = k + (32 - k) by (first | lia | omega), this]
theorem namesTo_len (m : Nat) : ∀ k ≤ 32, (namesTo m k).length ≤ k ∧ ((namesTo m k).map (·.length)).sum ≤ 100 * k
  | 0, _ => by simp [namesTo]
  | k + 1, h => by
    have ih := namesTo_len m k (by (first | lia | omega))
    have hw := flagW_len k (by (first | lia | omega))
    rw [namesTo_succ]
    generalize namesTo m k = l at ih
    cases m.testBit k
    · simp; (first | lia | omega)
    · simp [List.sum_append]; (first | lia | omega)
theorem pow_nat (i : Nat) : ((2 ^ i : Nat) : Int) = (2 : Int) ^ i := by simp

theorem spec_flags {m : Nat} (hm : m ≠ 0) (hm2 : m < 2 ^ 32) : Spec G (n + 2) 40 [.int m] [] [] (.str (Txt.join ", " (namesTo m 32))) := fun A s vs us c r1 r2 => by
  obtain ⟨v, _, rfl, rv, rfl⟩ := r1
  obtain rfl := r2
  refine enter (n := n + 1) c (d40 _) (b40 _) (s40 _) (by kernel_rfl) (binds := [(Str.ofString "flags", v)]) (fun S => by kernel_rfl) (by simp only [List.map]; decide) (by kernel_rfl) (.cons rv .nil) fun env s₁ iE hfr F _ _ => gen fun Q E hQ hE => ?_
  have gb : ∀ x : String, (scopeOf (stAt 5)).names.lookup (Str.ofString x) = some .globalImplicit → env.kindOf (Str.ofString x) = some .globalImplicit := fun x h => iE.kinds _ _ h (by decide)
  have e0 : leftF m 0 = m := by simp [leftF]
  refine st_own (ρ' := fun a => [("flags", .int m), ("names", .val (.ref a))]) F (evf_of F.cx F.sat evs_nil) (at_of iE (by kernel_rfl)) (fun a => .tail .nil) fun s₂ a F2 O2 _ => ?_
  refine st_for2 (ρs := fun i => [("flags", .int (leftF m i)), ("names", .val (.ref a))]) (L := fun i => (namesTo m i).map .str) (P := fun i => i ≤ 32 ∧ leftF m i ≠ 0) (N := 32)
    (wp_src F2 F2.sat ⟨_, _, c⟩ (src_range1 (b := 32) (ev_blt (gb "range" (by kernel_rfl)) (by kernel_rfl) (by kernel_rfl)) ev_int (by decide)) (.inl fun _ _ => rfl) fun s' x => ⟨by simp only [e0]; exact (F2.aft x).reset, O2.aft F2.cx x⟩) ⟨by (first | lia | omega), by rw [e0]; exact hm⟩ (fun i h => h.1) ?_ ?_
  · rintro i d s₃ v hd ⟨hi, hne⟩ F3 O3 rd
    have hi' : i < 32 := by
      have := (List.getElem?_eq_some_iff.mp hd).1
      simpa [rng] using this
    have hdi : d = .int i := by
      unfold rng at hd
      rw [List.getElem?_map, List.getElem?_range hi'] at hd
      simp at hd
      exact hd.symm
    subst hdi
    refine F3.assign (tgtN (at_of iE (by kernel_rfl)) (ρ' := [("flags", .int (leftF m i)), ("names", .val (.ref a)), ("i", .int i)]) (.tail (.tail .nil))) rd fun s₄ F4 k4 => ?_
    have O4 := k4 _ _ O3
    refine st_set F4 (F4.ev (ev_shl (a := 1) (k := i) ev_int (ev_name (.tail _ (.tail _ (.head _)))) (by (first | lia | omega)) (by decide))) (at_of iE (by kernel_rfl)) (ρ' := [("flags", .int (leftF m i)), ("names", .val (.ref a)), ("i", .int i), ("flag", .int (1 * 2 ^ i))]) (.tail (.tail (.tail .nil))) fun s₅ F5 k5 => ?_
    have O5 := k5 _ _ O4
    have hand : Builtin.bitAnd (leftF m i : Int) (1 * (2 : Int) ^ i) = ((if m.testBit i then 2 ^ i else 0 : Nat) : Int) := by
      rw [Int.one_mul, ← pow_nat, bitAnd_nat, leftF_and]
    have sub3 : ∀ {z : D} {w : D} (p : String × D), p ∈ [("flags", w), ("names", D.val (Value.ref a))] → p ∈ [("flags", w), ("names", D.val (Value.ref a)), ("i", D.int i), ("flag", z)] := fun p hp => by
      simp only [List.mem_cons, List.not_mem_nil, or_false] at hp ⊢; rcases hp with h | h <;> simp [h]
    refine st_ifW F5 F5.sat (tst_int (ev_and (ev_name (.head _)) (ev_name (.tail _ (.tail _ (.tail _ (.head _))))))) fun s₆ F6 k6 => ?_
    have O6 := k6 _ _ O5
    rw [hand]
    cases hb : m.testBit i with
    | false =>
      simp only [hb, Bool.false_eq_true, if_false]
      have e1 : leftF m (i + 1) = leftF m i := by have := leftF_step m i; rw [hb] at this; simpa using this.symm
      have e2 : namesTo m (i + 1) = namesTo m i := by rw [namesTo_succ, hb]; simp
      rw [e1, e2]
      refine wpAny_execs_nil (wpAny_execs_nil ⟨⟨by (first | lia | omega), hne⟩, F6.sub fun p hp => sub3 p hp, O6⟩)
    | true =>
      have hnz : (((2 ^ i : Nat) : Int) != 0) = true := by
        have h2 := Nat.two_pow_pos i
        exact bne_iff_ne.mpr (by exact_mod_cast Nat.pos_iff_ne_zero.mp h2)
      simp only [hb, if_true, hnz]
      have hst := leftF_step m i
      rw [hb] at hst
      simp only [if_true] at hst
      have hlen := namesTo_len m i (by (first | lia | omega))
      have e2 : (namesTo m i).map D.str ++ [.str (flagW i)] = (namesTo m (i + 1)).map D.str := by rw [namesTo_succ, hb]; simp
      refine st_append F6 (.tail _ (.head _)) O6 (F6.ev (ev_flag (i := i) hi' (ev_glob (gb "COMPILER_FLAG_NAMES" (by kernel_rfl)) (by kernel_rfl)) (by simpa using ev_name (G := G) (.tail _ (.tail _ (.tail _ (.head _)))))
        (by simpa using ev_hex (G := G) (ev_blt (gb "hex" (by kernel_rfl)) (by kernel_rfl) (by kernel_rfl)) (ev_name (.tail _ (.tail _ (.tail _ (.head _))))) (by have := hex_len i hi'; unfold sizeLine; simp; (first | lia | omega))))) (by unfold sizeLine; simp; (first | lia | omega)) fun s₇ F7 O7 _ => ?_
      rw [e2] at O7
      refine st_aug F7 (.head _) (ev_name (.tail _ (.tail _ (.tail _ (.head _))))) (at_of iE (by kernel_rfl)) (d' := leftF m (i + 1)) (ρ' := [("flags", .int (leftF m (i + 1))), ("names", .val (.ref a)), ("i", .int i), ("flag", .int (1 * 2 ^ i))]) .head (fun s t u cx => ?_) fun s₈ F8 k8 => ?_
      · have ex : Builtin.bitXor (leftF m i : Int) (1 * (2 : Int) ^ i) = (leftF m (i + 1) : Int) := by
          rw [bitXor_and, hand, hb, Int.one_mul]
          simp only [if_true]
          rw [hst, pow_nat]
          push_cast
          (first | lia | omega)
        refine ixor_int ⟨cx.tok, ?_⟩
        rw [ex]; exact ⟨_, rfl⟩
      have O8 := k8 _ _ O7
      refine st_ifW F8 F8.sat (tst_not (tst_int (ev_name (.head _)))) fun s₉ F9 k9 => ?_
      have O9 := k9 _ _ O8
      by_cases hz : leftF m (i + 1) = 0
      · simp only [hz, Int.ofNat_zero, bne_self_eq_false, Bool.not_false, if_true]
        refine wpAny_execs_cons (wpAny_Break ?_)
        have S9 := F9.sat.full O9 (.tail _ (.head _))
        have hl2 := namesTo_len m (i + 1) (by (first | lia | omega))
        refine wpAny_execs_cons (wpAny_Return_some (Ev.to ((ev_join (x := ", ") (xs := namesTo m (i + 1)) ev_str (ev_name (.head _)) ?_) s₉ F9.cx S9) fun u s' ⟨x, r⟩ => ?_))
        · have : (", " : Str).length = 2 := rfl
          rw [this]; (first | lia | omega)
        · refine hQ _ _ ⟨u, rfl, (F9.aft x).done c, ?_⟩
          rw [← namesTo_end hz (by (first | lia | omega))]
          exact r.flat trivial
      · have : (((leftF m (i + 1) : Nat) : Int) != 0) = true := by simp; (first | lia | omega)
        simp only [this, Bool.not_true, Bool.false_eq_true, if_false]
        exact wpAny_execs_nil (wpAny_execs_nil (wpAny_execs_nil ⟨⟨by (first | lia | omega), hz⟩, F9.sub fun p hp => sub3 p hp, O9⟩))
  · rintro i s' hf ⟨hi, hne⟩ F' O'
    exfalso
    have hf' : i = 32 := by rw [hf]; simp [rng]
    subst hf'
    apply hne
    unfold leftF
    rw [Nat.div_eq_of_lt hm2, Nat.zero_mul]
end
end Mine
/-! B8 -/
namespace Mine

theorem d47 (P : Params) : isDef (hd.heap_1 P) 47 = true := by kernel_rfl
theorem b47 (P : Params) : (fdOf (hd.heap_1 P) 47).body = .stmts (bodyOf (stAt 6)) := by kernel_rfl
theorem s47 (P : Params) : (fdOf (hd.heap_1 P) 47).scope = scopeOf (stAt 6) := by kernel_rfl

/-- a list's iterator at a place -/
structure Tape (T l : Addr) (ds : List D) (p : Nat) (h : Heap) : Prop where
  it : h.IsListIter T l p
  ls : ∃ vs k, h.get? l = some (LO vs k) ∧ RelAll (fun _ => True) h ds vs
theorem Tape.ne {T l : Addr} {ds : List D} {p : Nat} {h : Heap} (t : Tape T l ds p h) : T ≠ l := fun q => by
  subst q
  obtain ⟨o, e, _, hd⟩ := t.it
  obtain ⟨vs, k, e', _⟩ := t.ls
  rw [e] at e'; cases e'; cases hd

section
variable {G : W0} {n : Nat} {A : Around} {env : Env} {ok : Addr → Prop} {ρ ρ' : List (String × D)} {s₀ sT s : Shared} {T l : Addr} {ds : List D} {p : Nat} {Q : Flow → Shared → Prop} {E : Value → Shared → Prop} {rest : List Stmt}

theorem Tape.not99 (c : Cx G n A s) (t : Tape T l ds p s.heap) : T ≠ 99 := fun q => by
  subst q
  obtain ⟨o, e, hc, hd⟩ := t.it
  rcases c.tab with e' | ⟨_, e', _⟩ <;> · rw [e] at e'; cases e'; cases hc
/-- what the frame's own doings leave -/
theorem Fst.tape (F : Fst G n A env (fun _ => True) ρ s₀ sT s) (c : Cx G n A sT) (t : Tape T l (zs xs) p sT.heap) (hT : ∀ x, ¬ At env x T) (hl : ∀ x, ¬ At env x l) : Tape T l (zs xs) p s.heap := by
  have nl : ∀ b, (∀ x, ¬ At env x b) → ¬ (Mine.Local env (fun _ => True) b) := fun b hb q => by
    rcases q with q | ⟨x, q⟩
    · exact q trivial
    · exact hb x q
  obtain ⟨o, e, hc, hd⟩ := t.it
  obtain ⟨vs, k, e', r⟩ := t.ls
  refine ⟨⟨o, F.stb.get (t.not99 c) (nl T hT) (itr_list t.it o e).1 e, hc, hd⟩, vs, k, F.stb.get (ne_tab c.tab e' (IsSeq.nf ⟨_, _, rfl⟩)) (nl l hl) (IsSeq.nd ⟨_, _, rfl⟩) e', RelAll.flat' (fun d hd => by obtain ⟨x, _, rfl⟩ := List.mem_map.mp hd; trivial) r⟩

theorem Fst.hide (F : Fst G n A env ok ρ s₀ sT s) (T : Addr) : Fst G n A env ok ρ { s₀ with heap := s₀.heap.hide T } sT s :=
  ⟨F.cx, F.sat, ⟨fun b o h9 e => F.ext.kept b o h9 (Heap.of_hide e), F.ext.os, F.ext.gens⟩, fun x a h => by
    cases q : (s₀.heap.hide T).get? a with
    | none => rfl
    | some o => rw [← F.own x a h, Heap.of_hide q], F.stb⟩

/-- x = next(tape) -/
theorem st_next {x itn : String} {func : Str} {px fpos ipos pos cpos : Pos} {o : Int} {xs : List Int} (F : Fst G n A env (fun _ => True) ρ s₀ sT s) (t : Tape T l (zs xs) p s.heap) (h0 : s₀.heap.get? T = none) (hb : G.base.get? T = none) (hnl : T ≠ env.locals) (hnc : ∀ x c, env.cells.lookup x = some c → T ≠ c)
    (hf : Blt G n A env (fun _ => True) ρ func fpos (.builtin "next")) (hm : (itn, .val (.ref T)) ∈ ρ) (hx : xs[p]? = some o) (hat : ∃ a, At env (Str.ofString x) a) (U : Upd x (.int o) ρ ρ')
    (h : ∀ s', Fst G n A env (fun _ => True) ρ' s₀ s' s' → Tape T l (zs xs) (p + 1) s'.heap → wpAny G.M A (execs rest env) Q E s')
    (hT : ∀ x, ¬ At env x T) (hl : ∀ x, ¬ At env x l) (h1 : (Str.ofString itn == ("__debug__" : Str)) = false := by decide) (h2 : (Str.ofString itn == ("__classdict__" : Str)) = false := by decide) :
    wpAny G.M A (execs (.Assign [.Name (Str.ofString x) px] (.Call (.Name func fpos) [.Name (Str.ofString itn) ipos] [] cpos) pos :: rest) env) Q E s := by
  refine st_of (wpAny_Assign_Name (wpAny_Call_Name_kw (Ev.to (F.ev hf) fun v s₁ h00 => ?_)) rfl)
  obtain ⟨a1, r1⟩ := h00
  obtain rfl := r1
  have F1 := F.aft a1
  have fl : ∀ d ∈ zs xs, Flat d := fun d hd => by obtain ⟨x, _, rfl⟩ := List.mem_map.mp hd; trivial
  have keepT : ∀ {s s' : Shared}, Cx G n A s → Aft G n A s s' → Tape T l (zs xs) p s.heap → Tape T l (zs xs) p s'.heap := fun {s s'} c a t => by
    obtain ⟨o, e, hc, hd⟩ := t.it
    obtain ⟨vs, k, e', r⟩ := t.ls
    exact ⟨⟨o, a.1.kept.get (t.not99 c) e (itr_list t.it o e).1, hc, hd⟩, vs, k, a.1.kept.get (ne_tab c.tab e' (IsSeq.nf ⟨_, _, rfl⟩)) e' (IsSeq.nd ⟨_, _, rfl⟩), RelAll.flat' fl r⟩
  refine Calls.callWith_builtin rfl (wp_evalArgs (evs_one (ev_name hm h1 h2)) ekw_nil ⟨_, _, rfl, fun _ => rfl⟩ F1.cx F1.sat fun s₂ vs us a2 r2 r3 => ?_)
  obtain rfl := r3
  obtain ⟨_, _, rfl, rfl, rfl⟩ := r2
  have F2 := F1.aft a2
  have t2 := keepT F1.cx a2 (keepT F.cx a1 t)
  obtain ⟨ws, k, hg, rr⟩ := t2.ls
  obtain ⟨v, ev, rv⟩ := rr.get (show (zs xs)[p]? = some (.int o) by rw [List.getElem?_map, hx]; rfl)
  refine call_next_item t2.it (LO.isList hg) (x := v) (by simpa using ev) fun h' hit' hs' => ?_
  have hIt := itr_list t2.it
  have tk : Tick G n A env (fun _ => True) s₀ s₂ { s₂ with heap := h' } (· = T) s₀.gens.size :=
    ⟨F2.cx.butX (X := (· = T)) (fun b o hb q => by rw [hs'.2 b hb]; exact q) (fun b q => q ▸ hb) (fun q => t2.not99 F2.cx q.symm) (fun b o q e => hIt o (q ▸ e)), fun b o _ hb q => ⟨o.slots, by show h'.get? b = _; rw [hs'.2 b hb]; exact q, fun _ => rfl⟩, rfl, fun _ _ _ q => q, fun b q => q ▸ h0, fun _ _ => trivial,
      fun q => hnl q.symm, fun x c q e => hnc x c q e.symm, fun b o q e hs => (hIt o (q ▸ e)).2.2.1 hs, by simp⟩
  have F3 := F2.tick tk
  have t3 : Tape T l (zs xs) (p + 1) h' := ⟨hit', ws, k, by rw [hs'.2 l t2.ne.symm]; exact hg, RelAll.flat' fl rr⟩
  refine F3.store hat (d := .int o) (by simp only [Rel] at rv ⊢; exact rv) U fun s' F' sol => h s' F'.reset ?_
  obtain ⟨oo, e, hc, hd⟩ := t3.it
  obtain ⟨us, kk, e', r'⟩ := t3.ls
  exact ⟨⟨oo, sol T oo (itr_list t3.it oo e).solid e, hc, hd⟩, us, kk, sol l _ (IsSeq.solid ⟨_, _, rfl⟩) e', RelAll.flat' fl r'⟩

/-- the number that the digits stand for -/
noncomputable def valOf (vs : List Nat) : Nat := vs.foldl (fun a v => a * 64 + v) 0
theorem low_and (v : Nat) (h : v < 64) : v &&& 64 = 0 := by
  have : ∀ v < 64, v &&& 64 = 0 := by decide
  exact this v h
theorem high_and (v : Nat) (h : v < 64) : (v + 64) &&& 64 = 64 := by
  have : ∀ v < 64, (v + 64) &&& 64 = 64 := by decide
  exact this v h
theorem mul_and (q r : Nat) (h : r < 64) : (q * 64) &&& r = 0 := by
  apply Nat.eq_of_testBit_eq
  intro j
  rw [Nat.testBit_and, show (64 : Nat) = 2 ^ 6 from rfl, Nat.testBit_mul_two_pow, Nat.zero_testBit]
  by_cases hj : 6 ≤ j
  · have : r.testBit j = false := Nat.testBit_lt_two_pow (Nat.lt_of_lt_of_le h (by rw [show (64 : Nat) = 2 ^ 6 from rfl]; exact Nat.pow_le_pow_right (by decide) hj))
    simp [this]
  · simp [hj]
theorem bitOr_low (q r : Nat) (h : r < 64) : Builtin.bitOr ((q * 64 : Nat) : Int) (r : Int) = ((q * 64 + r : Nat) : Int) := by
  have e := bitXor_and ((q * 64 : Nat) : Int) (r : Int)
  have a := bitAnd_nat (q * 64) r
  rw [mul_and q r h] at a
  rw [a] at e
  unfold Builtin.bitXor at e
  rw [a] at e
  push_cast at e ⊢
  (first | lia | omega)
theorem valOf_lt : ∀ (vs : List Nat), (∀ v ∈ vs, v < 64) → valOf vs < 64 ^ vs.length := by
  have key : ∀ (vs : List Nat) (a k : Nat), a < 64 ^ k → (∀ v ∈ vs, v < 64) → vs.foldl (fun a v => a * 64 + v) a < 64 ^ (k + vs.length) := by
    intro vs
    induction vs with
    | nil => intro a k h _; simpa using h
    | cons v vs ih =>
      intro a k h hv
      have h1 : a * 64 + v < 64 ^ (k + 1) := by
        have := hv v List.mem_cons_self
        rw [Nat.pow_succ]; (first | lia | omega)
      have := ih (a * 64 + v) (k + 1) h1 fun w hw => hv w (List.mem_cons_of_mem _ hw)
      rw [List.foldl_cons, List.length_cons, show k + (vs.length + 1) = k + 1 + vs.length by (first | lia | omega)]
      exact this
  intro vs hv
  have := key vs 0 0 (by decide) hv
  simpa [valOf] using this

/-- the octets of one number -/
noncomputable def Octs (xs : List Int) (p : Nat) (vs : List Nat) : Prop := ∀ k, k < vs.length → xs[p + k]? = some (((vs.getD k 0 + (if k + 1 < vs.length then 64 else 0) : Nat)) : Int)

theorem varint_ok {A₀ : Around} {vs : List Nat} {xs : List Int} {s : Shared} (c : Cx G (n + 2) A₀ s) (t : Tape T l (zs xs) p s.heap) (hb : G.base.get? T = none) (hvs : ∀ v ∈ vs, v < 64) (h1 : 1 ≤ vs.length) (h2 : vs.length ≤ 8) (ho : Octs xs p vs) :
    codeAny G.M A₀ (.call (.ref 47) ⟨[.ref T], []⟩) (fun r s' => (∃ u, r = .ok (.ret (.int (valOf vs) u))) ∧ Cx G (n + 2) A₀ s' ∧ Mod (· = T) s s' ∧ Tape T l (zs xs) (p + vs.length) s'.heap) s := by
  refine enter (n := n + 1) c (d47 _) (b47 _) (s47 _) (by kernel_rfl) (binds := [(Str.ofString "iterator", .ref T)]) (fun S => by kernel_rfl) (by simp only [List.map]; decide) (by kernel_rfl) (.cons (d := .val (.ref T)) (by simp only [Rel]) .nil) fun env s₁ iE hfr F hk _ => ?_
  have gb : ∀ x : String, (scopeOf (stAt 6)).names.lookup (Str.ofString x) = some .globalImplicit → env.kindOf (Str.ofString x) = some .globalImplicit := fun x h => iE.kinds _ _ h (by decide)
  have t1 : Tape T l (zs xs) p s₁.heap := by
    obtain ⟨o, e, r⟩ := t.it
    obtain ⟨ws, k, e', r'⟩ := t.ls
    exact ⟨⟨o, hk _ _ e, r⟩, ws, k, hk _ _ e', r'.kept c.tab (.of hk)⟩
  have hT : ∀ x, ¬ At env x T := fun x h => by obtain ⟨o, e, _⟩ := t.it; rw [F.own x T h] at e; cases e
  have hl : ∀ x, ¬ At env x l := fun x h => by obtain ⟨_, _, e, _⟩ := t.ls; rw [F.own x l h] at e; cases e
  have hnl : T ≠ env.locals := fun q => hT (Str.ofString "b") (.inl ⟨iE.kinds _ _ (by kernel_rfl) (by decide), q⟩)
  have hnc : ∀ x c, env.cells.lookup x = some c → T ≠ c := fun x c q h => by
    subst h
    obtain ⟨⟨v, o', e', hd'⟩, _⟩ := F.sat.eo.cells _ _ q
    obtain ⟨o, e, _, hd⟩ := t1.it
    rw [e] at e'; cases e'; rw [hd] at hd'; cases hd'
  have Fh := F.hide T
  have h0 : (s.heap.hide T).get? T = none := Heap.hide_self ..
  have first := ho 0 (by (first | lia | omega))
  refine st_next Fh t1 h0 hb hnl hnc (ev_blt (gb "next" (by kernel_rfl)) (by kernel_rfl) (by kernel_rfl)) (.head _) (by simpa using first) (at_of iE (by kernel_rfl)) (ρ' := [("iterator", .val (.ref T)), ("b", .int ((vs.getD 0 0 + (if 0 + 1 < vs.length then 64 else 0) : Nat) : Int))]) (.tail .nil) (fun s₂ F2 t2 => ?_) hT hl
  have oct : ∀ j, j < vs.length → ∃ v, vs.getD j 0 = v ∧ v < 64 := fun j hj => ⟨_, rfl, hvs _ (by rw [List.getD_eq_getElem?_getD, List.getElem?_eq_getElem hj]; exact List.getElem_mem hj)⟩
  have low : ∀ j, j < vs.length → Builtin.bitAnd (((vs.getD j 0 + (if j + 1 < vs.length then 64 else 0) : Nat)) : Int) 63 = (vs.getD j 0 : Nat) := fun j hj => by
    obtain ⟨v, e, hv⟩ := oct j hj
    rw [bitAnd_m6, e]
    split <;> (first | lia | omega)
  have high : ∀ j, j < vs.length → (Builtin.bitAnd (((vs.getD j 0 + (if j + 1 < vs.length then 64 else 0) : Nat)) : Int) 64 != 0) = decide (j + 1 < vs.length) := fun j hj => by
    obtain ⟨v, e, hv⟩ := oct j hj
    rw [e]
    have h64 : ((64 : Nat) : Int) = 64 := rfl
    by_cases hlt : j + 1 < vs.length
    · rw [if_pos hlt, ← h64, bitAnd_nat, high_and v hv]; simp [hlt]
    · rw [if_neg hlt, ← h64, bitAnd_nat, Nat.add_zero, low_and v hv]; simp [hlt]
  have step : ∀ j, j < vs.length → valOf (vs.take (j + 1)) = valOf (vs.take j) * 64 + vs.getD j 0 := fun j hj => by
    unfold valOf
    rw [List.take_add_one, List.getElem?_eq_getElem hj, List.foldl_append, List.getD_eq_getElem?_getD, List.getElem?_eq_getElem hj]
    rfl
  have small : ∀ j, valOf (vs.take j) < 64 ^ 8 := fun j => by
    have := valOf_lt (vs.take j) fun v hv => hvs v (List.mem_of_mem_take hv)
    refine Nat.lt_of_lt_of_le this (Nat.pow_le_pow_right (by decide) ?_)
    rw [List.length_take]; (first | lia | omega)
  have v0 : ((vs.getD 0 0 : Nat) : Int) = (valOf (vs.take 1) : Nat) := by rw [step 0 (by (first | lia | omega))]; simp [valOf]
  let ρj : Nat → List (String × D) := fun j => [("iterator", .val (.ref T)), ("b", .int ((vs.getD j 0 + (if j + 1 < vs.length then 64 else 0) : Nat) : Int)), ("val", .int (valOf (vs.take (j + 1)) : Nat))]
  refine st_set F2 (F2.ev (v0 ▸ low 0 (by (first | lia | omega)) ▸ ev_and (ev_name (.tail _ (.head _))) ev_int)) (at_of iE (by kernel_rfl)) (ρ' := ρj 0) (.tail (.tail .nil)) fun s₃ F3 _ => ?_
  have t3 := F3.tape F2.cx t2 hT hl
  refine st_while (fun k s' => ∃ j, j < vs.length ∧ k = vs.length - j ∧ Fst G (n + 1) (A₀.deeper env) env (fun _ => True) (ρj j) { s with heap := s.heap.hide T } s' s' ∧ Tape T l (zs xs) (p + j + 1) s'.heap) vs.length ⟨0, by (first | lia | omega), rfl, F3.reset, t3⟩ ?_
  rintro k s' ⟨j, hj, rfl, F', t'⟩
  refine Ev.to (F'.tst (tst_int (ev_and (ev_name (.tail _ (.head _))) ev_int))) fun bb s₄ h00 => ?_
  obtain ⟨a4, e⟩ := h00
  have F4 := F'.aft a4
  have t4 := F4.tape F'.cx t' hT hl
  rw [high j hj] at e
  subst e
  by_cases hlt : j + 1 < vs.length
  · rw [decide_eq_true hlt]
    simp only [if_true]
    refine st_aug F4 (d' := (valOf (vs.take (j + 1)) * 64 : Nat)) (ρ' := [("iterator", .val (.ref T)), ("b", .int ((vs.getD j 0 + (if j + 1 < vs.length then 64 else 0) : Nat) : Int)), ("val", .int (valOf (vs.take (j + 1)) * 64 : Nat))]) (.tail _ (.tail _ (.head _))) ev_int (at_of iE (by kernel_rfl)) (.tail (.tail .head)) (fun s t u cx => ?_) fun s₅ F5 _ => ?_
    · have hs := small (j + 1)
      refine ilshift_int_small (by decide) (by decide) (by have : (64 : Nat) ^ 8 = 281474976710656 := rfl; rw [Int.natAbs_natCast]; (first | lia | omega)) ⟨cx.tok, ⟨s.toks, ?_⟩⟩
      simp
    have t5 := F5.tape F'.cx t' hT hl
    refine st_next F5 t5 h0 hb hnl hnc (ev_blt (gb "next" (by kernel_rfl)) (by kernel_rfl) (by kernel_rfl)) (.head _) (o := ((vs.getD (j + 1) 0 + (if j + 1 + 1 < vs.length then 64 else 0) : Nat) : Int)) (by have := ho (j + 1) hlt; rw [← Nat.add_assoc] at this; exact this) (at_of iE (by kernel_rfl)) (ρ' := [("iterator", .val (.ref T)), ("b", .int ((vs.getD (j + 1) 0 + (if j + 1 + 1 < vs.length then 64 else 0) : Nat) : Int)), ("val", .int (valOf (vs.take (j + 1)) * 64 : Nat))]) (.tail .head) (fun s₆ F6 t6 => ?_) hT hl
    obtain ⟨v, ev, hv⟩ := oct (j + 1) hlt
    refine st_aug F6 (b := ((vs.getD (j + 1) 0 : Nat) : Int)) (d' := (valOf (vs.take (j + 1 + 1)) : Nat)) (ρ' := ρj (j + 1)) (.tail _ (.tail _ (.head _))) (low (j + 1) hlt ▸ ev_and (ev_name (.tail _ (.head _))) ev_int) (at_of iE (by kernel_rfl)) (.tail (.tail .head)) (fun s t u cx => ?_) fun s₇ F7 _ => ?_
    · refine ior_int ⟨cx.tok, ?_⟩
      rw [bitOr_low _ _ (by rw [ev]; exact hv), step (j + 1) hlt]
      exact ⟨_, rfl⟩
    have t7 := F7.tape F6.cx t6 hT hl
    refine wpAny_execs_nil ⟨vs.length - (j + 1), by (first | lia | omega), j + 1, hlt, rfl, F7.reset, ?_⟩
    rw [show p + (j + 1) + 1 = p + j + 1 + 1 by (first | lia | omega)]; exact t7
  · rw [decide_eq_false hlt]
    simp only [Bool.false_eq_true, if_false]
    have hje : j + 1 = vs.length := by (first | lia | omega)
    refine st_ret F4 (ev_name (.tail _ (.tail _ (.head _)))) fun s₅ v F5 r => ?_
    have t5 := F5.tape F'.cx t' hT hl
    obtain ⟨u, rfl⟩ := r
    rw [hje, List.take_length]
    rw [Nat.add_assoc, hje] at t5
    refine ⟨⟨u, rfl⟩, ⟨F5.cx.stays, F5.cx.tab, ?_, c.hh, c.dep, c.un, F5.cx.bare⟩, ⟨fun b o h9 hb' e => ?_, F5.ext.os, F5.ext.gens⟩, t5⟩
    · obtain ⟨f1, f2, f3⟩ := F5.cx.fr
      obtain ⟨g1, g2, g3⟩ := c.fr
      rw [Around.frames_deeper g2] at f2
      cases f2
      exact ⟨g1, g2, f3.2.2⟩
    · exact F5.ext.kept b o h9 ((Heap.hide_ne _ hb').trans e)
end
end Mine
/-! B9 -/
namespace Mine
open Classical in
/-- what an exception on its way leaves exactly -/
noncomputable def keepB (base : Heap) (T : Addr) (h : Heap) : Heap :=
  hideAll h ((List.range h.objs.size).filter fun b => decide (b = T ∨ (base.get? b = none ∧ ∃ o, h.get? b = some o ∧ ¬ NotDict o)))
section
open Classical
variable {base : Heap} {T : Addr} {h : Heap}
theorem keepB_of {b : Addr} {o : Obj} (e : (keepB base T h).get? b = some o) : h.get? b = some o := of_hideAll _ e
theorem keepB_some {b : Addr} {o : Obj} (e : (keepB base T h).get? b = some o) : b ≠ T ∧ (NotDict o ∨ ∃ o', base.get? b = some o') := by
  have e' := keepB_of e
  have hlt := Heap.lt_size e'
  by_cases hin : b = T ∨ (base.get? b = none ∧ ∃ o, h.get? b = some o ∧ ¬ NotDict o)
  · exfalso
    have : (keepB base T h).get? b = none := hideAll_none _ (List.mem_filter.mpr ⟨List.mem_range.mpr hlt, decide_eq_true hin⟩)
    rw [this] at e; cases e
  · rw [not_or] at hin
    refine ⟨hin.1, ?_⟩
    by_cases hd : NotDict o
    · exact .inl hd
    · right
      cases q : base.get? b with
      | none => exact absurd ⟨q, o, e', hd⟩ hin.2
      | some o' => exact ⟨o', rfl⟩
theorem keepB_get {b : Addr} {o : Obj} (e : h.get? b = some o) (hT : b ≠ T) (hd : NotDict o ∨ ∃ o', base.get? b = some o') : (keepB base T h).get? b = some o := by
  refine hideAll_get _ e fun hm => ?_
  have := of_decide_eq_true (List.mem_filter.mp hm).2
  rcases this with q | ⟨q1, o2, q2, q3⟩
  · exact hT q
  · rw [e] at q2; cases q2
    rcases hd with q | ⟨o', q⟩
    · exact q3 q
    · rw [q1] at q; cases q
theorem keepB_T : (keepB base T h).get? T = none := by
  cases q : (keepB base T h).get? T with
  | none => rfl
  | some o => exact absurd rfl (keepB_some q).1
theorem keepB_new {b : Addr} (e : h.get? b = none) : (keepB base T h).get? b = none := by
  cases q : (keepB base T h).get? b with
  | none => rfl
  | some o => rw [keepB_of q] at e; cases e
theorem keepB_frame {b : Addr} {o : Obj} {es : Array DictEntry} {ep : Nat} (e : h.get? b = some o) (hd : o.data = .dict es ep) (hb : base.get? b = none) : (keepB base T h).get? b = none := by
  cases q : (keepB base T h).get? b with
  | none => rfl
  | some o' =>
    have e' := keepB_of q
    rw [e] at e'; cases e'
    rcases (keepB_some q).2 with q2 | ⟨o', q2⟩
    · exact absurd hd (q2 es ep)
    · rw [hb] at q2; cases q2
end

section
variable {G : W0} {n : Nat} {A : Around} {env : Env} {ok : Addr → Prop} {ρ ρ' : List (String × D)} {s₀ sT s s' : Shared} {T : Addr}

/-- what an exception on its way leaves -/
structure Flown (G : W0) (T : Addr) (s s' : Shared) (B : Heap) : Prop where
  base : G.base.StaysIn B
  t : B.get? T = none
  old : ∀ b o, b ≠ 99 → b ≠ T → NotDict o → s.heap.get? b = some o → B.get? b = some o
  tab : B.get? 99 = s'.heap.get? 99 ∧ TabOk B
  dold : ∀ b o es ep, s.heap.get? b = some o → o.data = .dict es ep → ∃ sl, s'.heap.get? b = some { o with slots := sl }

theorem ff_fun {B h base : Heap} (hd : ∀ b o es ep, h.get? b = some o → o.data = .dict es ep → base.get? b = none → B.get? b = none) : ∀ {l : List Env}, FF base h l → h.FunFrames B l
  | [], _ => trivial
  | env :: r, x => by
    obtain ⟨L, o, es, ep, b, cc, n9, d, e⟩ := x.2.1
    exact ⟨x.1, ⟨L, o, b, hd L o es ep d e cc, d, fun vs q => by rw [e] at q; cases q⟩, ff_fun hd x.2.2⟩


/-- the tape at its end: the def raises -/
theorem varint_end {A₀ : Around} {xs : List Int} {l : Addr} {s : Shared} (c : Cx G (n + 2) A₀ s) (t : Tape T l (zs xs) xs.length s.heap) (hb : G.base.get? T = none) :
    codeAny G.M A₀ (.call (.ref 47) ⟨[.ref T], []⟩) (fun r s' => ∃ e a0 B outer, r = .error (.ref e) ∧ A₀.frames = some outer ∧ Heap.FlyingW B outer e (.type "StopIteration") a0 s'.heap ∧ Flown G T s s' B ∧ s'.os = s.os ∧ AllBare s'.gens ∧ (∀ (i : Nat) (g : GenState), s.gens[i]? = some g → s'.gens[i]? = some g)) s := by
  refine enter (n := n + 1) c (d47 _) (b47 _) (s47 _) (by kernel_rfl) (binds := [(Str.ofString "iterator", .ref T)]) (fun S => by kernel_rfl) (by simp only [List.map]; decide) (by kernel_rfl) (.cons (d := .val (.ref T)) (by simp only [Rel]) .nil) fun env s₁ iE hfr F hk _ => ?_
  have gb : ∀ x : String, (scopeOf (stAt 6)).names.lookup (Str.ofString x) = some .globalImplicit → env.kindOf (Str.ofString x) = some .globalImplicit := fun x h => iE.kinds _ _ h (by decide)
  have hf : ∀ q, Blt G (n + 1) (A₀.deeper env) env (fun _ => True) [("iterator", .val (.ref T))] (Str.ofString "next") q (.builtin "next") := fun q => ev_blt (gb "next" (by kernel_rfl)) (by kernel_rfl) (by kernel_rfl)
  refine st_of (wpAny_Assign_Name (wpAny_Call_Name_kw (Ev.to (F.ev (hf _)) fun v s₂ h00 => ?_)) rfl)
  obtain ⟨a1, r1⟩ := h00
  obtain rfl := r1
  have F1 := F.aft a1
  refine Calls.callWith_builtin rfl (wp_evalArgs (evs_one (ev_name (.head _))) ekw_nil ⟨_, _, rfl, fun _ => rfl⟩ F1.cx F1.sat fun s₃ vs us a2 r2 r3 => ?_)
  obtain rfl := r3
  obtain ⟨_, _, rfl, rfl, rfl⟩ := r2
  have F2 := F1.aft a2
  have t3 : Tape T l (zs xs) xs.length s₃.heap := by
    obtain ⟨o, e, hc, hd⟩ := t.it
    obtain ⟨ws, k, e', r'⟩ := t.ls
    exact ⟨⟨o, F2.ext.kept.get (t.not99 c) e (itr_list t.it o e).1, hc, hd⟩, ws, k, F2.ext.kept.get (ne_tab c.tab e' (IsSeq.nf ⟨_, _, rfl⟩)) e' (IsSeq.nd ⟨_, _, rfl⟩), r'.kept c.tab F2.ext.kept⟩
  obtain ⟨ws, k, hg, rr⟩ := t3.ls
  have hlen := rr.length
  refine call_next_end F2.cx.hh t3.it (LO.isList hg) (by simp [hlen]) fun h' e tt hkeep hTe hen he => ?_
  have hne : e ≠ T := fun q => by subst q; obtain ⟨o, e', _⟩ := t3.it; rw [hen] at e'; cases e'
  have hT9 := t3.not99 F2.cx
  let B := keepB G.base T s₃.heap
  obtain ⟨outer, ho1, ho2⟩ := c.fr
  have hfrs : (A₀.deeper env).frames = some (env :: outer) := Around.frames_deeper ho1
  have ff3 : FF G.base s₃.heap (env :: outer) := by
    obtain ⟨l', e1, e2⟩ := F2.cx.fr
    rw [hfrs] at e1; cases e1; exact e2
  have hd : ∀ b o es ep, s₃.heap.get? b = some o → o.data = .dict es ep → G.base.get? b = none → B.get? b = none := fun b o es ep e1 e2 e3 => keepB_frame e1 e2 e3
  have ffr := ff_fun hd ff3
  have ffr' : h'.FunFrames B (env :: outer) := ffr.of_keeps fun b o e1 hnf => ⟨o, hkeep b o (fun q => by subst q; obtain ⟨o', e2, _, hd2⟩ := t3.it; rw [e1] at e2; cases e2; exact hnf _ hd2) e1, rfl⟩
  have hstay : B.StaysIn h' := fun b o e1 => hkeep b o (keepB_some e1).1 (keepB_of e1)
  have henB : B.get? e = none := keepB_new hen
  refine wpAny_leaving_firstW (s := { s₃ with heap := h' }) hfrs ffr' hfr he hstay henB rfl rfl rfl fun h'' hL => ?_
  obtain ⟨k1, ⟨_, _, k2⟩, k3, k4⟩ := hL
  have seqT : ∀ b o, s₃.heap.get? b = some o → (∀ vs, o.data ≠ .fields vs) → b ≠ T := fun b o e1 hnf q => by subst q; obtain ⟨o', e2, _, hd2⟩ := t3.it; rw [e1] at e2; cases e2; exact hnf _ hd2
  refine ⟨e, _, B, outer, rfl, ho1, ⟨k1, henB, k2, k3⟩, ⟨fun b o e1 => keepB_get (F2.cx.stays b o e1) (fun q => by subst q; rw [hb] at e1; cases e1) (.inr ⟨o, e1⟩), keepB_T, fun b o h9 hT hn e1 => keepB_get (F2.ext.kept.get h9 e1 hn) hT (.inl hn), ?_, ?_⟩, F2.ext.os, F2.cx.bare, F2.ext.gens⟩
  · obtain ⟨fs, e9⟩ := F2.cx.tab.fields
    have e9B : B.get? 99 = some (tabObj fs) := keepB_get e9 (Ne.symm hT9) (.inl fun es ep q => by cases q)
    refine ⟨by rw [e9B]; exact (k1 99 _ e9B).symm, ?_⟩
    rcases F2.cx.tab with q | ⟨cc, q, hc9, r⟩
    · exact .inl (keepB_get q (Ne.symm hT9) (.inl fun es ep q => by cases q))
    · refine .inr ⟨cc, keepB_get q (Ne.symm hT9) (.inl fun es ep q => by cases q), hc9, ?_⟩
      obtain ⟨c', o, vs, tq, e1, e2, e3, e4⟩ := r
      cases e1
      refine ⟨_, o, vs, tq, rfl, keepB_get e2 (fun q => ?_) (.inl fun es ep q => by rw [e3] at q; cases q), e3, e4⟩
      subst q
      exact (itr_list t3.it o e2).2.2.2 vs _ _ e3 e4
  · intro b o es ep e1 e2
    have h9 : b ≠ 99 := fun q => by subst q; obtain ⟨fs, e9⟩ := c.tab.fields; rw [e1] at e9; cases e9; cases e2
    obtain ⟨sl, e4, _⟩ := F2.ext.kept b o h9 e1
    have hnf : ∀ vs, ({ o with slots := sl } : Obj).data ≠ .fields vs := fun vs q => by rw [e2] at q; cases q
    have e5 := hkeep b _ (seqT b _ e4 hnf) e4
    obtain ⟨sl', e6⟩ := k4 b _ e5 hnf
    exact ⟨sl', e6⟩
end
end Mine
/-! B10 -/
namespace Mine
section
variable {G : W0} {n : Nat} {A : Around} {env : Env} {ok : Addr → Prop} {ρ ρ' : List (String × D)} {s₀ sT s s' : Shared} {T : Addr}

theorem flight_again {M : Model} {A : Around} {B : Heap} {l : List Env} {e L : Addr} {cls a0 : Value} {Q : Unit → Shared → Prop} {E : Value → Shared → Prop} (hh : Heap.HeldW B l e cls a0 L s.heap)
    (hQ : ∀ h', Heap.HeldW B l e cls a0 L h' → s.heap.UpToSlots h' → Q () { s with heap := h' }) :
    wpAny M A (do
      if (← field (.ref e) 1) == .none then unsupported "frame.own-activation:exception-without-traceback"
      setFlight (.ref e) (some L)) Q E s := by
  obtain ⟨hkb, f2, hl, oe, vs, TT, oT, ts, he, hcls, hd, h1, hnT, hTe, hT, hdT, h3⟩ := hh
  have hsz3 : 3 < ts.size := (Array.getElem?_eq_some_iff.mp h3).1
  have other : ∀ b, b ≠ TT → (s.heap.update TT (Obj.mapFields (·.setIfInBounds 3 ((some L : Option Addr).elim Value.none fun f => rawInt f)))).get? b = s.heap.get? b := fun b hb => Heap.get?_update_other _ _ (Ne.symm hb)
  have noRecord : ∀ b o, s.heap.get? b = some o → (∀ vs, o.data ≠ .fields vs) → b ≠ TT := fun b o hb hnf q => by
    rw [q, hT] at hb; injection hb with hb; subst hb; exact hnf ts hdT
  refine wpAny_bind (wpAny_field he hd h1 ?_)
  rw [if_neg (by simp)]
  unfold setFlight
  refine wpAny_bind (wpAny_field he hd h1 ?_)
  rw [if_pos (show (Value.ref TT != Value.none) = true from by simp)]
  refine wpAny_setField hT hdT hsz3 (hQ _ ⟨fun b o hbo => (other b fun q => by rw [q, hnT] at hbo; cases hbo).trans (hkb b o hbo), f2, hl.of_keeps fun b o hb hnf => ⟨o, (other b (noRecord b o hb hnf)).trans hb, rfl⟩, ?_⟩ fun b o hb hn => ⟨o.slots, (other b (noRecord b o hb hn)).trans hb⟩)
  exact ⟨oe, vs, TT, _, _, (other e (Ne.symm hTe)).trans he, hcls, hd, h1, hnT, hTe, Heap.get?_update_self _ hT (Obj.isFreed_of_fields (Obj.data_mapFields hdT _)), Obj.data_mapFields hdT _, by simp [hsz3]⟩

/-- an exception that comes out of a loop's turn, into the clause that takes it -/
theorem stop_caught {B : Heap} {outer : List Env} {L e : Addr} {a0 : Value} {t : Expr} {b₀ : Stmt} {suite : List Stmt} {hp : Pos} {rest : List ExceptHandler} {Q : Flow → Shared → Prop} {E : Value → Shared → Prop}
    (hfr : A.frames = some (env :: outer)) (hf : env.frame = some L) (hfl : Heap.FlyingW B (env :: outer) e (.type "StopIteration") a0 s'.heap)
    (h : ∀ h', s'.heap.UpToSlots h' → B.StaysIn h' → wpAny G.M (A.mark (some (.ref e))) (eval t env) (fun c s₁ => c = .type "StopIteration" ∧ s₁ = { s' with heap := h' }) (fun _ _ => False) { s' with heap := h' } ∧
      wpAny G.M (A.mark (some (.ref e))) (execs (b₀ :: suite) env) Q (fun _ _ => False) { s' with heap := h' }) :
    notedBy G.M A env (fun x s₁ => cameBackBy G.M A env (fun e s₁ => wpAny G.M A (noteFrame e env) (fun _ s₂ => wpAny G.M A (setFlight e none) (fun _ s₃ => wpAny G.M A (handleBy e env (.ExceptHandler (some t) none (b₀ :: suite) hp :: rest)) Q E s₃) E s₂) E s₁) x s₁) (.ref e) s' := by
  refine wpAny_looks_onW hfr hf hfl fun h1 hh1 u1 => ?_
  have back : cameBackBy G.M A env (fun e s₁ => wpAny G.M A (noteFrame e env) (fun _ s₂ => wpAny G.M A (setFlight e none) (fun _ s₃ => wpAny G.M A (handleBy e env (.ExceptHandler (some t) none (b₀ :: suite) hp :: rest)) Q E s₃) E s₂) E s₁) (.ref e) { s' with heap := h1 } := by
    unfold cameBackBy
    rw [hf]
    refine flight_again (s := { s' with heap := h1 }) hh1 fun h2 hh2 u2 => ?_
    refine wpAny_noteFrame_againW hf hh2.2.2.2 ?_
    refine wpAny_landsW (s := { s' with heap := h2 }) hh2 fun h3 hf3 u3 => ?_
    have u13 := (u1.trans u2).trans u3
    refine wpAny_handleBy_builtin (X := "StopIteration") (T := "StopIteration") (b := true) (by rw [isSubtype_type]; kernel_rfl) (by rw [isSubtype_type]; kernel_rfl) (by rw [isSubtype_type]; kernel_rfl) ?_
    obtain ⟨ob, ho, hc⟩ := hf3.there
    refine wpAny_mono (h h3 u13 hf3.1).1 (fun c s₁ h00 => ?_) fun _ _ f => f.elim
    obtain ⟨ec, es⟩ := h00
    subst es
    refine ⟨ec, ⟨ob, ho, hc⟩, ?_⟩
    simp only [if_true]
    obtain ⟨g1, g2, g3, g4⟩ := hf3
    refine wpAny_setFlight_noneW (s := { s' with heap := h3 }) g1 g3 g4.at fun h4 k1 k2 k3 k4 => ?_
    exact wpAny_mono (h h4 (u13.trans fun b o hb hn => ⟨o.slots, k4 b o hb hn⟩) k1).2 (fun _ _ q => q) fun _ _ f => f.elim
  exact back
end
end Mine
/-! B11 -/
namespace Mine

theorem d85 (P : Params) : isDef (hd.heap_1 P) 85 = true := by kernel_rfl
theorem b85 (P : Params) : (fdOf (hd.heap_1 P) 85).body = .stmts (bodyOf (stAt 15)) := by kernel_rfl
theorem s85 (P : Params) : (fdOf (hd.heap_1 P) 85).scope = scopeOf (stAt 15) := by kernel_rfl

noncomputable abbrev nats (l : List Nat) : List Int := l.map fun (v : Nat) => (v : Int)
/-- the digits of place i -/
noncomputable def digitsOf (names : List Nat) (size step i : Nat) : List Nat := (List.range size).map fun k => names.getD ((i + k * step) % names.length) 0
noncomputable def joinF (names : List Nat) (size step : Nat) : List Nat := (List.range names.length).map fun i => valOf (digitsOf names size step i)
noncomputable def octF (names : List Nat) (size step i k : Nat) : Nat := names.getD ((i + k * step) % names.length) 0 + (if k + 1 < size then 64 else 0)
noncomputable def octD (names : List Nat) (size step : Nat) : D → D → D
  | .int i, .int k => .int (octF names size step i.toNat k.toNat)
  | _, _ => .none
noncomputable def octL (names : List Nat) (size step : Nat) : List Int := (List.range names.length).flatMap fun i => (List.range size).map fun k => (octF names size step i k : Int)

theorem rng_nat (k : Nat) : rng 0 1 k = (List.range k).map fun (i : Nat) => D.int i := by
  unfold rng; simp
theorem octL_eq (names : List Nat) (size step : Nat) : (rng 0 1 names.length).flatMap (fun d => (rng 0 1 size).map (octD names size step d)) = zs (octL names size step) := by
  rw [rng_nat, rng_nat, octL, zs, List.map_flatMap, List.flatMap_map]
  congr 1
  funext i
  rw [List.map_map, List.map_map]
  rfl
theorem flat_get {α : Type} (f : Nat → List α) (m : Nat) (hf : ∀ i, (f i).length = m) : ∀ (L i k : Nat), i < L → k < m → ((List.range L).flatMap f)[i * m + k]? = (f i)[k]?
  | 0, i, k, h, _ => by (first | lia | omega)
  | L + 1, i, k, h, hk => by
    rw [List.range_succ, List.flatMap_append]
    have hlen : ((List.range L).flatMap f).length = L * m := by
      rw [List.length_flatMap]
      simp [hf, List.map_const', List.sum_replicate_nat]
    by_cases hi : i < L
    · rw [List.getElem?_append_left (by rw [hlen]; calc i * m + k < i * m + m := by (first | lia | omega)
            _ = (i + 1) * m := by rw [Nat.succ_mul]
            _ ≤ L * m := Nat.mul_le_mul_right _ hi)]
      exact flat_get f m hf L i k hi hk
    · have hiL : i = L := by (first | lia | omega)
      subst hiL
      rw [List.getElem?_append_right (by rw [hlen]; (first | lia | omega)), hlen]
      simp
theorem octL_len (names : List Nat) (size step : Nat) : (octL names size step).length = names.length * size := by
  unfold octL
  rw [List.length_flatMap]
  simp [List.map_const', List.sum_replicate_nat]
theorem octs_of (names : List Nat) (size step i : Nat) (hi : i < names.length) : Octs (octL names size step) (i * size) (digitsOf names size step i) := fun k hk => by
  have hk' : k < size := by simpa [digitsOf] using hk
  unfold octL
  rw [flat_get _ size (fun i => by simp) names.length i k hi hk', List.getElem?_map, List.getElem?_range hk']
  have h1 : (digitsOf names size step i).length = size := by simp [digitsOf]
  have h2 : (digitsOf names size step i).getD k 0 = names.getD ((i + k * step) % names.length) 0 := by
    unfold digitsOf
    rw [List.getD_eq_getElem?_getD, List.getElem?_map, List.getElem?_range hk']; rfl
  rw [h1, h2]
  rfl

section
variable {G : W0} {n : Nat} {A : Around} {env : Env} {ok : Addr → Prop} {ρ : List (String × D)}

theorem call_iter_list {s : Shared} {l : Addr} {items : Array Value} {Q : Value → Shared → Prop} {E : Value → Shared → Prop} (hl : s.heap.IsList l items)
    (h : Q (.ref s.heap.objs.size) { s with heap := s.heap.push { cls := .type "list_iterator", data := .fields #[.ref l, .int 0 0] } }) : wpAny G.M A (call (.builtin "iter") [.ref l]) Q E s := by
  refine call_function_entry (by decide +kernel) (by decide +kernel) kdk_entry_iter (kdk_args_iter _) ?_
  unfold Builtin.«iter»
  refine wpAny_bind (m := someArgs "iter" 1 2 _) (wpAny_of_eq (a := [Value.ref l]) (by first | rfl | kernel_rfl!) ?_)
  show wpAny _ _ (pyIter (.ref l) >>= _) _ _ _
  refine wpAny_bind (wpAny_pyIter_list hl ?_)
  exact wpAny_pure ⟨_, rfl, h⟩

theorem ev_lenN {func : Str} {q1 q2 q3 : Pos} {x : String} {l : List Int} {k : Nat} (hk : l.length = k) (hz : k < 1000000) (hf : Blt G n A env ok ρ func q1 (.builtin "len")) (h : (x, D.list (zs l)) ∈ ρ) (h1 : (Str.ofString x == ("__debug__" : Str)) = false := by decide) (h2 : (Str.ofString x == ("__classdict__" : Str)) = false := by decide) :
    Ev G n A env ok ρ (.Call (.Name func q1) [.Name (Str.ofString x) q2] [] q3) (.int k) := by
  have := ev_lenL (pos := q3) hf (ev_name (pos := q2) h h1 h2) (by simp; (first | lia | omega))
  subst hk
  simpa using this
noncomputable abbrev rJ (names : List Nat) (size step : Nat) (T a : Addr) : List (String × D) := [("names", .list (zs (nats names))), ("size", .int size), ("step", .int step), ("octets", .list (zs (octL names size step))), ("tape", .val (.ref T)), ("told", .val (.ref a))]

theorem spec_joined {names : List Nat} {size step : Nat} (hn : ∀ v ∈ names, v < 64) (hl : 0 < names.length) (hl2 : names.length < 100) (hs : 1 ≤ size) (hs2 : size ≤ 8) (hst : step < 1000000) :
    Spec G (n + 5) 85 [.list (zs (nats names)), .int size, .int step] [] [] (.list (zs (nats (joinF names size step)))) := fun A s vs us c r1 r2 => by
  obtain ⟨va, _, rfl, ra, vb, _, rfl, rb, vc, _, rfl, rc, rfl⟩ := r1
  obtain rfl := r2
  refine enter (n := n + 4) c (d85 _) (b85 _) (s85 _) (by kernel_rfl) (binds := [(Str.ofString "names", va), (Str.ofString "size", vb), (Str.ofString "step", vc)]) (fun S => by kernel_rfl) (by simp only [List.map]; decide) (by kernel_rfl)
    (.cons ra (.cons rb (.cons rc .nil))) fun env s₁ iE hfr F _ _ => gen fun Q E hQ hE => ?_
  have gb : ∀ x : String, (scopeOf (stAt 15)).names.lookup (Str.ofString x) = some .globalImplicit → env.kindOf (Str.ofString x) = some .globalImplicit := fun x h => iE.kinds _ _ h (by decide)
  have hrl : ∀ (k i : Nat), (rng 0 1 k)[i]? = if i < k then some (.int i) else none := fun k i => by
    rw [rng_nat, List.getElem?_map]
    by_cases h : i < k
    · rw [List.getElem?_range h, if_pos h]; rfl
    · rw [List.getElem?_eq_none (by simpa using h), if_neg h]; rfl
  have hmem : ∀ k, ∀ d ∈ rng 0 1 k, ∃ i : Nat, i < k ∧ d = .int i := fun k d hd => by
    rw [rng_nat] at hd
    obtain ⟨i, h1, rfl⟩ := List.mem_map.mp hd
    exact ⟨i, List.mem_range.mp h1, rfl⟩
  refine st_comp2 (isL := false) (isL2 := false) (rng 0 1 names.length) (rng 0 1 size) (octD names size step) (fun d => [("names", .list (zs (nats names))), ("size", .int size), ("step", .int step), ("i", d)]) (fun d x => [("names", .list (zs (nats names))), ("size", .int size), ("step", .int step), ("i", d), ("k", x)])
    (ρc := [("names", .list (zs (nats names))), ("size", .int size), ("step", .int step)]) (ρ' := [("names", .list (zs (nats names))), ("size", .int size), ("step", .int step), ("octets", .list (zs (octL names size step)))]) F
    (src_range1 (ev_blt (gb "range" (by kernel_rfl)) (by kernel_rfl) (by kernel_rfl)) (ev_lenN (by simp) (by (first | lia | omega)) (ev_blt (gb "len" (by kernel_rfl)) (by kernel_rfl) (by kernel_rfl)) (.head _)) (by (first | lia | omega)))
    rfl (by decide) (freeOk iE (by kernel_rfl)) (.cell iE (.head _) (by kernel_rfl) (by kernel_rfl) (.cell iE (.tail _ (.head _)) (by kernel_rfl) (by kernel_rfl) (.cell iE (.tail _ (.tail _ (.head _))) (by kernel_rfl) (by kernel_rfl) .nil)))
    (fun _ _ => rfl) (fun _ _ => rfl) (fun cenv ok' X iC d hd => tgt_name (let ⟨a, h1, h2⟩ := iC.atX _ _ (by kernel_rfl) (.inl rfl); ⟨a, h1, ⟨_, h1⟩, h2⟩) (.tail (.tail (.tail .nil)))) (fun d p hp => List.mem_append_left [("i", d)] hp)
    (fun cenv ok' X iC d hd => src_range1 (ev_blt (iC.kinds _ _ (by kernel_rfl) (by decide)) (by kernel_rfl) (by kernel_rfl)) (ev_name (.tail _ (.head _))) (by (first | lia | omega)))
    (fun cenv ok' X iC d hd x hx => tgt_name (let ⟨a, h1, h2⟩ := iC.atX _ _ (by kernel_rfl) (.inl rfl); ⟨a, h1, ⟨_, h1⟩, h2⟩) (.tail (.tail (.tail (.tail .nil))))) (fun d x p hp => List.mem_append_left [("k", x)] hp)
    (fun cenv ok' X iC d hd x hx => ?_) ?_ (iE.kinds _ _ (by kernel_rfl) (by decide)) (by rw [octL_eq]; exact .tail (.tail (.tail .nil))) (fun s₂ F2 k2 => ?_)
  · obtain ⟨i, hi, rfl⟩ := hmem _ d hd
    obtain ⟨k, hk, rfl⟩ := hmem _ x hx
    have hL : (nats names).length = names.length := by simp
    have hm : (((i : Int) + (k : Int) * (step : Int)) % (names.length : Int)) = (((i + k * step) % names.length : Nat) : Int) := by push_cast; rfl
    have hlt : (i + k * step) % names.length < names.length := Nat.mod_lt _ hl
    have hget : (zs (nats names))[((((i + k * step) % names.length : Nat)) : Int).toNat]? = some (.int ((names.getD ((i + k * step) % names.length) 0 : Nat) : Int)) := by
      rw [Int.toNat_natCast, List.getElem?_map, List.getElem?_map, List.getElem?_eq_getElem hlt, List.getD_eq_getElem?_getD, List.getElem?_eq_getElem hlt]; rfl
    have e0 : octD names size step (.int (i : Int)) (.int (k : Int)) = .int (((names.getD ((i + k * step) % names.length) 0 : Nat) : Int) + (if k + 1 < size then 64 else 0)) := by
      show D.int ((octF names size step (i : Int).toNat (k : Int).toNat : Nat) : Int) = _
      rw [Int.toNat_natCast, Int.toNat_natCast]
      unfold octF
      split <;> simp
    rw [e0]
    have hd1 : decide ((k : Int) < (size : Int) - 1) = decide (k + 1 < size) := by
      rw [decide_eq_decide]; (first | lia | omega)
    refine ev_add (ev_item (ev_name (.head _)) (hm ▸ ev_mod (ev_add (ev_name (.tail _ (.tail _ (.tail _ (.head _))))) (ev_mul (ev_name (.tail _ (.tail _ (.tail _ (.tail _ (.head _)))))) (ev_name (.tail _ (.tail _ (.head _)))) (by (first | lia | omega)))) (ev_lenN hL (by (first | lia | omega)) (ev_blt (iC.kinds _ _ (by kernel_rfl) (by decide)) (by kernel_rfl) (by kernel_rfl)) (.head _)) (by (first | lia | omega))) (by (first | lia | omega)) (by (first | lia | omega)) hget)
      (ev_ifexp (b := decide (k + 1 < size)) (hd1 ▸ tst_cmp (ev_name (.tail _ (.tail _ (.tail _ (.tail _ (.head _)))))) (ev_sub (ev_name (.tail _ (.head _))) ev_int) cmp_lt) (fun h => ?_) (fun h => ?_))
    · rw [if_pos (of_decide_eq_true h)]; exact ev_int
    · rw [if_neg (of_decide_eq_false h)]; exact ev_int
  · have e1 : (rng 0 1 names.length).length = names.length := by simp [rng]
    have e2 : (rng 0 1 size).length = size := by simp [rng]
    rw [e1, e2]
    have : names.length * size ≤ 100 * 8 := Nat.mul_le_mul (by (first | lia | omega)) (by (first | lia | omega))
    (first | lia | omega)
  -- tape = iter(octets)
  have hfi : ∀ q, Blt G (n + 4) (A.deeper env) env (fun _ => True) [("names", .list (zs (nats names))), ("size", .int size), ("step", .int step), ("octets", .list (zs (octL names size step)))] (Str.ofString "iter") q (.builtin "iter") := fun q => ev_blt (gb "iter" (by kernel_rfl)) (by kernel_rfl) (by kernel_rfl)
  refine st_of (wpAny_Assign_Name (wpAny_Call_Name_kw (Ev.to (F2.ev (hfi _)) fun v s₃ h00 => ?_)) rfl)
  obtain ⟨a3, r3⟩ := h00
  obtain rfl := r3
  have F3 := F2.aft a3
  refine Calls.callWith_builtin rfl (wp_evalArgs (evs_one (ev_name (.tail _ (.tail _ (.tail _ (.head _)))))) ekw_nil ⟨_, _, rfl, fun _ => rfl⟩ F3.cx F3.sat fun s₄ ws us a4 r4 r5 => ?_)
  obtain rfl := r5
  obtain ⟨_, _, rfl, rl, rfl⟩ := r4
  obtain ⟨l, ls, kk, rfl, _, hgl, rr⟩ := rl
  have F4 := F3.aft a4
  refine call_iter_list (LO.isList hgl) ?_
  generalize hT0 : s₄.heap.objs.size = T; revert T; refine hold ?_; intro T hT0
  have hTn : s₄.heap.get? T = none := by rw [← hT0]; exact no_get
  have a5 := F4.cx.keeps (h' := s₄.heap.push { cls := .type "list_iterator", data := .fields #[.ref l, .int 0 0] }) (tk := s₄.toks) fun b o e => Heap.get?_push_of_some _ e
  have t5 : Tape T l (zs (octL names size step)) 0 (s₄.heap.push { cls := .type "list_iterator", data := .fields #[.ref l, .int 0 0] }) := ⟨⟨_, by rw [← hT0]; exact Heap.get?_push_size _ rfl, rfl, rfl⟩, ls, kk, Heap.get?_push_of_some _ hgl, rr.kept F4.cx.tab a5.1.kept⟩
  have hTold := F4.old hTn
  have hlive : ∀ x, ¬ At env x T := fun x h => by
    rcases h with ⟨_, q⟩ | ⟨_, q⟩
    · obtain ⟨m, o, es, ep, e, _⟩ := F4.sat.eo.ns; rw [← q, hTn] at e; cases e
    · obtain ⟨⟨v, o, e, _⟩, _⟩ := F4.sat.eo.cells _ _ q; rw [hTn] at e; cases e
  have hnl : T ≠ env.locals := fun q => by obtain ⟨m, o, es, ep, e, _⟩ := F4.sat.eo.ns; rw [← q, hTn] at e; cases e
  have hnc : ∀ x c, env.cells.lookup x = some c → T ≠ c := fun x c q h => by subst h; obtain ⟨⟨v, o, e, _⟩, _⟩ := F4.sat.eo.cells _ _ q; rw [hTn] at e; cases e
  refine (F4.aft a5).store (at_of iE (by kernel_rfl)) (d := .val (.ref T)) (by simp only [Rel]) (ρ' := [("names", .list (zs (nats names))), ("size", .int size), ("step", .int step), ("octets", .list (zs (octL names size step))), ("tape", .val (.ref T))]) (.tail (.tail (.tail (.tail .nil)))) fun s₅ F5 sol5 => ?_
  have fl : ∀ d ∈ zs (octL names size step), Flat d := fun d hd => by obtain ⟨x, _, rfl⟩ := List.mem_map.mp hd; trivial
  have tsol : ∀ {h h' : Heap} {p : Nat}, (∀ b o, Solid o → h.get? b = some o → h'.get? b = some o) → Tape T l (zs (octL names size step)) p h → Tape T l (zs (octL names size step)) p h' := fun {h h' p} k t => by
    obtain ⟨o, e, hc, hd⟩ := t.it
    obtain ⟨us, j, e', r'⟩ := t.ls
    exact ⟨⟨o, k T o (itr_list t.it o e).solid e, hc, hd⟩, us, j, k l _ (IsSeq.solid ⟨_, _, rfl⟩) e', RelAll.flat' fl r'⟩
  have taft : ∀ {s s' : Shared} {p : Nat} {m m' : Nat} {A₁ A₂ : Around}, Cx G m A₁ s → Aft G m' A₂ s s' → Tape T l (zs (octL names size step)) p s.heap → Tape T l (zs (octL names size step)) p s'.heap := fun {s s' p m m' A₁ A₂} c a t => by
    obtain ⟨o, e, hc, hd⟩ := t.it
    obtain ⟨us, j, e', r'⟩ := t.ls
    exact ⟨⟨o, a.1.kept.get (t.not99 c) e (itr_list t.it o e).1, hc, hd⟩, us, j, a.1.kept.get (ne_tab c.tab e' (IsSeq.nf ⟨_, _, rfl⟩)) e' (IsSeq.nd ⟨_, _, rfl⟩), RelAll.flat' fl r'⟩
  have t6 := tsol sol5 t5
  -- told = []
  have hev : ∀ q, Evf G (n + 4) (A.deeper env) env (fun _ => True) (.List [] q) [] s₅ := fun q => evf_of F5.cx F5.sat evs_nil
  refine st_of (wpAny_Assign_Name (Ev.to (hev _) fun v s₆ h00 => ?_) rfl)
  obtain ⟨a6, a, us, k6, ev, hna, hga, ra6⟩ := h00
  subst ev
  have F6 := F5.apart a6 hna hga
  obtain ⟨ha0, hab⟩ := F5.old hna
  have O6 : Own G (But (fun _ => True) a) s s₆ a [] := ⟨⟨us, k6, hga, ra6⟩, fun h => h.2 rfl, ha0, hab⟩
  have t7 := taft F5.cx a6 t6
  have hTa : T ≠ a := fun q => by subst q; obtain ⟨o, e, _⟩ := t6.it; rw [hna] at e; cases e
  refine F6.store (at_of iE (by kernel_rfl)) (d := .val (.ref a)) (by simp only [Rel]) (ρ' := rJ names size step T a) (.tail (.tail (.tail (.tail (.tail .nil))))) fun s₇ F7 sol7 => ?_
  have t8 := tsol sol7 t7
  have O7 := O6.sol sol7
  -- the loop
  have hJlen : (joinF names size step).length = names.length := by simp [joinF]
  have hJget : ∀ i, i < names.length → (joinF names size step)[i]? = some (valOf (digitsOf names size step i)) := fun i hi => by
    unfold joinF; rw [List.getElem?_map, List.getElem?_range hi]; rfl
  have hfv : ∀ q, Blt G (n + 4) (A.deeper env) env (But (fun _ => True) a) (rJ names size step T a) (Str.ofString "_parse_varint") q (.ref 47) := fun q => ev_glob (gb "_parse_varint" (by kernel_rfl)) (by kernel_rfl)
  obtain ⟨outer, ho1, ho2⟩ := c.fr
  have hfrs : (A.deeper env).frames = some (env :: outer) := Around.frames_deeper ho1
  refine st_of (wpAny_Try_except (wpAny_execs_cons (wpAny_While (codeAny_whileLoop (fun k s' => ∃ i, i ≤ names.length ∧ k = names.length - i ∧ Fst G (n + 4) (A.deeper env) env (But (fun _ => True) a) (rJ names size step T a) s s' s' ∧ Own G (But (fun _ => True) a) s s' a (zs (nats ((joinF names size step).take i))) ∧ Tape T l (zs (octL names size step)) (i * size) s'.heap) ?_ names.length ⟨0, by (first | lia | omega), rfl, F7.reset, by simpa using O7, by simpa using t8⟩))))
  rintro k s₈ ⟨i, hi, rfl, F8, O8, t9⟩
  refine isTrue_plain ?_ rfl
  rw [eval_Constant]
  refine wpAny_pure (wpAny_truthy_bool ?_)
  simp only [if_true]
  obtain ⟨va8, V8, R8⟩ := F8.sat.vars ("told", .val (.ref a)) (.tail _ (.tail _ (.tail _ (.tail _ (.tail _ (.head _))))))
  obtain rfl := R8
  have hint : interactive env = false := by
    unfold interactive
    rw [F8.sat.eo.kind]; rfl
  obtain ⟨vs8, k8, hg8, rr8⟩ := O8.cont
  refine wpAny_execs_cons (wpAny_Expr_any (wpAny_Call_append rfl rfl rfl rfl (wpAny_Name (load_var F8.sat.eo.kind V8 rfl ⟨a, vs8.toArray, rfl, ⟨_, k8, hg8, rfl, rfl, rfl⟩, ?_⟩) rfl)) hint rfl)
  refine wpAny_Call_Name_kw (Ev.to (F8.ev (hfv _)) fun v s₉ h00 => ?_)
  obtain ⟨a9, r9⟩ := h00
  obtain rfl := r9
  have F9 := F8.aft a9
  have O9 := O8.aft F8.cx a9
  have t10 := taft F8.cx a9 t9
  obtain ⟨o47, fd47, ho47, hd47⟩ := isDef_there (d47 _) s₉ F9.cx
  refine callWith_function_kw (o := o47) (fd := fd47) (wp_evalArgs (evs_one (ev_name (.tail _ (.tail _ (.tail _ (.tail _ (.head _))))))) ekw_nil ⟨_, _, rfl, fun _ => rfl⟩ F9.cx F9.sat fun s₁₀ ws us a10 q1 q2 => ⟨⟨a10.1.kept.get (ne_tab F9.cx.tab ho47 (fun ws q => by rw [hd47] at q; cases q)) ho47 (fun es ep q => (by rw [hd47] at q; cases q)), hd47⟩, ?_⟩)
  obtain rfl := q2
  obtain ⟨_, _, rfl, rfl, rfl⟩ := q1
  have F10 := F9.aft a10
  have O10 := O9.aft F9.cx a10
  have t11 := taft F9.cx a10 t10
  by_cases hlt : i < names.length
  · -- one more number
    have hdl : (digitsOf names size step i).length = size := by simp [digitsOf]
    refine wpAny_call (codeAny_mono (varint_ok (n := n + 2) F10.cx t11 hTold.2 (fun v hv => ?_) (by rw [hdl]; exact hs) (by rw [hdl]; exact hs2) (octs_of names size step i hlt)) fun r s₁₁ ⟨⟨u, er⟩, cx, mm, t12⟩ => ?_)
    · obtain ⟨k, _, rfl⟩ := List.mem_map.mp hv
      rw [List.getD_eq_getElem?_getD]
      have hlt' : (i + k * step) % names.length < names.length := Nat.mod_lt _ hl
      rw [List.getElem?_eq_getElem hlt']
      exact hn _ (List.getElem_mem hlt')
    · subst er
      rw [hdl] at t12
      have hItr := itr_list t11.it
      have tk : Tick G (n + 4) (A.deeper env) env (But (fun _ => True) a) s s₁₀ s₁₁ (· = T) s.gens.size :=
        ⟨cx, mm.kept, mm.os, fun i g _ e => mm.gens i g e, fun b q => q ▸ hTold.1, fun b q => q ▸ ⟨trivial, hTa⟩, fun q => hnl q.symm, fun x c q e => hnc x c q e.symm, fun b o q e hs => (hItr o (q ▸ e)).2.2.1 hs, by simp⟩
      have F11 := F10.tick tk
      have O11 := O10.tick F10.cx tk
      obtain ⟨vs11, k11, hg11, rr11⟩ := O11.cont
      have hl11 := rr11.length
      refine wp_append hg11 (by rw [hl11]; simp [sizeLine, hJlen]; (first | lia | omega)) fun h' k' hg' hs' => ?_
      obtain ⟨F12, O12⟩ := own_set (tk := s₁₁.toks) F11 O11 hs' hg' (rr11.append (RelAll.cons' (d := .int (valOf (digitsOf names size step i) : Nat)) ⟨u, rfl⟩ RelAll.nil'))
      refine wpAny_execs_nil ⟨names.length - (i + 1), ar_less hlt, i + 1, hlt, rfl, F12.reset, ?_, ?_⟩
      · have e : zs (nats ((joinF names size step).take (i + 1))) = zs (nats ((joinF names size step).take i)) ++ [.int (valOf (digitsOf names size step i) : Nat)] := by
          rw [List.take_add_one, hJget i hlt]; simp
        rw [e]; exact O12
      · obtain ⟨o, e, hc, hd⟩ := t12.it
        obtain ⟨us, j, e', r'⟩ := t12.ls
        have hla : l ≠ a := fun q => by
          obtain ⟨vs0, k0, e0, _⟩ := t6.ls
          subst q; rw [hna] at e0; cases e0
        exact ⟨⟨o, by show h'.get? T = _; rw [hs'.2 T hTa]; exact e, hc, by rw [hd, Nat.succ_mul]⟩, us, j, by show h'.get? l = _; rw [hs'.2 l hla]; exact e', RelAll.flat' fl r'⟩
  · -- the end
    have hie : i = names.length := by (first | lia | omega)
    subst hie
    rw [← octL_len names size step] at t11
    refine wpAny_call (codeAny_mono (varint_end (n := n + 2) F10.cx t11 hTold.2) fun r s₁₁ h00 => ?_)
    obtain ⟨e, a0, B, outer', er, efr, hfl, FL, hos, hbare, hgens⟩ := h00
    subst er
    rw [hfrs] at efr
    cases efr
    refine stop_caught hfrs hfr hfl fun h' u hB => ?_
    have hT9 := t11.not99 F10.cx
    have notT : ∀ b o es ep, s₁₀.heap.get? b = some o → o.data = .dict es ep → b ≠ T := fun b o es ep e1 e2 q => by subst q; obtain ⟨o', e3, _, hd⟩ := t11.it; rw [e1] at e3; cases e3; rw [e2] at hd; cases hd
    have md : Mod (· = T) s₁₀ { s₁₁ with heap := h' } := by
      refine ⟨fun b o h9 hbT e1 => ?_, hos, hgens⟩
      by_cases hd : NotDict o
      · exact ⟨o.slots, hB b _ (FL.old b o h9 hbT hd e1), fun _ => rfl⟩
      · simp only [NotDict] at hd
        rw [Classical.not_forall] at hd
        obtain ⟨es, hd⟩ := hd
        rw [Classical.not_forall] at hd
        obtain ⟨ep, hd⟩ := hd
        rw [Classical.not_not] at hd
        obtain ⟨sl, e2⟩ := FL.dold b o es ep e1 hd
        obtain ⟨sl', e3⟩ := u b _ e2 fun vs q => by rw [show ({ o with slots := sl } : Obj).data = o.data from rfl, hd] at q; cases q
        exact ⟨sl', e3, fun hn => absurd hd (hn es ep)⟩
    have ext : Ext s { s₁₁ with heap := h' } := F10.ext.step md fun b q => q ▸ hTold.1
    have cx : Cx G (n + 5) A { s₁₁ with heap := h' } := ⟨fun b o e1 => hB b o (FL.base b o e1), FL.tab.2.keeps hB, ⟨outer, ho1, ho2.kept ext.kept⟩, c.hh, c.dep, c.un, hbare⟩
    have nsk : ∀ {y : Addr} {m : Str → Option Value}, s₁₀.heap.Ns y m → h'.Ns y m := fun {y m} q => by
      have h9 := ns_ne F10.cx.tab q
      obtain ⟨o, es, ep, e1, hd, r⟩ := q
      obtain ⟨sl, e2, _⟩ := md.kept y o h9 (notT y o es ep e1 hd) e1
      exact ⟨_, es, ep, e2, hd, r⟩
    refine ⟨?_, ?_⟩
    · refine Calls.Name_function_global F10.sat.eo.kind (gb "StopIteration" (by kernel_rfl)) ?_ rfl
      have hst : G.base.StaysIn h' := cx.stays
      exact Calls.loadGlobal_builtin (by rw [F10.sat.eo.glob]; exact G.g.keeps hst) (mg_none_of G.kin G.g (n := Str.ofString "StopIteration") (by kernel_rfl)) (by rw [F10.sat.eo.blt]; exact G.b.keeps hst) ((G.bi _ (by decide)).trans (by kernel_rfl)) ⟨rfl, rfl⟩
    · obtain ⟨va, V, R⟩ := F10.sat.vars ("told", .val (.ref a)) (.tail _ (.tail _ (.tail _ (.tail _ (.tail _ (.head _))))))
      obtain rfl := R
      have hkt : env.kindOf (Str.ofString "told") = some .local := iE.kinds _ _ (by kernel_rfl) (by decide)
      obtain ⟨m, hm1, hm2⟩ : ∃ m, s₁₀.heap.Ns env.locals m ∧ m (Str.ofString "told") = some (.ref a) := by
        rcases V with ⟨_, q⟩ | ⟨q, _⟩
        · exact q
        · rw [hkt] at q; rcases q with q | q <;> cases q
      refine wpAny_execs_cons (wpAny_Return_some (wpAny_Name (wpAny_loadName_local F10.sat.eo.kind hkt (nsk hm1) hm2 ?_) rfl))
      obtain ⟨vs0, k0, hg0, rr0⟩ := O10.cont
      have hga' : h'.get? a = some (LO vs0 k0) := md.get (own_ne F10.cx O10) (fun q => hTa q.symm) (IsSeq.nd ⟨_, _, rfl⟩) hg0
      refine hQ _ _ ⟨.ref a, rfl, ⟨ext, cx⟩, ?_⟩
      simp only [Rel]
      refine ⟨a, vs0, k0, rfl, ha0, hga', ?_⟩
      rw [show (joinF names size step).take names.length = joinF names size step by rw [← hJlen, List.take_length]] at rr0
      exact RelAll.flat' (fun d hd => by obtain ⟨x, _, rfl⟩ := List.mem_map.mp hd; trivial) rr0
end
end Mine
/-! B12 -/
open PySem.AutoSeq1 (wpAny_loadPart')
open PySem.MeetsSeq PySem.MeetsSeq2 PySem.MeetsSeq3 PySem.SeqAt
namespace Mine

/-- which row of atoms comes first -/
noncomputable def llt : List D → List D → Bool
  | [], [] => false
  | [], _ :: _ => true
  | _ :: _, [] => false
  | a :: r, b :: r' => if deq a b then llt r r' else dlt a b

theorem lt_loopAt (l b : Addr) (items items2 : Array Value) (n n2 : Nat) (dd dd2 : Option Addr) (sl sl2 : Array (Option Value)) (e d : Nat → Bool) (k : Nat) :
    ∀ i : Nat, items.size - i = k → i ≤ items.size → items.size = items2.size → Meets (Builtin.«list.__eq__.loop» ⟨[.ref l, .ref b, rawInt i, rawInt 0], []⟩)
      (fun A R s => s.heap.get? l = some { cls := .type "list", dict := dd, data := .seq items n, slots := sl } ∧ s.heap.get? b = some { cls := .type "list", dict := dd2, data := .seq items2 n2, slots := sl2 } ∧
        (∀ j (h1 : j < items.size) (h2 : j < items2.size), EqAt A.in1 s items[j] items2[j] (e j)) ∧
        (∀ j (h1 : j < items.size) (h2 : j < items2.size) prog w (Q : Value → Shared → Prop) (E : Value → Shared → Prop), Q (.bool (d j)) s → wpAny (model prog w) A.in1 (richCompare .Lt items[j] items2[j]) Q E s) ∧
        R (.ok (.ret (.bool (((List.range items.size).drop i).foldr (fun j r => if e j then r else d j) false)))) s) := by
  induction k with
  | zero =>
    intro i hk hi hsz prog w A R s h
    obtain ⟨hp, g, dr, tk, os⟩ := s; obtain ⟨hl, hb, he, hlt, h⟩ := h
    wp_walk using wpAny_loadPart' hl, wpAny_loadPart' hb
    have hi1 : items[((i : Nat) : Int).toNat]? = none := by simp; omega
    have hi2 : items2[((i : Nat) : Int).toNat]? = none := by simp; omega
    have hd : (List.range items.size).drop i = [] := by simp; omega
    rw [hd] at h
    rw [hi1, hi2]
    wp_walk using wpAny_loadPart' hl, wpAny_loadPart' hb
    show R (.ok (.ret (.bool (decide (items.size < items2.size))))) _
    rw [hsz]
    simpa using h
  | succ k ih =>
    intro i hk hi hsz prog w A R s h
    obtain ⟨hp, g, dr, tk, os⟩ := s; obtain ⟨hl, hb, he, hlt', h⟩ := h
    wp_walk using wpAny_loadPart' hl, wpAny_loadPart' hb
    have hlt : i < items.size := by omega
    have hlt2 : i < items2.size := by omega
    have hi1 : items[((i : Nat) : Int).toNat]? = some items[i] := by simp [hlt]
    have hi2 : items2[((i : Nat) : Int).toNat]? = some items2[i] := by simp [hlt2]
    have hd : (List.range items.size).drop i = i :: (List.range items.size).drop (i + 1) := by simp [List.drop_eq_getElem_cons, hlt]
    have hc : ((i : Int) + 1) = ((i + 1 : Nat) : Int) := by push_cast; rfl
    rw [hd, List.foldr_cons] at h
    rw [hi1, hi2]
    refine wpAny_bind (he i hlt hlt2 prog w _ _ ?_)
    cases hb' : e i with
    | true =>
      rw [hb'] at h
      wp_walk
      rw [hc]
      exact ⟨plainId_quiet plain_eq_loop _, codeAny_builtin entry_eq_loop (by
        rw [Around.under_plainId plain_eq_loop _]
        exact ih (i + 1) (by omega) (by omega) hsz prog w A R _ ⟨hl, hb, he, hlt', by simpa using h⟩)⟩
    | false =>
      rw [hb'] at h
      wp_walk using wpAny_loadPart' hl, wpAny_loadPart' hb
      rw [hi1, hi2]
      refine wpAny_bind (hlt' i hlt hlt2 prog w _ _ ?_)
      wp_walk
      simpa using h

theorem list_ltAt (l b : Addr) (items items2 : Array Value) (n n2 : Nat) (dd dd2 : Option Addr) (sl sl2 : Array (Option Value)) (e d : Nat → Bool) (hsz : items.size = items2.size) :
    Meets (Builtin.«list.__lt__» ⟨[.ref l, .ref b], []⟩)
      (fun A R s => s.heap.get? l = some { cls := .type "list", dict := dd, data := .seq items n, slots := sl } ∧ s.heap.get? b = some { cls := .type "list", dict := dd2, data := .seq items2 n2, slots := sl2 } ∧
        (∀ j (h1 : j < items.size) (h2 : j < items2.size), EqAt A.in1 s items[j] items2[j] (e j)) ∧
        (∀ j (h1 : j < items.size) (h2 : j < items2.size) prog w (Q : Value → Shared → Prop) (E : Value → Shared → Prop), Q (.bool (d j)) s → wpAny (model prog w) A.in1 (richCompare .Lt items[j] items2[j]) Q E s) ∧
        R (.ok (.ret (.bool ((List.range items.size).foldr (fun j r => if e j then r else d j) false)))) s) := by
  intro prog w A R s h
  obtain ⟨hp, g, dr, tk, os⟩ := s; obtain ⟨hl, hb, he, hlt, h⟩ := h
  have f3 := AutoSeq1.sub_list_list
  wp_walk using wpAny_loadPart' hl, wpAny_loadPart' hb
  exact ⟨plainId_quiet plain_eq_loop _, codeAny_builtin entry_eq_loop (by
    rw [Around.under_plainId plain_eq_loop _]
    exact lt_loopAt l b items items2 n n2 dd dd2 sl sl2 e d _ 0 rfl (Nat.zero_le _) hsz prog w A R _ ⟨hl, hb, he, hlt, by simpa using h⟩)⟩

theorem llt_fold : ∀ {x y : List D}, x.length = y.length → llt x y = (List.range x.length).foldr (fun j r => if deq (x.getD j .none) (y.getD j .none) then r else dlt (x.getD j .none) (y.getD j .none)) false
  | [], [], _ => rfl
  | [], _ :: _, h => by simp at h
  | _ :: _, [], h => by simp at h
  | a :: x, b :: y, h => by
    simp only [llt]
    rw [llt_fold (x := x) (y := y) (by simpa using h)]
    simp [List.range_succ_eq_map, List.foldr_map]

section
variable {G : W0} {n : Nat} {A : Around} {env : Env} {ok : Addr → Prop} {ρ : List (String × D)} {s : Shared}
theorem lt_atom {b : Bool} {d d' : D} {hp hp' : Heap} (h : Atom b d) (h' : Atom b d') {v u : Value} (r1 : Rel ok hp d v) (r2 : Rel ok hp' d' u) {prog : Program} {w : World} {Q : Value → Shared → Prop} {E : Value → Shared → Prop} (hQ : Q (.bool (dlt d d')) s) : wpAny (model prog w) A (richCompare .Lt v u) Q E s := by
  cases b <;> cases d <;> first | exact h.elim | skip
  all_goals cases d' <;> first | exact h'.elim | skip
  · simp only [Rel] at r1 r2
    obtain ⟨t, rfl⟩ := r1
    obtain ⟨t', rfl⟩ := r2
    exact P.lt_str hQ
  · simp only [Rel] at r1 r2
    obtain ⟨t, rfl⟩ := r1
    obtain ⟨t', rfl⟩ := r2
    exact wpAny_lt_int hQ
end
end Mine
/-! S1 -/
namespace Mine

/-- the sort's questions answered by an order -/
noncomputable def kasB {α : Type} (c : Nat → Nat → Bool) (n : Nat) : KasT α → (α → Prop) → Prop
  | .ret a, Q => Q a
  | .ask i j k, Q => i < n ∧ j < n ∧ kasB c n (k (c i j)) Q
theorem kasB_bind {α β : Type} {c : Nat → Nat → Bool} {n : Nat} {f : α → KasT β} {Q : β → Prop} : ∀ (t : KasT α), kasB c n t (fun a => kasB c n (f a) Q) → kasB c n (t.bind f) Q
  | .ret _, h => h
  | .ask i j k, ⟨h1, h2, h3⟩ => ⟨h1, h2, kasB_bind (k (c i j)) h3⟩
theorem kasB_mono {α : Type} {c : Nat → Nat → Bool} {n : Nat} {Q Q' : α → Prop} (hq : ∀ a, Q a → Q' a) : ∀ (t : KasT α), kasB c n t Q → kasB c n t Q'
  | .ret _, h => hq _ h
  | .ask i j k, ⟨h1, h2, h3⟩ => ⟨h1, h2, kasB_mono hq (k (c i j)) h3⟩
theorem kasB_wp {α : Type} {c : Nat → Nat → Bool} {n : Nat} {cmp : Nat → Nat → (Bool → Shared → Prop) → Shared → Prop} {Q : α → Shared → Prop} {s : Shared} (hc : ∀ i j C, i < n → j < n → C (c i j) s → cmp i j C s) : ∀ (t : KasT α), kasB c n t (fun a => Q a s) → t.kasWp cmp Q s
  | .ret _, h => h
  | .ask i j k, ⟨h1, h2, h3⟩ => hc i j _ h1 h2 (kasB_wp hc (k (c i j)) h3)

/-- an order of n things -/
structure Ord (c : Nat → Nat → Bool) (n : Nat) : Prop where
  irr : ∀ i, i < n → c i i = false
  tr : ∀ i j k, i < n → j < n → k < n → c i j = true → c j k = true → c i k = true
  tot : ∀ i j, i < n → j < n → i ≠ j → c i j = true ∨ c j i = true

/-- all the places, in some order -/
noncomputable def All (n : Nat) (p : Array Nat) : Prop := p.toList.Perm (List.range n)
theorem All.size {n : Nat} {p : Array Nat} (h : All n p) : p.size = n := by have := h.length_eq; simpa using this
theorem All.lt {n : Nat} {p : Array Nat} (h : All n p) {k : Nat} (hk : k < n) : p.getD k 0 < n := by
  have hs := h.size
  have hk' : k < p.size := by (first | lia | omega)
  have : p.getD k 0 ∈ p.toList := by simp [Array.getD, hk']
  exact List.mem_range.mp (h.mem_iff.mp this)
theorem All.inj {n : Nat} {p : Array Nat} (h : All n p) {a b : Nat} (ha : a < n) (hb : b < n) (hab : a ≠ b) : p.getD a 0 ≠ p.getD b 0 := by
  have hs := h.size
  have hnd : p.toList.Nodup := h.nodup_iff.mpr List.nodup_range
  have ha' : a < p.size := by (first | lia | omega)
  have hb' : b < p.size := by (first | lia | omega)
  have e1 : p.getD a 0 = p.toList[a]'(by simpa using ha') := by simp [Array.getD, ha']
  have e2 : p.getD b 0 = p.toList[b]'(by simpa using hb') := by simp [Array.getD, hb']
  rw [e1, e2]
  rcases Nat.lt_or_gt_of_ne hab with h | h
  · exact List.pairwise_iff_getElem.mp hnd a b _ _ h
  · exact (List.pairwise_iff_getElem.mp hnd b a _ _ h).symm
noncomputable def UpTo (c : Nat → Nat → Bool) (p : Array Nat) (m : Nat) : Prop := ∀ a b, a < b → b < m → c (p.getD a 0) (p.getD b 0) = true

theorem asc_ok {c : Nat → Nat → Bool} {n : Nat} (o : Ord c n) {p : Array Nat} (hp : All n p) : ∀ (f k : Nat), 1 ≤ k → k + f ≤ n → UpTo c p k → kasB c n (kas_asc p f k) (fun m => k ≤ m ∧ m ≤ k + f ∧ UpTo c p m ∧ (m < k + f → c (p.getD m 0) (p.getD (m - 1) 0) = true))
  | 0, k, h1, h2, hu => ⟨Nat.le_refl _, Nat.le_refl _, hu, fun h => by (first | lia | omega)⟩
  | f + 1, k, h1, h2, hu => by
    refine ⟨hp.lt (by (first | lia | omega)), hp.lt (by (first | lia | omega)), ?_⟩
    cases hc : c (p.getD k 0) (p.getD (k - 1) 0) with
    | true =>
      simp only [if_true]
      exact ⟨Nat.le_refl _, by (first | lia | omega), hu, fun _ => hc⟩
    | false =>
      simp only [Bool.false_eq_true, if_false]
      have hlt : c (p.getD (k - 1) 0) (p.getD k 0) = true := by
        rcases o.tot (p.getD k 0) (p.getD (k - 1) 0) (hp.lt (by (first | lia | omega))) (hp.lt (by (first | lia | omega))) (hp.inj (by (first | lia | omega)) (by (first | lia | omega)) (by (first | lia | omega))) with q | q
        · rw [hc] at q; cases q
        · exact q
      have hu' : UpTo c p (k + 1) := fun a b hab hb => by
        by_cases hbk : b < k
        · exact hu a b hab hbk
        · have hbe : b = k := by (first | lia | omega)
          subst hbe
          by_cases hak : a = b - 1
          · subst hak; exact hlt
          · exact o.tr _ _ _ (hp.lt (by (first | lia | omega))) (hp.lt (by (first | lia | omega))) (hp.lt (by (first | lia | omega))) (hu a (b - 1) (by (first | lia | omega)) (by (first | lia | omega))) hlt
      refine kasB_mono (fun m hm => ?_) _ (asc_ok o hp f (k + 1) (by (first | lia | omega)) (by (first | lia | omega)) hu')
      obtain ⟨q1, q2, q3, q4⟩ := hm
      exact ⟨by (first | lia | omega), by (first | lia | omega), q3, fun h => q4 (by (first | lia | omega))⟩
noncomputable def DownTo (c : Nat → Nat → Bool) (p : Array Nat) (m : Nat) : Prop := ∀ a b, a < b → b < m → c (p.getD b 0) (p.getD a 0) = true
theorem desc_ok {c : Nat → Nat → Bool} {n : Nat} (o : Ord c n) {p : Array Nat} (hp : All n p) : ∀ (f k : Nat), 1 ≤ k → k + f ≤ n → DownTo c p k → kasB c n (kas_desc f p k 0) (fun r => r.1 = p ∧ r.2.2 = 0 ∧ k ≤ r.2.1 ∧ r.2.1 ≤ k + f ∧ DownTo c p r.2.1)
  | 0, k, h1, h2, hu => ⟨rfl, rfl, Nat.le_refl _, Nat.le_refl _, hu⟩
  | f + 1, k, h1, h2, hu => by
    refine ⟨hp.lt (by (first | lia | omega)), hp.lt (by (first | lia | omega)), ?_⟩
    cases hc : c (p.getD k 0) (p.getD (k - 1) 0) with
    | true =>
      simp only [if_true, Nat.lt_irrefl, gt_iff_lt, if_false]
      have hu' : DownTo c p (k + 1) := fun a b hab hb => by
        by_cases hbk : b < k
        · exact hu a b hab hbk
        · have hbe : b = k := by (first | lia | omega)
          subst hbe
          by_cases hak : a = b - 1
          · subst hak; exact hc
          · exact o.tr _ _ _ (hp.lt (by (first | lia | omega))) (hp.lt (by (first | lia | omega))) (hp.lt (by (first | lia | omega))) hc (hu a (b - 1) (by (first | lia | omega)) (by (first | lia | omega)))
      refine kasB_mono (fun r hr => ?_) _ (desc_ok o hp f (k + 1) (by (first | lia | omega)) (by (first | lia | omega)) hu')
      obtain ⟨q1, q2, q3, q4, q5⟩ := hr
      exact ⟨q1, q2, by (first | lia | omega), by (first | lia | omega), q5⟩
    | false =>
      simp only [Bool.false_eq_true, if_false]
      have hlt : c (p.getD (k - 1) 0) (p.getD k 0) = true := by
        rcases o.tot (p.getD k 0) (p.getD (k - 1) 0) (hp.lt (by (first | lia | omega))) (hp.lt (by (first | lia | omega))) (hp.inj (by (first | lia | omega)) (by (first | lia | omega)) (by (first | lia | omega))) with q | q
        · rw [hc] at q; cases q
        · exact q
      refine ⟨hp.lt (by (first | lia | omega)), hp.lt (by (first | lia | omega)), ?_⟩
      rw [hlt]
      simp only [if_true]
      exact ⟨rfl, rfl, Nat.le_refl _, Nat.le_add_right _ _, hu⟩

theorem rev_all {n : Nat} {p : Array Nat} (hp : All n p) (i j : Nat) : All n (kas_rev p i j) := (Array.perm_iff_toList_perm.mp (mirror_perm p i j ((j - i) / 2))).trans hp
theorem rev_get {n : Nat} {p : Array Nat} (hp : All n p) {m : Nat} (hm : m ≤ n) (k : Nat) (hk : k < n) : (kas_rev p 0 m).getD k 0 = if k < m then p.getD (m - 1 - k) 0 else p.getD k 0 := by
  have hs := hp.size
  have e := getElem?_mirror (xs := p) (i := 0) (j := m) (by (first | lia | omega)) ((m - 0) / 2) (by (first | lia | omega)) k
  have g : ∀ (q : Array Nat) (k : Nat), q.getD k 0 = (q[k]?).getD 0 := fun q k => by simp [Array.getD]; split <;> simp_all
  rw [g, g, g]
  show ((mirror p 0 m ((m - 0) / 2))[k]?).getD 0 = _
  rw [e]
  by_cases hkm : k < m
  · rw [if_pos hkm]
    by_cases h1 : (0 ≤ k ∧ k < 0 + (m - 0) / 2) ∨ (m - (m - 0) / 2 ≤ k ∧ k < m)
    · rw [if_pos h1, show 0 + m - 1 - k = m - 1 - k by (first | lia | omega)]
    · rw [if_neg h1, show m - 1 - k = k by (first | lia | omega)]
  · rw [if_neg hkm, if_neg (by (first | lia | omega))]
theorem rev_up {c : Nat → Nat → Bool} {n : Nat} {p : Array Nat} (hp : All n p) {m : Nat} (hm : m ≤ n) (h : DownTo c p m) : UpTo c (kas_rev p 0 m) m := fun a b hab hb => by
  rw [rev_get hp hm a (by omega), rev_get hp hm b (by omega), if_pos (by omega), if_pos hb]
  exact h (m - 1 - b) (m - 1 - a) (by omega) (by omega)

theorem count_ok {c : Nat → Nat → Bool} {n : Nat} (o : Ord c n) {p : Array Nat} (hp : All n p) (hn : 1 ≤ n) : kasB c n (kas_count n p) (fun r => All n r.2 ∧ UpTo c r.2 r.1 ∧ 1 ≤ r.1 ∧ r.1 ≤ n) := by
  unfold kas_count
  refine kasB_bind _ (kasB_mono (fun m hm => ?_) _ (asc_ok o hp (n - 1) 1 (Nat.le_refl _) (by (first | lia | omega)) fun a b hab hb => by (first | lia | omega)))
  obtain ⟨h1, h2, h3, h4⟩ := hm
  by_cases he : m = n
  · subst he
    rw [if_pos (by simp)]
    exact ⟨hp, h3, h1, Nat.le_refl _⟩
  · rw [if_neg (by simpa using he)]
    by_cases h5 : m > 1
    · rw [if_pos h5]
      refine ⟨hp.lt (by (first | lia | omega)), hp.lt (by (first | lia | omega)), ?_⟩
      rw [h3 0 (m - 1) (by (first | lia | omega)) (by (first | lia | omega))]
      simp only [if_true]
      exact ⟨hp, h3, h1, by (first | lia | omega)⟩
    · rw [if_neg h5]
      have hm1 : m = 1 := by (first | lia | omega)
      subst hm1
      have hd := h4 (by (first | lia | omega))
      show kasB c n (kas_descPart 1 n p) _
      unfold kas_descPart
      refine kasB_bind _ (kasB_mono (fun r hr => ?_) _ (desc_ok o hp (n - (1 + 1)) (1 + 1) (by (first | lia | omega)) (by (first | lia | omega)) fun a b hab hb => ?_))
      · obtain ⟨q1, q2, q3, q4, q5⟩ := hr
        rw [q2]
        simp only [gt_iff_lt, Nat.lt_irrefl, if_false]
        unfold kas_tail3
        rw [q1]
        have hr2 : r.2.1 ≤ n := by (first | lia | omega)
        refine kasB_bind _ (kasB_mono (fun m hm => ?_) _ (asc_ok o (rev_all hp 0 r.2.1) (n - r.2.1) r.2.1 (by (first | lia | omega)) (by (first | lia | omega)) (rev_up hp hr2 q5)))
        exact ⟨rev_all hp 0 r.2.1, hm.2.2.1, by (first | lia | omega), by (first | lia | omega)⟩
      · have h0 : a = 0 := by (first | lia | omega)
        have h1' : b = 1 := by (first | lia | omega)
        subst h0 h1'
        exact hd

theorem place_ok {c : Nat → Nat → Bool} {n : Nat} (o : Ord c n) {p : Array Nat} (hp : All n p) {k : Nat} (hk : k < n) (hu : UpTo c p k) : ∀ (f l r : Nat), r - l ≤ f → l ≤ r → r ≤ k → (∀ a, a < l → c (p.getD a 0) (p.getD k 0) = true) → (∀ a, r ≤ a → a < k → c (p.getD k 0) (p.getD a 0) = true) →
    kasB c n (kas_place p k f l r) (fun l => l ≤ k ∧ (∀ a, a < l → c (p.getD a 0) (p.getD k 0) = true) ∧ (∀ a, l ≤ a → a < k → c (p.getD k 0) (p.getD a 0) = true))
  | 0, l, r, hf, hlr, hrk, h1, h2 => ⟨by (first | lia | omega), h1, fun a ha => h2 a (by (first | lia | omega))⟩
  | f + 1, l, r, hf, hlr, hrk, h1, h2 => by
    unfold kas_place
    by_cases hge : l ≥ r
    · rw [if_pos hge]
      exact ⟨by (first | lia | omega), h1, fun a ha => h2 a (by (first | lia | omega))⟩
    · rw [if_neg hge]
      refine ⟨hp.lt hk, hp.lt (by (first | lia | omega)), ?_⟩
      cases hc : c (p.getD k 0) (p.getD ((l + r) / 2) 0) with
      | true =>
        simp only [if_true]
        refine place_ok o hp hk hu f l ((l + r) / 2) (by (first | lia | omega)) (by (first | lia | omega)) (by (first | lia | omega)) h1 fun a ha hak => ?_
        by_cases he : a = (l + r) / 2
        · subst he; exact hc
        · exact o.tr _ _ _ (hp.lt hk) (hp.lt (by (first | lia | omega))) (hp.lt (by (first | lia | omega))) hc (hu _ a (by (first | lia | omega)) hak)
      | false =>
        simp only [Bool.false_eq_true, if_false]
        have hlt : c (p.getD ((l + r) / 2) 0) (p.getD k 0) = true := by
          rcases o.tot (p.getD k 0) (p.getD ((l + r) / 2) 0) (hp.lt hk) (hp.lt (by (first | lia | omega))) (hp.inj hk (by (first | lia | omega)) (by (first | lia | omega))) with q | q
          · rw [hc] at q; cases q
          · exact q
        refine place_ok o hp hk hu f ((l + r) / 2 + 1) r (ar_mid hf) (by (first | lia | omega)) hrk (fun a ha => ?_) h2
        by_cases he : a = (l + r) / 2
        · subst he; exact hlt
        · exact o.tr _ _ _ (hp.lt (by (first | lia | omega))) (hp.lt (by (first | lia | omega))) (hp.lt hk) (hu a _ (by (first | lia | omega)) (by (first | lia | omega))) hlt

theorem bub_get {n : Nat} {p : Array Nat} (hp : All n p) {k l : Nat} (hk : k < n) (hl : l ≤ k) (x : Nat) : (bubble p k (k - l)).getD x 0 = if x = l then p.getD k 0 else if l < x ∧ x ≤ k then p.getD (x - 1) 0 else p.getD x 0 := by
  have hs := hp.size
  have e := getElem?_bubble (xs := p) (src := k) (by (first | lia | omega)) (k - l) (by (first | lia | omega)) x
  have g : ∀ (q : Array Nat) (k : Nat), q.getD k 0 = (q[k]?).getD 0 := fun q k => by simp [Array.getD]; split <;> simp_all
  rw [g, g, g, g, e, show k - (k - l) = l by (first | lia | omega)]
  by_cases h1 : x = l
  · rw [if_pos h1, if_pos h1]
  · rw [if_neg h1, if_neg h1]
    by_cases h2 : l < x ∧ x ≤ k
    · rw [if_pos h2, if_pos h2]
    · rw [if_neg h2, if_neg h2]
theorem bub_all {n : Nat} {p : Array Nat} (hp : All n p) (k d : Nat) : All n (bubble p k d) := (Array.perm_iff_toList_perm.mp (bubble_perm p k d)).trans hp
theorem bin_ok {c : Nat → Nat → Bool} {n : Nat} (o : Ord c n) : ∀ (f : Nat) (p : Array Nat) (k : Nat), All n p → UpTo c p k → k + f = n → kasB c n (kas_bin f p k) (fun q => All n q ∧ UpTo c q n)
  | 0, p, k, hp, hu, hk => by
    have : k = n := by (first | lia | omega)
    subst this
    exact ⟨hp, hu⟩
  | f + 1, p, k, hp, hu, hk => by
    unfold kas_bin
    refine kasB_bind _ (kasB_mono (fun l hl => ?_) _ (place_ok o hp (k := k) (by (first | lia | omega)) hu k 0 k (by (first | lia | omega)) (by (first | lia | omega)) (Nat.le_refl _) (fun a ha => by (first | lia | omega)) (fun a h1 h2 => by (first | lia | omega))))
    obtain ⟨h1, h2, h3⟩ := hl
    refine bin_ok o f _ (k + 1) (bub_all hp k (k - l)) (fun a b hab hb => ?_) (by (first | lia | omega))
    rw [bub_get hp (by (first | lia | omega)) h1 a, bub_get hp (by (first | lia | omega)) h1 b]
    by_cases ha : a = l
    · rw [if_pos ha, if_neg (by (first | lia | omega)), if_pos (by (first | lia | omega))]
      exact h3 (b - 1) (by (first | lia | omega)) (by (first | lia | omega))
    · rw [if_neg ha]
      by_cases hb' : b = l
      · rw [if_neg (by (first | lia | omega)), if_pos hb']
        exact h2 a (by (first | lia | omega))
      · rw [if_neg hb']
        by_cases h4 : l < a ∧ a ≤ k
        · rw [if_pos h4, if_pos (by (first | lia | omega))]
          exact hu (a - 1) (b - 1) (by (first | lia | omega)) (by (first | lia | omega))
        · rw [if_neg h4]
          by_cases h5 : l < b ∧ b ≤ k
          · rw [if_pos h5]
            exact hu a (b - 1) (by (first | lia | omega)) (by (first | lia | omega))
          · rw [if_neg h5]
            exact hu a b hab (by (first | lia | omega))

/-- the machine's sort sorts -/
theorem sort_ok {c : Nat → Nat → Bool} {n : Nat} (o : Ord c n) (hn : 1 ≤ n) : kasB c n (kas_sort n) (fun q => All n q ∧ UpTo c q n) := by
  have h0 : All n (List.toArray (List.range n)) := List.Perm.refl _
  unfold kas_sort
  refine kasB_bind _ (kasB_mono (fun r hr => ?_) _ (count_ok o h0 hn))
  obtain ⟨h1, h2, h3, h4⟩ := hr
  by_cases h : r.1 < n
  · rw [if_pos h, show max r.1 1 = r.1 by (first | lia | omega)]
    exact bin_ok o _ _ _ h1 h2 (by (first | lia | omega))
  · rw [if_neg h]
    have : r.1 = n := by (first | lia | omega)
    rw [this] at h2
    exact ⟨h1, h2⟩
end Mine
/-! B13 -/
namespace Mine
section
variable {G : W0} {n : Nat} {A : Around} {env : Env} {ok : Addr → Prop} {ρ : List (String × D)} {s : Shared}

/-- list.sort, when nothing is touched by the questions -/
theorem wp_list_sort {a : Addr} {vs : List Value} {m : Nat} {κ : SortKind} {c : Nat → Nat → Bool} {P : PySem.Fin → Shared → Prop} {E : Value → Shared → Prop} (ho : s.heap.get? a = some (seqObj "list" vs.toArray m)) (h1 : 1 ≤ vs.length) (h64 : vs.length < 64) (o : Ord c vs.length)
    (hkind : ∀ s' : Shared, (∀ b o, b ≠ a → s.heap.get? b = some o → s'.heap.get? b = some o) → ∀ Q : SortKind → Shared → Prop, Q κ s' → wpAny G.M A (keyKind' vs.toArray) Q (fun _ _ => False) s')
    (hcmp : ∀ s' : Shared, (∀ b o, b ≠ a → s.heap.get? b = some o → s'.heap.get? b = some o) → ∀ i j C, i < vs.length → j < vs.length → C (c i j) s' → kas_ask prg G.w A κ vs i j C s')
    (h : ∀ (p : Array Nat) h' k, All vs.length p → UpTo c p vs.length → (∀ b o, b ≠ a → s.heap.get? b = some o → h'.get? b = some o) → h'.get? a = some (LO (p.toList.map fun i => vs.getD i Value.none) k) → P (.done (.ret .none)) { s with heap := h' }) :
    wpAny G.M A (Builtin.«list.sort» ⟨[.ref a], []⟩) P E s := by
  have ha : a < s.heap.objs.size := Heap.lt_size ho
  have s1 := Heap.SameBut.update s.heap a (Obj.mapSeq fun _ => (#[] : Array Value))
  obtain ⟨e1, ho1⟩ : ∃ e1, (s.heap.update a (Obj.mapSeq fun _ => (#[] : Array Value))).get? a = some (seqObj "list" #[] e1) := ⟨_, get?_update_seq ho fun _ => #[]⟩
  rw [list_sort_plain]
  refine wpAny_bind (listItems_at ho rfl ?_)
  refine wpAny_bind (listUpdate_at ho rfl ?_ (by rw [List.size_toArray, sizeLine_eq]; (first | lia | omega)) (Nat.zero_le _))
  refine wpAny_bind (seqEpoch_at ho1 rfl ?_)
  refine wpAny_bind (wpAny_newTuple ?_ (by show vs.length ≤ _; rw [sizeLine_eq]; (first | lia | omega)))
  refine wpAny_bind (wpAny_newList ?_ (Nat.zero_le _))
  refine wpAny_holding ?_
  show wpAny G.M A _ P E { s with heap := ((s.heap.update a (Obj.mapSeq fun _ => (#[] : Array Value))).push (seqObj "tuple" vs.toArray 0)).push (seqObj "list" #[] 0) }
  generalize hH : ((s.heap.update a (Obj.mapSeq fun _ => (#[] : Array Value))).push (seqObj "tuple" vs.toArray 0)).push (seqObj "list" #[] 0) = H; revert H; refine hold ?_; intro H hH
  have kH : ∀ b o, b ≠ a → s.heap.get? b = some o → H.get? b = some o := fun b o hb q => by
    rw [← hH]; exact Heap.get?_push_of_some _ (Heap.get?_push_of_some _ (by rw [s1.2 b hb]; exact q))
  have haH : H.get? a = some (seqObj "list" #[] e1) := by rw [← hH]; exact Heap.get?_push_of_some _ (Heap.get?_push_of_some _ ho1)
  dsimp only
  by_cases h2 : vs.length < 2
  · obtain ⟨v, rfl⟩ : ∃ v, vs = [v] := List.length_eq_one_iff.mp (by (first | lia | omega))
    have hn2 : ([v] : List Value).toArray.size < 2 := by simp
    rw [if_pos hn2, if_pos hn2]
    refine wpAny_bind (wpAny_pure ?_)
    refine wpAny_bind (wpAny_pure ?_)
    dsimp only
    have hout : Array.map (fun x : Value × Value => x.2) (arrOf (SortSt.mk' general' ((List.toArray [v]).zip (List.toArray [v])) #[] 7 none)) = List.toArray [v] := by first | rfl | simp [arrOf]
    rw [hout]
    have s2 := Heap.SameBut.update H a (Obj.mapSeq fun _ => List.toArray [v])
    obtain ⟨c2, hc2⟩ : ∃ c2, (H.update a (Obj.mapSeq fun _ => List.toArray [v])).get? a = some (seqObj "list" (List.toArray [v]) c2) := ⟨_, get?_update_seq haH fun _ => List.toArray [v]⟩
    refine wpAny_bind (seqEpoch_at haH rfl ?_)
    refine wpAny_bind (listUpdate_at haH rfl ?_ (Nat.zero_le _) (by show ([v] : List Value).length ≤ _; simp))
    show wpAny G.M A (if (e1 != e1) = true then _ else _) P E _
    simp only [bne_self_eq_false, Bool.false_eq_true, if_false]
    refine wpAny_pure (h #[0] _ c2 ?_ ?_ (fun b o hb q => by rw [s2.2 b hb]; exact kH b o hb q) hc2)
    · exact List.Perm.refl _
    · intro i j h h'
      have : j < 1 := h'
      (first | lia | omega)
  have hn2 : ¬ vs.toArray.size < 2 := by rw [List.size_toArray]; (first | lia | omega)
  rw [if_neg hn2, if_neg hn2]
  have hk0 := hkind { s with heap := H } kH (fun κ' s' => κ' = κ ∧ s' = { s with heap := H }) ⟨rfl, rfl⟩
  refine wpAny_bind (wpAny_mono hk0 (fun κ' s0 hk => ?_) fun _ _ x => x.elim)
  obtain ⟨rfl, rfl⟩ := hk
  have hk : (kas_sort vs.length).kasWp (kas_ask prg G.w A κ' vs) (fun p s' => s' = { s with heap := H } ∧ All vs.length p ∧ UpTo c p vs.length) { s with heap := H } :=
    kasB_wp (fun i j C hi hj hC => hcmp _ kH i j C hi hj hC) _ (kasB_mono (fun p hp => ⟨rfl, hp.1, hp.2⟩) _ (sort_ok o (by (first | lia | omega))))
  refine wpAny_bind (wpAny_mono (kat_run (prog := prg) (w := G.w) (A := A) (E := E) (Q := fun st' s' => ∃ p : Array Nat, p.size = vs.length ∧ arrOf st' = p.map (kas_item (vs.toArray.zip vs.toArray)) ∧ failedOf st' = none ∧ s' = { s with heap := H } ∧ All vs.length p ∧ UpTo c p vs.length)
    rfl (by (first | lia | omega)) h64 (fun p' st' s' a1 a2 a3 a4 => ⟨p', a1, a2, a3, a4⟩) hk) ?_ fun _ _ e => e)
  rintro ⟨⟨⟩, st'⟩ s' ⟨p, hp, har, hf, rfl, hall, hup⟩
  dsimp only
  have hout := kat_snds rfl har
  have hsz : (List.toArray (p.toList.map fun i => vs.getD i Value.none)).size = vs.length := by rw [List.size_toArray, List.length_map, Array.length_toList, hp]
  rw [hout]
  have s2 := Heap.SameBut.update H a (Obj.mapSeq fun _ => List.toArray (p.toList.map fun i => vs.getD i Value.none))
  obtain ⟨c2, hc2⟩ : ∃ c2, (H.update a (Obj.mapSeq fun _ => List.toArray (p.toList.map fun i => vs.getD i Value.none))).get? a = some (seqObj "list" (List.toArray (p.toList.map fun i => vs.getD i Value.none)) c2) := ⟨_, get?_update_seq haH fun _ => List.toArray (p.toList.map fun i => vs.getD i Value.none)⟩
  refine wpAny_bind (seqEpoch_at haH rfl ?_)
  refine wpAny_bind (listUpdate_at haH rfl ?_ (Nat.zero_le _) (Nat.le_trans (Nat.le_of_eq hsz) (by rw [sizeLine_eq]; (first | lia | omega))))
  rw [hf]
  simp only [bne_self_eq_false, Bool.false_eq_true, if_false]
  exact wpAny_pure (h p _ c2 hall hup (fun b o hb q => by rw [s2.2 b hb]; exact kH b o hb q) hc2)
end
end Mine
/-! B14 -/
namespace Mine
section
variable {G : W0} {n : Nat} {A : Around} {env : Env} {ok : Addr → Prop} {ρ : List (String × D)} {s : Shared}

/-- sorted, when nothing is touched by the questions -/
theorem wp_sorted {l : Addr} {vs : List Value} {κ : SortKind} {c : Nat → Nat → Bool} {Q : Value → Shared → Prop} {E : Value → Shared → Prop} (hl : s.heap.IsList l vs.toArray) (h2 : 1 ≤ vs.length) (h64 : vs.length < 64) (o : Ord c vs.length)
    (hkind : ∀ s' : Shared, (∀ b o, s.heap.get? b = some o → s'.heap.get? b = some o) → ∀ Q : SortKind → Shared → Prop, Q κ s' → wpAny G.M A.in1.in1 (keyKind' vs.toArray) Q (fun _ _ => False) s')
    (hcmp : ∀ s' : Shared, (∀ b o, s.heap.get? b = some o → s'.heap.get? b = some o) → ∀ i j C, i < vs.length → j < vs.length → C (c i j) s' → kas_ask prg G.w A.in1.in1 κ vs i j C s')
    (h : ∀ (p : Array Nat) h' k r, All vs.length p → UpTo c p vs.length → (∀ b o, s.heap.get? b = some o → h'.get? b = some o) → s.heap.get? r = none → h'.get? r = some (LO (p.toList.map fun i => vs.getD i Value.none) k) → Q (.ref r) { s with heap := h' }) :
    wpAny G.M A (call (.builtin "sorted") [.ref l]) Q E s := by
  refine Calls.call_function_entry kind_sorted plain_sorted entry_sorted (args_sorted1 _) ?_
  unfold Builtin.«sorted»
  refine wpAny_bind (m := checkCount "sorted" 1 1 _) (wpAny_pure ?_)
  refine wpAny_bind (collect_list hl ?_ (by rw [sizeLine_eq]; (first | lia | omega)))
  refine wpAny_bind (wpAny_newList ?_ (by rw [sizeLine_eq]; (first | lia | omega)))
  have hsz : ((s.heap.push (seqObj "list" #[] 0)).update s.heap.objs.size (Obj.mapSeq (· ++ vs.toArray))).objs.size = s.heap.objs.size + 1 := by
    rw [Heap.size_update, size_push']
  have hoL : (((s.heap.push (seqObj "list" #[] 0)).update s.heap.objs.size (Obj.mapSeq (· ++ vs.toArray))).push (seqObj "list" vs.toArray 0)).get? (s.heap.objs.size + 1) = some (seqObj "list" vs.toArray 0) := by
    rw [← hsz]; exact Heap.get?_push_size _ rfl
  have keep : ∀ b o, s.heap.get? b = some o → (((s.heap.push (seqObj "list" #[] 0)).update s.heap.objs.size (Obj.mapSeq (· ++ vs.toArray))).push (seqObj "list" vs.toArray 0)).get? b = some o := fun b o q => by
    have hlt : b < s.heap.objs.size := Heap.lt_size q
    rw [Heap.get?_push_ne _ _ _ (by rw [hsz]; exact Nat.ne_of_lt (Nat.lt_succ_of_lt hlt)), Heap.get?_update_ne _ _ _ _ (Nat.ne_of_lt hlt), Heap.get?_push_ne _ _ _ (Nat.ne_of_lt hlt)]
    exact q
  have hne : ∀ b o, s.heap.get? b = some o → b ≠ s.heap.objs.size + 1 := fun b o q => Nat.ne_of_lt (Nat.lt_succ_of_lt (Heap.lt_size q))
  show wpAny _ _ _ _ _ { s with heap := ((s.heap.push (seqObj "list" #[] 0)).update s.heap.objs.size (Obj.mapSeq (· ++ vs.toArray))).push (seqObj "list" vs.toArray 0) }
  rw [hsz]
  refine wpAny_bind (wpAny_holding (wpAny_call_entry slot_list_sort ⟨_, hoL, rfl⟩ entry_list_sort ?body (args_list_sort _)))
  case body =>
    refine wp_list_sort (G := G) (s := { s with heap := ((s.heap.push (seqObj "list" #[] 0)).update s.heap.objs.size (Obj.mapSeq (· ++ vs.toArray))).push (seqObj "list" vs.toArray 0) })
      hoL h2 h64 o (fun s' q => hkind s' fun b o hb => q b o (hne b o hb) (keep b o hb)) (fun s' q => hcmp s' fun b o hb => q b o (hne b o hb) (keep b o hb)) fun p h' k hp hu q hg => ?_
    exact ⟨_, rfl, wpAny_pure ⟨_, rfl, h p h' k _ hp hu (fun b o hb => q b o (hne b o hb) (keep b o hb)) (Heap.get?_none_of_le (Nat.le_succ _)) hg⟩⟩
end
end Mine
/-! B15 -/
namespace Mine
section
variable {G : W0} {n : Nat} {A : Around} {env : Env} {ok : Addr → Prop} {ρ : List (String × D)} {s : Shared}

/-- a pair: a list of atoms and a number -/
noncomputable def RowAt (hp : Heap) (v : Value) (ds : List D) (i : Int) : Prop :=
  ∃ x l vs n k t, v = .ref x ∧ hp.get? x = some (TO [.ref l, .int i t] n) ∧ hp.get? l = some (LO vs k) ∧ RelAll (fun _ => True) hp ds vs

/-- which of two rows comes first -/
noncomputable def rlt (a b : List D × Int) : Bool := if leq a.1 b.1 then (if a.2 = b.2 then false else decide (a.2 < b.2)) else llt a.1 b.1

theorem lt_lists {b : Bool} {l m : Addr} {us ws : List Value} {k1 k2 : Nat} {x y : List D} {Q : Value → Shared → Prop} {E : Value → Shared → Prop} (g1 : s.heap.get? l = some (LO us k1)) (g2 : s.heap.get? m = some (LO ws k2))
    (r1 : RelAll (fun _ => True) s.heap x us) (r2 : RelAll (fun _ => True) s.heap y ws) (hx : ∀ d ∈ x, Atom b d) (hy : ∀ d ∈ y, Atom b d) (hl : x.length = y.length) (h : Q (.bool (llt x y)) s) :
    wpAny G.M A (call (.builtin "list.__lt__") [.ref l, .ref m]) Q E s := by
  have l1 := r1.length
  have l2 := r2.length
  refine wpAny_call (codeAny_call_builtin F.slot_list_lt.plain F.entry_list_lt (F.slot_list_lt.check _ _ _ _ _ _ _ _ ⟨_, g1, rfl⟩ (F.args_list_lt_2 _ _)
    (list_ltAt l m us.toArray ws.toArray k1 k2 none none #[] #[] (fun j => deq (x.getD j .none) (y.getD j .none)) (fun j => dlt (x.getD j .none) (y.getD j .none)) (by simp; (first | lia | omega)) _ _ _ (fun r s' => match r with | .ok (.ret v) => Q v s' | .ok _ => False | .error e => E e s') s
      ⟨g1, g2, fun j h1 h2 => ?_, fun j h1 h2 prog w Q E hQ => ?_, ?_⟩)))
  · obtain ⟨d, e1, q1⟩ := r1.at (show j < us.length by simpa using h1)
    obtain ⟨d', e2, q2⟩ := r2.at (show j < ws.length by simpa using h2)
    have g1 : x.getD j .none = d := by rw [List.getD_eq_getElem?_getD, e1]; rfl
    have g2 : y.getD j .none = d' := by rw [List.getD_eq_getElem?_getD, e2]; rfl
    rw [g1, g2]
    simpa using eq_atom (hx d (List.mem_of_getElem? e1)) (hy d' (List.mem_of_getElem? e2)) q1 q2
  · obtain ⟨d, e1, q1⟩ := r1.at (show j < us.length by simpa using h1)
    obtain ⟨d', e2, q2⟩ := r2.at (show j < ws.length by simpa using h2)
    have g1 : x.getD j .none = d := by rw [List.getD_eq_getElem?_getD, e1]; rfl
    have g2 : y.getD j .none = d' := by rw [List.getD_eq_getElem?_getD, e2]; rfl
    rw [g1, g2] at hQ
    simpa using lt_atom (hx d (List.mem_of_getElem? e1)) (hy d' (List.mem_of_getElem? e2)) q1 q2 hQ
  · rw [llt_fold hl] at h
    simpa [l1] using h

theorem leq_same {b : Bool} {hp : Heap} : ∀ {x y : List D} {vs : List Value}, RelAll (fun _ => True) hp x vs → RelAll (fun _ => True) hp y vs → (∀ d ∈ x, Atom b d) → (∀ d ∈ y, Atom b d) → leq x y = true
  | [], y, vs, r1, r2, _, _ => by
    obtain rfl := r1
    cases y with
    | nil => rfl
    | cons d y => simp only [RelAll] at r2; obtain ⟨_, _, q, _⟩ := r2; cases q
  | d :: x, y, vs, r1, r2, hx, hy => by
    obtain ⟨v, r, rfl, q1, r1⟩ := r1
    cases y with
    | nil => simp only [RelAll] at r2; cases r2
    | cons d' y =>
      obtain ⟨v', r', q, q2, r2⟩ := r2
      injection q with q q'
      subst q; subst q'
      have h1 := leq_same r1 r2 (fun d h => hx d (.tail _ h)) (fun d h => hy d (.tail _ h))
      have hd : deq d d' = true := by
        have a1 := hx d (.head _)
        have a2 := hy d' (.head _)
        cases b <;> cases d <;> first | exact a1.elim | skip
        all_goals cases d' <;> first | exact a2.elim | skip
        · simp only [Rel] at q1 q2
          obtain ⟨t, rfl⟩ := q1
          obtain ⟨t', q⟩ := q2
          injection q with q
          simp [deq, q]
        · simp only [Rel] at q1 q2
          obtain ⟨t, rfl⟩ := q1
          obtain ⟨t', q⟩ := q2
          injection q with q
          simp [deq, q]
      simp [leq, hd, h1]

theorem ask_row {b : Bool} {vs : List Value} {i j : Nat} {x y : List D × Int} {C : Bool → Shared → Prop} (hu : A.units < cLine) (hi : RowAt s.heap (vs.getD i .none) x.1 x.2) (hj : RowAt s.heap (vs.getD j .none) y.1 y.2)
    (hx : ∀ d ∈ x.1, Atom b d) (hy : ∀ d ∈ y.1, Atom b d) (hl : x.1.length = y.1.length) (h : C (rlt x y) s) : kas_ask prg G.w A (tuples' true) vs i j C s := by
  obtain ⟨p, l, us, n1, k1, t1, e1, g1, gl1, r1⟩ := hi
  obtain ⟨q, m, ws, n2, k2, t2, e2, g2, gl2, r2⟩ := hj
  unfold kas_ask
  rw [e1, e2]
  have l1 := r1.length
  have l2 := r2.length
  have heq : ∀ (B : Around) j (h1 : j < us.toArray.size) (h2 : j < ws.toArray.size), SeqAt.EqAt B s us.toArray[j] ws.toArray[j] (deq (x.1.getD j .none) (y.1.getD j .none)) := fun B j h1 h2 => by
    obtain ⟨d, e1, q1⟩ := r1.at (show j < us.length by simpa using h1)
    obtain ⟨d', e2, q2⟩ := r2.at (show j < ws.length by simpa using h2)
    have g1 : x.1.getD j .none = d := by rw [List.getD_eq_getElem?_getD, e1]; rfl
    have g2 : y.1.getD j .none = d' := by rw [List.getD_eq_getElem?_getD, e2]; rfl
    rw [g1, g2]
    simpa using eq_atom (hx d (List.mem_of_getElem? e1)) (hy d' (List.mem_of_getElem? e2)) q1 q2
  have hsz : us.toArray.size = ws.toArray.size := by simp; (first | lia | omega)
  have hrc : SeqAt.RcAt A s (.ref l) (.ref m) (leq x.1 y.1) := by
    rw [leq_all hl]
    have := SeqAt.RcAt.lists (A := A) (LO.isList gl1) (LO.isList gl2) hsz hu fun j h1 h2 => heq A.in1 j h1 h2
    simpa [l1] using this
  refine kat_lt g1 rfl g2 rfl ?_
  refine kat_cons ?_
  have tie : leq x.1 y.1 = true → KatLex prg G.w A true (decide (([Value.ref l, Value.int x.2 t1].toArray).size < ([Value.ref m, Value.int y.2 t2].toArray).size)) C [(Value.int x.2 t1, Value.int y.2 t2)] 1 s := fun hq => by
    refine kat_cons ?_
    refine SeqAt.EqAt.int_int _ _ _ _ _ _ _ _ ?_
    rw [rlt, hq, if_pos rfl] at h
    by_cases hv : x.2 = y.2
    · rw [hv, if_pos rfl] at h
      simp only [hv, beq_self_eq_true]
      refine kat_yes (kat_nil ?_)
      simpa using h
    · rw [if_neg hv] at h
      have : (x.2 == y.2) = false := by simpa using hv
      rw [this]
      exact kat_no (kat_one _ _ (wpAny_lt_int h))
  by_cases hlm : l = m
  · subst hlm
    rw [gl1] at gl2
    have hw : us = ws := by injection gl2 with q; injection q with _ _ q; injection q with q; exact congrArg Array.toList q
    subst hw
    exact SeqAt.EqAt.same _ _ _ _ _ (kat_yes (tie (leq_same r1 r2 hx hy)))
  · refine SeqAt.EqAt.of_refs hlm hrc _ _ _ _ ?_
    cases hq : leq x.1 y.1 with
    | true => exact kat_yes (tie hq)
    | false =>
      rw [rlt, hq, if_neg (by simp)] at h
      refine kat_no ?_
      show wpAny _ _ (oneLt' true _ _) _ _ _
      rw [oneLt'_eq]
      simp only [if_true]
      refine wpAny_bind (wpAny_cRoomFor hu ?_)
      refine wpAny_bind (wpAny_callSpecialIfBound?_slot ⟨_, gl1, rfl⟩ F.slot_list_lt (lt_lists gl1 gl2 r1 r2 hx hy hl ?_))
      exact wpAny_truthy_bool h
end
end Mine
/-! S2 -/
namespace Mine

noncomputable def zlt : List Int → List Int → Bool
  | [], [] => false
  | [], _ :: _ => true
  | _ :: _, [] => false
  | a :: r, b :: r' => if a = b then zlt r r' else decide (a < b)
theorem zlt_irr : ∀ a, zlt a a = false
  | [] => rfl
  | a :: r => by simp [zlt, zlt_irr r]
theorem zlt_tr : ∀ {a b c}, zlt a b = true → zlt b c = true → zlt a c = true
  | [], [], _, h, _ => by simp [zlt] at h
  | [], _ :: _, [], _, h => by simp [zlt] at h
  | [], _ :: _, _ :: _, _, _ => rfl
  | _ :: _, [], _, h, _ => by simp [zlt] at h
  | _ :: _, _ :: _, [], _, h => by simp [zlt] at h
  | a :: r, b :: r', c :: r'', h1, h2 => by
    simp only [zlt] at h1 h2 ⊢
    by_cases e1 : a = b
    · subst e1
      rw [if_pos rfl] at h1
      by_cases e2 : a = c
      · subst e2
        rw [if_pos rfl] at h2 ⊢
        exact zlt_tr h1 h2
      · rw [if_neg e2] at h2 ⊢
        exact h2
    · rw [if_neg e1] at h1
      by_cases e2 : b = c
      · subst e2
        rw [if_neg e1]; exact h1
      · rw [if_neg e2] at h2
        have h1 := of_decide_eq_true h1
        have h2 := of_decide_eq_true h2
        rw [if_neg (by omega)]
        exact decide_eq_true (by omega)
theorem zlt_tot : ∀ {a b}, a ≠ b → zlt a b = true ∨ zlt b a = true
  | [], [], h => absurd rfl h
  | [], _ :: _, _ => .inl rfl
  | _ :: _, [], _ => .inr rfl
  | a :: r, b :: r', h => by
    simp only [zlt]
    by_cases e1 : a = b
    · subst e1
      rw [if_pos rfl, if_pos rfl]
      exact zlt_tot fun q => h (by rw [q])
    · rw [if_neg e1, if_neg (fun q => e1 q.symm)]
      rcases Int.lt_or_gt_of_ne e1 with q | q
      · exact .inl (decide_eq_true q)
      · exact .inr (decide_eq_true q)
noncomputable def rowLt (a b : List Int × Int) : Bool := if a.1 = b.1 then decide (a.2 < b.2) else zlt a.1 b.1
theorem rowLt_irr (a) : rowLt a a = false := by simp [rowLt]
theorem rowLt_tr {a b c} (h1 : rowLt a b = true) (h2 : rowLt b c = true) : rowLt a c = true := by
  unfold rowLt at *
  by_cases e1 : a.1 = b.1
  · rw [if_pos e1] at h1
    rw [e1]
    by_cases e2 : b.1 = c.1
    · rw [if_pos e2] at h2 ⊢
      have h1 := of_decide_eq_true h1
      have h2 := of_decide_eq_true h2
      exact decide_eq_true (by omega)
    · rw [if_neg e2] at h2 ⊢; exact h2
  · rw [if_neg e1] at h1
    by_cases e2 : b.1 = c.1
    · rw [← e2, if_neg e1]; exact h1
    · rw [if_neg e2] at h2
      have h := zlt_tr h1 h2
      by_cases e3 : a.1 = c.1
      · rw [e3, zlt_irr] at h; cases h
      · rw [if_neg e3]; exact h
theorem rowLt_tot {a b} (h : a.2 ≠ b.2) : rowLt a b = true ∨ rowLt b a = true := by
  unfold rowLt
  by_cases e1 : a.1 = b.1
  · rw [if_pos e1, if_pos e1.symm]
    rcases Int.lt_or_gt_of_ne h with q | q
    · exact .inl (decide_eq_true q)
    · exact .inr (decide_eq_true q)
  · rw [if_neg e1, if_neg (fun q => e1 q.symm)]
    exact zlt_tot e1

theorem leq_zs : ∀ a b : List Int, leq (zs a) (zs b) = decide (a = b)
  | [], [] => rfl
  | [], _ :: _ => rfl
  | _ :: _, [] => rfl
  | a :: r, b :: r' => by
    have ih := leq_zs r r'
    simp only [zs] at ih
    simp only [zs, List.map_cons, leq, deq, ih]
    by_cases e : a = b <;> by_cases e2 : r = r' <;> simp [e, e2]
theorem llt_zs : ∀ a b : List Int, llt (zs a) (zs b) = zlt a b
  | [], [] => rfl
  | [], _ :: _ => rfl
  | _ :: _, [] => rfl
  | a :: r, b :: r' => by
    have ih := llt_zs r r'
    simp only [zs] at ih
    by_cases e : a = b
    · simp [zs, llt, deq, zlt, e, ih]
    · simp [zs, llt, deq, zlt, dlt, e]
theorem rlt_zs (a b : List Int × Int) : rlt (zs a.1, a.2) (zs b.1, b.2) = rowLt a b := by
  simp only [rlt, rowLt, leq_zs, llt_zs]
  by_cases e : a.1 = b.1
  · by_cases e2 : a.2 = b.2 <;> simp [e, e2]
  · simp [e]
/-- sorted rows are sorted in one way -/
theorem sorted_one : ∀ {a b : List (List Int × Int)}, a.Perm b → a.Pairwise (fun x y => rowLt x y = true) → b.Pairwise (fun x y => rowLt x y = true) → a = b
  | [], b, p, _, _ => (List.Perm.eq_nil p.symm).symm
  | x :: a, [], p, _, _ => (List.Perm.eq_nil p)
  | x :: a, y :: b, p, h1, h2 => by
    have e : x = y := by
      by_cases q : x = y
      · exact q
      · have m1 : x ∈ b := by
          have := p.mem_iff.mp (List.mem_cons_self (a := x) (l := a))
          rcases List.mem_cons.mp this with r | r
          · exact absurd r q
          · exact r
        have m2 : y ∈ a := by
          have := p.mem_iff.mpr (List.mem_cons_self (a := y) (l := b))
          rcases List.mem_cons.mp this with r | r
          · exact absurd r.symm q
          · exact r
        have q1 := (List.pairwise_cons.mp h1).1 y m2
        have q2 := (List.pairwise_cons.mp h2).1 x m1
        have := rowLt_tr q1 q2
        rw [rowLt_irr] at this; cases this
    subst e
    rw [sorted_one (List.Perm.cons_inv p) (List.pairwise_cons.mp h1).2 (List.pairwise_cons.mp h2).2]
theorem rows_ord {rows : List (List Int × Int)} (hd : rows.Pairwise fun x y => x.2 ≠ y.2) : Ord (fun i j => rowLt (rows.getD i ([], 0)) (rows.getD j ([], 0))) rows.length where
  irr i hi := rowLt_irr _
  tr i j k hi hj hk h1 h2 := rowLt_tr h1 h2
  tot i j hi hj hij := by
    apply rowLt_tot
    have hp := List.pairwise_iff_getElem.mp hd
    have e1 : rows.getD i ([], 0) = rows[i] := by simp [List.getD_eq_getElem?_getD, hi]
    have e2 : rows.getD j ([], 0) = rows[j] := by simp [List.getD_eq_getElem?_getD, hj]
    rw [e1, e2]
    rcases Nat.lt_or_gt_of_ne hij with q | q
    · exact hp i j hi hj q
    · exact fun r => hp j i hj hi q r.symm
theorem out_of {rows out : List (List Int × Int)} {p : Array Nat} (hp : All rows.length p) (hu : UpTo (fun i j => rowLt (rows.getD i ([], 0)) (rows.getD j ([], 0))) p rows.length) (h1 : out.Perm rows) (h2 : out.Pairwise fun x y => rowLt x y = true) : p.toList.map (fun i => rows.getD i ([], 0)) = out := by
  refine sorted_one ?_ ?_ h2
  · have h := (hp.map fun i => rows.getD i ([], 0)).trans (l₃ := rows) (by
      refine List.Perm.of_eq (List.ext_getElem (by simp) fun i h1 h2 => ?_)
      simp [List.getD_eq_getElem?_getD, h2])
    exact h.trans h1.symm
  · have hs := hp.size
    refine List.pairwise_iff_getElem.mpr fun i j h1 h2 hij => ?_
    have h1' : i < p.size := by simpa using h1
    have h2' : j < p.size := by simpa using h2
    have := hu i j hij (by (first | lia | omega))
    simpa [Array.getD, h1', h2'] using this
end Mine
/-! B16 -/
namespace Mine
section
variable {G : W0} {n : Nat} {A : Around} {env : Env} {ok : Addr → Prop} {ρ : List (String × D)} {s : Shared}

noncomputable def rowD (r : List Int × Int) : D := .tup [.list (zs r.1), .int r.2]
theorem RowAt.of {h : Heap} {v : Value} {r : List Int × Int} (q : Rel ok h (rowD r) v) : RowAt h v (zs r.1) r.2 := by
  simp only [rowD, Rel, RelAll] at q
  obtain ⟨x, us, k, rfl, _, hg, _, _, rfl, ⟨l, vs, k', rfl, _, hl, rr⟩, _, _, rfl, ⟨t, rfl⟩, rfl⟩ := q
  exact ⟨x, l, vs, k, k', t, rfl, hg, hl, rr.weak fun _ _ => trivial⟩
theorem RowAt.keep {h h' : Heap} {v : Value} {ds : List D} {i : Int} (q : RowAt h v ds i) (k : ∀ b o, h.get? b = some o → h'.get? b = some o) : RowAt h' v ds i := by
  obtain ⟨x, l, vs, n, k', t, e, g1, g2, r⟩ := q
  exact ⟨x, l, vs, n, k', t, e, k _ _ g1, k _ _ g2, RelAll.mono (fun a o _ e _ => ⟨trivial, k a o e⟩) _ _ r⟩

theorem rows_tups {h : Heap} : ∀ {vs : List Value} {rows : List (List Int × Int)}, RelAll ok h (rows.map rowD) vs → ∃ fs, KatTups h vs fs ∧ fs.length = rows.length ∧ ∀ v ∈ fs, ∃ l us k, v = .ref l ∧ h.get? l = some (LO us k)
  | vs, [], r => by simp only [List.map_nil, RelAll] at r; subst r; exact ⟨[], .nil, rfl, fun _ h => by cases h⟩
  | vs, r :: rows, q => by
    simp only [List.map_cons, RelAll] at q
    obtain ⟨v, vs', rfl, q, q'⟩ := q
    obtain ⟨fs, h1, h2, h3⟩ := rows_tups q'
    simp only [rowD, Rel, RelAll] at q
    obtain ⟨x, us, k, rfl, _, hg, _, _, rfl, ⟨l, ws, k', rfl, _, hl, rr⟩, _, _, rfl, ⟨t, rfl⟩, rfl⟩ := q
    refine ⟨.ref l :: fs, .cons hg rfl rfl rfl h1, by simp [h2], fun v hv => ?_⟩
    rcases List.mem_cons.mp hv with rfl | hv
    · exact ⟨l, ws, k', rfl, hl⟩
    · exact h3 v hv
theorem KatTups.keep {h h' : Heap} (k : ∀ b o, h.get? b = some o → h'.get? b = some o) : ∀ {vs fs : List Value}, KatTups h vs fs → KatTups h' vs fs
  | [], [], _ => trivial
  | [], _ :: _, t => t.elim
  | _ :: _, [], t => t.elim
  | v :: vs, f :: fs, t => by
    obtain ⟨⟨a, o, xs, n, e, ho, hc, hd, hf⟩, r⟩ := t
    exact ⟨⟨a, o, xs, n, e, k _ _ ho, hc, hd, hf⟩, KatTups.keep k r⟩

theorem ev_sorted {func : Str} {fpos pos : Pos} {e : Expr} {rows out : List (List Int × Int)} {m : Nat} (hf : Blt G n A env ok ρ func fpos (.builtin "sorted")) (h : Ev G n A env ok ρ e (.list (rows.map rowD)))
    (h2 : 1 ≤ rows.length) (h64 : rows.length < 64) (hm : ∀ r ∈ rows, r.1.length = m) (hd : rows.Pairwise fun x y => x.2 ≠ y.2) (p1 : out.Perm rows) (p2 : out.Pairwise fun x y => rowLt x y = true)
    (he : ∀ rest : List Expr, starEach (e :: rest) env = (false, eval e env) :: starEach rest env := by intro _; rfl) (hp : (starEach [e] env).any (·.1) = false := by rfl) : Ev G n A env ok ρ (.Call (.Name func fpos) [e] [] pos) (.list (out.map rowD)) :=
  ev_callB hf (evs_one h he) (fun s vs c f r => by
    obtain ⟨_, _, rfl, ⟨a, ws, k, rfl, _, hg, rr⟩, rfl⟩ := r
    have hlen := rr.length
    rw [List.length_map] at hlen
    have hu := c.un
    have hcl : cLine = 9900 := rfl
    have hrow : ∀ i, i < ws.length → RowAt s.heap (ws.getD i .none) (zs (rows.getD i ([], 0)).1) (rows.getD i ([], 0)).2 ∧ Rel ok s.heap (rowD (rows.getD i ([], 0))) (ws.getD i .none) := fun i hi => by
      obtain ⟨d, e1, q1⟩ := rr.at hi
      rw [List.getElem?_map] at e1
      obtain ⟨x, ex, rfl⟩ := Option.map_eq_some_iff.mp e1
      have g1 : rows.getD i ([], 0) = x := by rw [List.getD_eq_getElem?_getD, ex]; rfl
      have g2 : ws.getD i .none = ws[i] := by simp [List.getD_eq_getElem?_getD, hi]
      rw [g1, g2]
      exact ⟨RowAt.of q1, q1⟩
    have hat : ∀ l : List Int, ∀ d ∈ zs l, Atom true d := fun l d hd => by
      obtain ⟨x, _, rfl⟩ := List.mem_map.mp hd; exact trivial
    have hml : ∀ i, i < ws.length → (zs (rows.getD i ([], 0)).1).length = m := fun i hi => by
      have hi' : i < rows.length := by (first | lia | omega)
      have g1 : rows.getD i ([], 0) = rows[i] := by simp [List.getD_eq_getElem?_getD, hi']
      rw [g1]
      simpa [zs] using hm _ (List.getElem_mem hi')
    have ord := rows_ord hd
    rw [← hlen] at ord
    obtain ⟨fs, t1, t2, t3⟩ := rows_tups rr
    refine wp_sorted (LO.isList hg) (by (first | lia | omega)) (by (first | lia | omega)) (κ := tuples' true) ord (fun s' q Q hQ => ?_) (fun s' q i j C hi hj hC => ?_) fun p h' k' r hp hu' q hr hg' => ?_
    · refine kat_kind (T := .type "list") (KatTups.keep q t1) (by (first | lia | omega)) (fun v hv => ?_) (by decide) (by rw [show (Value.type "list" != Value.type "tuple") = true from by decide]; exact hQ)
      obtain ⟨l, us, k, rfl, hl⟩ := t3 v hv
      exact (Looks.ld (q _ _ hl)).andThen .now
    · refine ask_row (b := true) (x := (zs (rows.getD i ([], 0)).1, (rows.getD i ([], 0)).2)) (y := (zs (rows.getD j ([], 0)).1, (rows.getD j ([], 0)).2)) ?_ ((hrow i hi).1.keep q) ((hrow j hj).1.keep q) (hat _) (hat _) (by rw [hml i hi, hml j hj]) ?_
      · show A.units + 1 + 1 < _
        (first | lia | omega)
      · rw [rlt_zs]; exact hC
    · have a1 := c.keeps (h' := h') (tk := s.toks) q
      refine ⟨a1, ?_⟩
      rw [hlen] at hp hu'
      have ho := out_of hp hu' p1 p2
      refine ⟨r, _, k', rfl, f _ hr, hg', ?_⟩
      rw [← ho]
      have key : ∀ l : List Nat, (∀ i ∈ l, i < ws.length) → RelAll ok h' ((l.map fun i => rows.getD i ([], 0)).map rowD) (l.map fun i => ws.getD i Value.none) := by
        intro l
        induction l with
        | nil => intro _; exact RelAll.nil'
        | cons i l ih =>
          intro hl
          refine ⟨_, _, rfl, ?_, ih fun i hi => hl i (.tail _ hi)⟩
          exact (hrow i (hl i (.head _))).2.kept c.tab a1.1.kept
      exact key _ fun i hi => by
        have := hp.mem_iff.mp hi
        have := List.mem_range.mp this
        (first | lia | omega)) ⟨_, _, rfl, he⟩ hp
end
end Mine
/-! B17 -/
namespace Mine
section
variable {G : W0} {n : Nat} {A : Around} {env : Env} {ok : Addr → Prop} {ρ : List (String × D)} {s s₀ sT : Shared} {rest : List Stmt} {Q : Flow → Shared → Prop} {E : Value → Shared → Prop}

/-- a place set in an own list, beside another own list -/
theorem st_setitem2 {b : Addr} {eb : List D} {ok' : Addr → Prop} {ρ' : List (String × D)} {x : String} {px ppos pos : Pos} {e i : Expr} {a : Addr} {ds : List D} {d : D} {k : Int} (F : Fst G n A env ok ρ s₀ sT s) (hm : (x, .val (.ref a)) ∈ ρ) (O : Own G ok s₀ s a ds) (Ob : Own G ok s₀ s b eb) (hab : b ≠ a)
    (hS : ∀ s', Fst G n A env ok ρ s₀ sT s' → Own G ok s₀ s' a ds → Own G ok s₀ s' b eb → Sat G ok' env ρ' s')
    (hv : Ev G n A env ok' ρ' e d) (hfl : Flat d) (hi : Ev G n A env ok' ρ' i (.int k)) (h0 : 0 ≤ k) (hk : k < ds.length) (hz : ds.length < 2 ^ 60)
    (h : ∀ s', Fst G n A env ok ρ s₀ sT s' → Own G ok s₀ s' a (ds.set k.toNat d) → Own G ok s₀ s' b eb → wpAny G.M A (execs rest env) Q E s')
    (hs : swapsWith e (some (.Subscript (.Name (Str.ofString x) px) i ppos)) pos.line env = pure false := by rfl) (h1 : (Str.ofString x == ("__debug__" : Str)) = false := by decide) (h2 : (Str.ofString x == ("__classdict__" : Str)) = false := by decide) :
    wpAny G.M A (execs (.Assign [.Subscript (.Name (Str.ofString x) px) i ppos] e pos :: rest) env) Q E s := by
  refine st_of (wpAny_Assign_Subscript (Ev.to (hv s F.cx (hS s F O Ob)) fun v s₁ h00 => ?_) hs)
  obtain ⟨a1, r1⟩ := h00
  have F1 := F.aft a1
  have O1 := O.aft F.cx a1
  obtain ⟨u, V, R⟩ := F1.sat.vars _ hm
  obtain rfl := R
  refine wpAny_Name (load_var F1.sat.eo.kind V h2 (Ev.to (hi s₁ F1.cx (hS s₁ F1 O1 (Ob.aft F.cx a1))) fun w s₂ h00 => ?_)) h1
  obtain ⟨a2, r2⟩ := h00
  obtain ⟨t, rfl⟩ := r2
  have F2 := F1.aft a2
  have O2 := O1.aft F1.cx a2
  obtain ⟨vs, j, hg, rr⟩ := O2.cont
  have hlen := rr.length
  refine wp_setItem hg h0 (by (first | lia | omega)) (by (first | lia | omega)) fun h' k' hg' hs' => ?_
  have rset : ∀ (ds : List D) (vs : List Value) (m : Nat), RelAll ok s₂.heap ds vs → RelAll ok s₂.heap (ds.set m d) (vs.set m v) := by
    intro ds
    induction ds with
    | nil => intro vs m r; simp only [RelAll] at r; subst r; simp [RelAll]
    | cons d' ds ih =>
      intro vs m r
      obtain ⟨v', vs', rfl, q1, q2⟩ := r
      cases m with
      | zero => exact RelAll.cons' (r1.flat hfl) q2
      | succ m => exact RelAll.cons' q1 (ih vs' m q2)
  obtain ⟨F3, O3⟩ := own_set (tk := s₂.toks) F2 O2 hs' hg' (rset _ _ _ rr)
  exact h _ F3 O3 (((Ob.aft F.cx a1).aft F1.cx a2).other O.nok hab hs')


/-- two own lists given back as a pair -/
theorem st_rettup2 {x y : String} {px py tp pos : Pos} {k : Nat} {a b : Addr} {ds es : List D} (F : Fst G n A env ok ρ s₀ sT s) (O : Own G ok s₀ s a ds) (Ob : Own G ok s₀ s b es) (hm : (x, .val (.ref a)) ∈ ρ) (hm' : (y, .val (.ref b)) ∈ ρ) (hfl : ∀ d ∈ ds, Flat d) (hfl' : ∀ d ∈ es, Flat d)
    (h : ∀ s' v, Fst G n A env ok ρ s₀ sT s' → Rel (fun b => s₀.heap.get? b = none) s'.heap (.tup [.list ds, .list es]) v → Q (.ret v) s')
    (hx1 : (Str.ofString x == ("__debug__" : Str)) = false := by decide) (hx2 : (Str.ofString x == ("__classdict__" : Str)) = false := by decide) (hy1 : (Str.ofString y == ("__debug__" : Str)) = false := by decide) (hy2 : (Str.ofString y == ("__classdict__" : Str)) = false := by decide) :
    wpAny G.M A (execs (.Return (some (.Tuple [.Name (Str.ofString x) px, .Name (Str.ofString y) py] k tp)) pos :: rest) env) Q E s := by
  have S2 : Sat G (fun c => s.heap.get? c = none) env [(x, .val (.ref a)), (y, .val (.ref b))] s := by
    refine ⟨F.sat.eo, fun _ q => q, fun p hp => ?_⟩
    simp only [List.mem_cons, List.not_mem_nil, or_false] at hp
    rcases hp with rfl | rfl
    · obtain ⟨v, V, R⟩ := F.sat.vars _ hm
      exact ⟨v, V, by simp only [Rel] at R ⊢; exact R⟩
    · obtain ⟨v, V, R⟩ := F.sat.vars _ hm'
      exact ⟨v, V, by simp only [Rel] at R ⊢; exact R⟩
  have hev : Ev G n A env (fun c => s.heap.get? c = none) [(x, .val (.ref a)), (y, .val (.ref b))] (.Tuple [.Name (Str.ofString x) px, .Name (Str.ofString y) py] k tp) (.tup [.val (.ref a), .val (.ref b)]) :=
    ev_tup (evs_cons (ev_name (.head _) hx1 hx2) (evs_one (ev_name (.tail _ (.head _)) hy1 hy2))) (by unfold sizeLine; simp)
  refine wpAny_execs_cons (wpAny_Return_some (Ev.to (hev s F.cx S2) fun v s' h00 => ?_))
  obtain ⟨x, r⟩ := h00
  obtain ⟨vs, j, hg, rr⟩ := (O.aft F.cx x).cont
  obtain ⟨vs', j', hg', rr'⟩ := (Ob.aft F.cx x).cont
  obtain ⟨c, us, m, rfl, hc, hgc, _, _, rfl, rfl, _, _, rfl, rfl, rfl⟩ := r
  refine h s' _ (F.aft x) ?_
  simp only [Rel, RelAll]
  refine ⟨c, _, m, rfl, ?_, hgc, _, _, rfl, ⟨a, vs, j, rfl, O.new, hg, RelAll.flat' hfl rr⟩, _, _, rfl, ⟨b, vs', j', rfl, Ob.new, hg', RelAll.flat' hfl' rr'⟩, rfl⟩
  exact F.ext.kept.none (F.cx.not99 hc) hc
end
end Mine
/-! B18 -/
namespace Mine
section
variable {G : W0} {n : Nat} {A : Around} {env : Env} {ok : Addr → Prop} {ρ : List (String × D)} {s s₀ sT : Shared} {rest : List Stmt} {Q : Flow → Shared → Prop} {E : Value → Shared → Prop}

theorem Fst.apart2 {s' : Shared} {a b : Addr} {o o' : Obj} (F : Fst G n A env ok ρ s₀ sT s) (x : Aft G n A s s') (ha : s.heap.get? a = none) (hb : s.heap.get? b = none) (hg : s'.heap.get? a = some o) (hg' : s'.heap.get? b = some o') : Fst G n A env (But (But ok a) b) ρ s₀ s' s' := by
  have F' := F.aft x
  refine ⟨F'.cx, ⟨F'.sat.eo, fun c q => ⟨⟨F'.sat.fresh c q, fun h => by subst h; rw [hg] at q; cases q⟩, fun h => by subst h; rw [hg'] at q; cases q⟩, fun p hp => ?_⟩, F'.ext, F'.own, .refl _⟩
  obtain ⟨v, V, R⟩ := F.sat.vars p hp
  have R1 : Rel (But ok a) s.heap p.2 v := R.but (s' := s) F.cx (.refl _) ha
  exact ⟨v, V.kept F.cx.tab x.1.kept, R1.but F.cx x.1.kept hb⟩
/-- a for-loop that works on two own lists -/
theorem st_for3 {t iter : Expr} {body orelse : List Stmt} {pos : Pos} {val : Nat → D → Prop} {fin : Nat → Prop} {a b : Addr} (ρs : Nat → List (String × D)) (L M : Nat → List D) (P : Nat → Prop) (N : Nat)
    (hsrc : wpAny G.M A (eval iter env) (fun x s₁ => wpAny G.M A (pyIter x) (fun it s₂ => ∃ Nx, Feed G n A env ok s₀ t it val fin Nx ∧ Nx 0 s₂ ∧ Fst G n A env ok (ρs 0) s₀ s₂ s₂ ∧ Own G ok s₀ s₂ a (L 0) ∧ Own G ok s₀ s₂ b (M 0)) (fun _ _ => False) s₁) (fun _ _ => False) s)
    (hP : P 0) (hN : ∀ i, P i → i ≤ N)
    (turn : ∀ i d s₁ v, val i d → P i → Fst G n A env ok (ρs i) s₀ s₁ s₁ → Own G ok s₀ s₁ a (L i) → Own G ok s₀ s₁ b (M i) → Rel ok s₁.heap d v → wpAny G.M A (assign t env v) (fun _ s₂ => wpAny G.M A (execs body env) (fun f s₃ => match f with
      | .next | .cont => P (i + 1) ∧ Fst G n A env ok (ρs (i + 1)) s₀ s₁ s₃ ∧ Own G ok s₀ s₃ a (L (i + 1)) ∧ Own G ok s₀ s₃ b (M (i + 1))
      | .brk => wpAny G.M A (execs rest env) Q E s₃
      | .ret v => Q (.ret v) s₃) (fun _ _ => False) s₂) (fun _ _ => False) s₁)
    (hend : ∀ i s', fin i → P i → Fst G n A env ok (ρs i) s₀ s' s' → Own G ok s₀ s' a (L i) → Own G ok s₀ s' b (M i) → wpAny G.M A (execs orelse env) (Nxt G A env rest Q E) (fun _ _ => False) s')
    (hs : ∀ x, foldedSetIterable iter env x = pure x := by intro _; rfl) :
    wpAny G.M A (execs (.For t iter body orelse pos :: rest) env) Q E s :=
  st_for (fun i sT s => P i ∧ Fst G n A env ok (ρs i) s₀ sT s ∧ Own G ok s₀ s a (L i) ∧ Own G ok s₀ s b (M i)) N (Ev.to hsrc fun x s₁ h => Ev.to h fun it s₂ ⟨Nx, fd, h0, F, O, O'⟩ => ⟨Nx, fd, h0, hP, F, O, O'⟩)
    (fun i sT s ⟨_, F, _, _⟩ => ⟨F.cx, F.stb, F.sat.fresh⟩) (fun i sT s s' X gi ⟨h, F, O, O'⟩ tk => ⟨h, F.tick tk, O.tick F.cx tk, O'.tick F.cx tk⟩) (fun i sT s ⟨h, _⟩ => hN i h)
    (fun i d s₁ v hv ⟨h, F, O, O'⟩ r => turn i d s₁ v hv h F O O' r)
    (fun i s' hf ⟨h, F, O, O'⟩ => hend i s' hf h F O O') hs
end
end Mine
/-! B19 -/
namespace Mine
theorem d97 (P : Params) : isDef (hd.heap_1 P) 97 = true := by kernel_rfl
theorem b97 (P : Params) : (fdOf (hd.heap_1 P) 97).body = .stmts (bodyOf (stAt 17)) := by kernel_rfl
theorem s97 (P : Params) : (fdOf (hd.heap_1 P) 97).scope = scopeOf (stAt 17) := by kernel_rfl
noncomputable def dueRows (ring : List Int) (reach count : Nat) : List (List Int × Int) := (List.range count).map fun i => ((ring.drop i).take reach, (i : Int))
noncomputable def dueAt (out : List (List Int × Int)) (count : Nat) : Nat → List Int
  | 0 => List.replicate count 0
  | i + 1 => (dueAt out count i).set (out.getD (i + 1) ([], 0)).2.toNat ((dueAt out count i).getD (out.getD i ([], 0)).2.toNat 0 + if (out.getD (i + 1) ([], 0)).1 = (out.getD i ([], 0)).1 then 0 else 1)
theorem dueAt_len (out : List (List Int × Int)) (count : Nat) : ∀ i, (dueAt out count i).length = count
  | 0 => by simp [dueAt]
  | i + 1 => by simp [dueAt, dueAt_len out count i]
section
variable {G : W0} {n : Nat} {A : Around} {env : Env} {ok : Addr → Prop} {ρ : List (String × D)}

theorem spec_due {ring : List Int} {reach count : Nat} {out : List (List Int × Int)} (h2 : 1 ≤ count) (h64 : count < 64) (hr : reach + count ≤ ring.length) (hz : ring.length < 1000) (p1 : out.Perm (dueRows ring reach count)) (p2 : out.Pairwise fun x y => rowLt x y = true) :
    Spec G (n + 5) 97 [.list (zs ring), .int reach, .int count] [] [] (.tup [.list (zs (out.map (·.2))), .list (zs (dueAt out count (count - 1)))]) := fun A s vs us c r1 r2 => by
  obtain ⟨v0, _, rfl, r0, v1, _, rfl, r1, v2, _, rfl, r2', rfl⟩ := r1
  obtain rfl := r2
  refine enter (n := n + 4) c (d97 _) (b97 _) (s97 _) (by kernel_rfl) (binds := [(Str.ofString "ring", v0), (Str.ofString "reach", v1), (Str.ofString "count", v2)]) (fun S => by kernel_rfl) (by simp only [List.map]; decide) (by kernel_rfl)
    (.cons r0 (.cons r1 (.cons r2' .nil))) fun env s₁ iE hfr F _ _ => gen fun Q E hQ hE => ?_
  have gb : ∀ x : String, (scopeOf (stAt 17)).names.lookup (Str.ofString x) = some .globalImplicit → env.kindOf (Str.ofString x) = some .globalImplicit := fun x h => iE.kinds _ _ h (by decide)
  have e1 : (((List.range count).filter fun _ => true).map fun i => rowD ((ring.drop i).take reach, (i : Int))) = (dueRows ring reach count).map rowD := by
    rw [List.filter_eq_self.mpr (fun _ _ => rfl), dueRows, List.map_map]; rfl
  have hrng : rng 0 1 count = (List.range count).map fun (i : Nat) => D.int (i : Int) := by simp [rng]
  refine st_set F (F.ev (ev_sorted (rows := dueRows ring reach count) (out := out) (m := reach) (ev_blt (gb "sorted" (by kernel_rfl)) (by kernel_rfl) (by kernel_rfl))
    (e1 ▸ ev_comp (List.range count) (fun (i : Nat) => D.int (i : Int)) (fun _ => true) (fun i => rowD ((ring.drop i).take reach, (i : Int))) (fun i => [("i", .int i)]) (ρc := [("ring", .list (zs ring)), ("reach", .int reach)])
      (hrng ▸ src_range1 (ev_blt (gb "range" (by kernel_rfl)) (by kernel_rfl) (by kernel_rfl)) (ev_name (.tail _ (.tail _ (.head _)))) (by (first | lia | omega))) rfl (by decide) (freeOk iE (by kernel_rfl)) (.cell iE (.head _) (by kernel_rfl) (by kernel_rfl) (.cell iE (.tail _ (.head _)) (by kernel_rfl) (by kernel_rfl) .nil))
      (.inl fun _ _ => rfl) (fun cenv ok' X iC x hx => tgt_name (iC.atX _ _ (by kernel_rfl) (.inl rfl)) (.tail (.tail .nil))) (fun cenv ok' X iC x hx => tests_nil)
      (fun cenv ok' X iC x hx _ => ?_) (by unfold sizeLine; simp; (first | lia | omega)))
    (by simp [dueRows]; exact h2) (by simp [dueRows]; exact h64) (fun r hr' => ?_) ?_ p1 p2)) (at_of iE (by kernel_rfl)) (ρ' := [("ring", .list (zs ring)), ("reach", .int reach), ("count", .int count), ("order", .list (out.map rowD))]) (.tail (.tail (.tail .nil))) fun s₂ F2 k2 => ?_
  · have hi : x < count := List.mem_range.mp hx
    have hsl : (((zs ring).drop ((some (x : Int)).elim 0 (clipAt (zs ring).length))).take ((some ((x : Int) + reach)).elim (zs ring).length (clipAt (zs ring).length) - (some (x : Int)).elim 0 (clipAt (zs ring).length))) = zs ((ring.drop x).take reach) := by
      simp only [Option.elim, zs, List.map_take, List.map_drop, List.length_map]
      have q1 : clipAt ring.length (x : Int) = x := (clipAt_nat _ _).trans (Nat.min_eq_left (by (first | lia | omega)))
      have q2 : clipAt ring.length ((x : Int) + reach) = x + reach := (clipAt_nat ring.length (x + reach)).trans (Nat.min_eq_left (by (first | lia | omega)))
      rw [q1, q2, Nat.add_sub_cancel_left]
    exact ev_tup (evs_cons (hsl ▸ ev_slice (ev_name (.head _)) (part_some (ev_name (.tail _ (.tail _ (.head _))))) (part_some (ev_add (ev_name (.tail _ (.tail _ (.head _)))) (ev_name (.tail _ (.head _))))) (by unfold sizeLine; simp; (first | lia | omega))) (evs_one (ev_name (.tail _ (.tail _ (.head _)))))) (by unfold sizeLine; simp)
  · obtain ⟨i, hi, rfl⟩ := List.mem_map.mp hr'
    have hi := List.mem_range.mp hi
    simp; (first | lia | omega)
  · refine List.pairwise_iff_getElem.mpr fun i j h1 h2 hij => ?_
    simp only [dueRows, List.getElem_map, List.getElem_range]
    (first | lia | omega)
  -- line, names
  have fz : ∀ {l : List Int}, ∀ d ∈ zs l, Flat d := fun d hd => by obtain ⟨x, _, rfl⟩ := List.mem_map.mp hd; trivial
  have erep : (List.replicate count [D.int 0]).flatten = zs (List.replicate count 0) := by
    simp [zs]
  have e2 : ((out.filter fun _ => true).map fun r => D.int r.2) = zs (out.map (·.2)) := by
    rw [List.filter_eq_self.mpr (fun _ _ => rfl), zs, List.map_map]; rfl
  have F2r := F2.reset
  refine st_pairS (K := fun v1 v2 s' => ∃ a vs k b us j, v1 = .ref a ∧ v2 = .ref b ∧ s₂.heap.get? a = none ∧ s₂.heap.get? b = none ∧ b ≠ a ∧ Aft G (n + 4) (A.deeper env) s₂ s' ∧ s'.heap.get? a = some (LO vs k) ∧ s'.heap.get? b = some (LO us j) ∧ RelAll (fun _ => True) s'.heap (zs (out.map (·.2))) vs ∧ RelAll (fun _ => True) s'.heap (zs (List.replicate count 0)) us) F.cx.hh
    (wp_pair (R := fun v1 v2 s' => ∃ a vs k b us j, v1 = .ref a ∧ v2 = .ref b ∧ s₂.heap.get? a = none ∧ s₂.heap.get? b = none ∧ b ≠ a ∧ Aft G (n + 4) (A.deeper env) s₂ s' ∧ s'.heap.get? a = some (LO vs k) ∧ s'.heap.get? b = some (LO us j) ∧ RelAll (fun _ => True) s'.heap (zs (out.map (·.2))) vs ∧ RelAll (fun _ => True) s'.heap (zs (List.replicate count 0)) us)
      (Ev.to (evn_comp (ρc := []) out rowD (fun _ => true) (fun r => D.int r.2) (fun r => [("stretch", .list (zs r.1)), ("i", .int r.2)]) (src_list (ev_name (.tail _ (.tail _ (.tail _ (.head _)))))) rfl (by decide) (freeOk iE (by kernel_rfl)) .nil
        (.inr ⟨rfl, ⟨_, _, _, rfl⟩, fun x _ => ⟨_, rfl⟩⟩) (fun cenv ok' X iC x hx => ?_) (fun cenv ok' X iC x hx => tests_nil) (fun cenv ok' X iC x hx _ => ev_name (.tail _ (.head _))) (by unfold sizeLine; have := p1.length_eq; simp [dueRows] at this; (first | lia | omega)) F2.cx F2.sat) fun v1 s₃ ⟨x, a, vs, k, e, hn, hg, rr⟩ => ?_) ?_) ?_ (swapped_yes (bk F.sat.eo) (iE.kinds _ _ (by kernel_rfl) (by decide)) (iE.kinds _ _ (by kernel_rfl) (by decide)) (by decide) (by decide) (by rfl) (by rfl) (by rfl) (by rfl))
  · exact tgt_pair (tgt_name (iC.atX _ _ (by kernel_rfl) (.inl rfl)) .nil) (tgt_name (iC.atX _ _ (by kernel_rfl) (.inl rfl)) (.tail .nil))
  · rw [e2] at rr
    have F3 := F2.aft x
    have S3 : Sat G (fun c => s₃.heap.get? c = none) env [("count", .int count)] s₃ := by
      refine ⟨F3.sat.eo, fun _ q => q, fun p hp => ?_⟩
      simp only [List.mem_cons, List.not_mem_nil, or_false] at hp
      subst hp
      obtain ⟨v, V, R⟩ := F3.sat.vars ("count", .int count) (.tail _ (.tail _ (.head _)))
      exact ⟨v, V, by simp only [Rel] at R ⊢; exact R⟩
    refine Ev.to (ev_mulL (ok := fun c => s₃.heap.get? c = none) (ρ := [("count", .int count)]) (ds := [.int 0]) (k := count) (ev_list (ds := [.int 0]) (evs_one ev_int)) (ev_name (.head _)) (by simp; (first | lia | omega)) (by (first | lia | omega)) s₃ F3.cx S3) fun v2 s₄ h00 => ?_
    obtain ⟨x2, r2⟩ := h00
    rw [erep] at r2
    obtain ⟨b, us, j, rfl, hb, hgb, rb⟩ := r2
    refine ⟨a, vs, k, b, us, j, e, rfl, hn, back_none x hb, fun q => ?_, x.trans x2, x2.1.kept.get (ne_tab F3.cx.tab hg (IsSeq.nf ⟨_, _, rfl⟩)) hg (IsSeq.nd ⟨_, _, rfl⟩), hgb, RelAll.flat' fz rr, RelAll.flat' fz rb⟩
    subst q; rw [hg] at hb; cases hb
  · rintro v1 v2 s₃ ⟨a, vs, k, b, us, j, e1, e2, hna, hnb, hab, x, hga, hgb, ra, rb⟩
    have x2 := x.2.keeps (h' := s₃.heap.push (TO [v1, v2] 0)) (tk := s₃.toks) fun b o e => Heap.get?_push_of_some _ e
    exact ⟨v1, v2, s₃.heap.objs.size, 0, rfl, Heap.get?_push_size _ rfl, a, vs, k, b, us, j, e1, e2, hna, hnb, hab, x.trans x2, Heap.get?_push_of_some _ hga, Heap.get?_push_of_some _ hgb, RelAll.flat' fz ra, RelAll.flat' fz rb⟩
  rintro v1 v2 s₃ h' ⟨a, vs, k, b, us, j, rfl, rfl, hna, hnb, hab, x, hga, hgb, ra, rb⟩ hk'
  have x2 := x.2.keeps (h' := h') (tk := s₃.toks) hk'
  have F3 := F2.apart2 (x.trans x2) hna hnb (hk' _ _ hga) (hk' _ _ hgb)
  have F3t := F3
  obtain ⟨a0, ab⟩ := F2.old hna
  obtain ⟨b0, bb⟩ := F2.old hnb
  have Oa : Own G (But (But (fun _ => True) a) b) s { s₃ with heap := h' } a (zs (out.map (·.2))) := ⟨⟨vs, k, hk' _ _ hga, RelAll.flat' fz ra⟩, fun h => h.1.2 rfl, a0, ab⟩
  have Ob : Own G (But (But (fun _ => True) a) b) s { s₃ with heap := h' } b (zs (List.replicate count 0)) := ⟨⟨us, j, hk' _ _ hgb, RelAll.flat' fz rb⟩, fun h => h.2 rfl, b0, bb⟩
  refine F3.store (at_of iE (by kernel_rfl)) (d := .val (.ref b)) (by simp only [Rel]) (ρ' := [("ring", .list (zs ring)), ("reach", .int reach), ("count", .int count), ("order", .list (out.map rowD)), ("names", .val (.ref b))]) (.tail (.tail (.tail (.tail .nil)))) fun s₄ F4 k4 => ?_
  refine F4.store (at_of iE (by kernel_rfl)) (d := .val (.ref a)) (by simp only [Rel]) (ρ' := [("ring", .list (zs ring)), ("reach", .int reach), ("count", .int count), ("order", .list (out.map rowD)), ("names", .val (.ref b)), ("line", .val (.ref a))]) (.tail (.tail (.tail (.tail (.tail .nil))))) fun s₅ F5 k5 => ?_
  have Oa5 := (Oa.sol k4).sol k5
  have Ob5 := (Ob.sol k4).sol k5
  have hol : out.length = count := by have := p1.length_eq; simpa [dueRows] using this
  have hat : ∀ i, i < count → ∃ j : Nat, j < count ∧ out.getD i ([], 0) = ((ring.drop j).take reach, (j : Int)) := fun i hi => by
    have hi' : i < out.length := by (first | lia | omega)
    have e : out.getD i ([], 0) = out[i] := by simp [List.getD_eq_getElem?_getD, hi']
    have hm : out[i] ∈ dueRows ring reach count := p1.mem_iff.mp (List.getElem_mem hi')
    obtain ⟨j, hj, e'⟩ := List.mem_map.mp hm
    exact ⟨j, List.mem_range.mp hj, by rw [e, ← e']⟩
  refine st_for3 (fun _ => [("ring", .list (zs ring)), ("reach", .int reach), ("count", .int count), ("order", .list (out.map rowD)), ("names", .val (.ref b)), ("line", .val (.ref a))]) (fun i => zs (dueAt out count i)) (fun _ => zs (out.map (·.2))) (fun i => i ≤ count - 1) (count - 1)
    (wp_src F5 F5.sat ⟨_, _, c⟩ (src_range2 (a := 1) (b := count) (ev_blt (gb "range" (by kernel_rfl)) (by kernel_rfl) (by kernel_rfl)) ev_int (ev_name (.tail _ (.tail _ (.head _)))) (by decide) (by (first | lia | omega))) (.inl fun _ _ => rfl) fun s' x => ⟨(F5.aft x).reset, Ob5.aft F5.cx x, Oa5.aft F5.cx x⟩) (Nat.zero_le _) (fun i h => h) ?_ ?_
  · rintro i d s₆ v hd hi F6 Ob6 Oa6 rd
    have hlt : i < count - 1 := by
      have := (List.getElem?_eq_some_iff.mp hd).1
      simp only [rng, List.length_map, List.length_range] at this
      (first | lia | omega)
    have hdv : d = .int ((i + 1 : Nat) : Int) := by
      simp only [rng, List.getElem?_map] at hd
      rw [List.getElem?_range (by (first | lia | omega))] at hd
      simp at hd
      rw [← hd]; congr 1; (first | lia | omega)
    subst hdv
    refine F6.assign (tgtN (at_of iE (by kernel_rfl)) (ρ' := [("ring", .list (zs ring)), ("reach", .int reach), ("count", .int count), ("order", .list (out.map rowD)), ("names", .val (.ref b)), ("line", .val (.ref a)), ("k", .int ((i + 1 : Nat) : Int))]) (.tail (.tail (.tail (.tail (.tail (.tail .nil))))))) rd fun s₇ F7 k7 => ?_
    have Ob7 := k7 _ _ Ob6
    have Oa7 := k7 _ _ Oa6
    obtain ⟨j1, hj1, ej1⟩ := hat (i + 1) (by (first | lia | omega))
    obtain ⟨j0, hj0, ej0⟩ := hat i (by (first | lia | omega))
    have hlen := dueAt_len out count i
    have hline : ∀ i j : Nat, i < count → out.getD i ([], 0) = ((ring.drop j).take reach, (j : Int)) → (zs (out.map (·.2)))[i]? = some (.int j) := fun i j hi e => by
      have hi' : i < out.length := by (first | lia | omega)
      rw [List.getD_eq_getElem?_getD, List.getElem?_eq_getElem hi', Option.getD_some] at e
      simp [zs, hi', e]
    have horder : ∀ i j : Nat, i < count → out.getD i ([], 0) = ((ring.drop j).take reach, (j : Int)) → (out.map rowD)[i]? = some (.tup [.list (zs ((ring.drop j).take reach)), .int j]) := fun i j hi e => by
      have hi' : i < out.length := by (first | lia | omega)
      rw [List.getD_eq_getElem?_getD, List.getElem?_eq_getElem hi', Option.getD_some] at e
      simp [hi', e, rowD]
    have hzat : ∀ l : List Int, ∀ d ∈ zs l, Atom true d := fun l d hd => by
      obtain ⟨x, _, rfl⟩ := List.mem_map.mp hd; exact trivial
    have kk : ∀ {ok' : Addr → Prop} {ρ' : List (String × D)} {e : Expr} {q q' : Pos} {m : Nat}, Ev G (n + 4) (A.deeper env) env ok' ρ' e (.int ((i + 1 : Nat) : Int)) → Ev G (n + 4) (A.deeper env) env ok' ρ' (.BinOp e .Sub (.Constant (.int 1) m q) q') (.int ((i : Nat) : Int)) := fun {ok' ρ' e q q' m} h => by
      have h' := ev_sub (pos := q') h (ev_int (i := 1) (k := m) (pos := q))
      have e : ((i + 1 : Nat) : Int) - 1 = (i : Int) := by (first | lia | omega)
      rw [e] at h'; exact h'
    refine st_setitem2 (k := (j1 : Int)) (d := .int ((dueAt out count i).getD j0 0 + if (out.getD (i + 1) ([], 0)).1 = (out.getD i ([], 0)).1 then 0 else 1)) F7 (.tail _ (.tail _ (.tail _ (.tail _ (.head _))))) Ob7 Oa7 (fun q => hab q.symm)
      (fun s' F' Ob' Oa' => (F'.sat.full Ob' (.tail _ (.tail _ (.tail _ (.tail _ (.head _)))))).full (Oa'.weak (fun _ => .inl) (fun q => q.elim Oa'.nok fun q => hab q.symm)) (.tail _ (.tail _ (.tail _ (.tail _ (.tail _ (.tail _ (.head _))))))))
      (ev_add (ev_item (k := (j0 : Int)) (ev_name (.tail _ (.head _))) (ev_item (k := (i : Int)) (ev_name (.head _)) (kk (ev_name (.tail _ (.tail _ (.tail _ (.tail _ (.tail _ (.tail _ (.tail _ (.tail _ (.head _))))))))))) (by (first | lia | omega)) (by (first | lia | omega)) (hline i j0 (by (first | lia | omega)) ej0)) (by (first | lia | omega)) (by (first | lia | omega)) (zs_get (by rw [hlen]; (first | lia | omega))))
        (ev_ifexp (tst_cmp (ev_itemT (k := 0) (ev_item (k := ((i + 1 : Nat) : Int)) (ev_name (.tail _ (.tail _ (.tail _ (.tail _ (.tail _ (.head _))))))) (ev_name (.tail _ (.tail _ (.tail _ (.tail _ (.tail _ (.tail _ (.tail _ (.tail _ (.head _)))))))))) (by (first | lia | omega)) (by (first | lia | omega)) (horder (i + 1) j1 (by (first | lia | omega)) ej1)) ev_int (by decide) rfl)
          (ev_itemT (k := 0) (ev_item (k := (i : Int)) (ev_name (.tail _ (.tail _ (.tail _ (.tail _ (.tail _ (.head _))))))) (kk (ev_name (.tail _ (.tail _ (.tail _ (.tail _ (.tail _ (.tail _ (.tail _ (.tail _ (.head _))))))))))) (by (first | lia | omega)) (by (first | lia | omega)) (horder i j0 (by (first | lia | omega)) ej0)) ev_int (by decide) rfl) (cmp_lne (b := true) (hzat _) (hzat _))) ?_ ?_)) trivial
      (ev_item (k := ((i + 1 : Nat) : Int)) (ev_name (.head _)) (ev_name (.tail _ (.tail _ (.tail _ (.tail _ (.tail _ (.tail _ (.tail _ (.tail _ (.head _)))))))))) (by (first | lia | omega)) (by (first | lia | omega)) (hline (i + 1) j1 (by (first | lia | omega)) ej1)) (by (first | lia | omega)) (by simp [hlen]; (first | lia | omega)) (by simp [hlen]; (first | lia | omega)) fun s₈ F8 Ob8 Oa8 => wpAny_execs_nil ⟨by (first | lia | omega), F8.sub fun q hq => ?_, ?_, Oa8⟩
    · intro hb
      rw [leq_zs] at hb
      rw [ej1, ej0]
      have : ¬ (ring.drop j1).take reach = (ring.drop j0).take reach := by simpa using hb
      rw [if_neg this]; exact ev_int
    · intro hb
      rw [leq_zs] at hb
      rw [ej1, ej0]
      have : (ring.drop j1).take reach = (ring.drop j0).take reach := by simpa using hb
      rw [if_pos this]; exact ev_int
    · simp only [List.mem_cons, List.not_mem_nil, or_false] at hq ⊢
      rcases hq with q | q | q | q | q | q <;> simp [q]
    · have e : (zs (dueAt out count i)).set ((j1 : Int)).toNat (.int ((dueAt out count i).getD j0 0 + if (out.getD (i + 1) ([], 0)).1 = (out.getD i ([], 0)).1 then 0 else 1)) = zs (dueAt out count (i + 1)) := by
        rw [← zs_set, dueAt, ej1, ej0]; rfl
      rw [← e]; exact Ob8
  · rintro i s' hf hi F' Ob' Oa'
    refine no_orelse ?_
    have hi' : i = count - 1 := by
      have hf := hf
      simp only [rng] at hf
      simpa using hf
    subst hi'
    exact st_rettup2 F' Oa' Ob' (.tail _ (.tail _ (.tail _ (.tail _ (.tail _ (.head _)))))) (.tail _ (.tail _ (.tail _ (.tail _ (.head _))))) fz fz fun s'' v F'' r => hQ _ _ ⟨v, rfl, F''.done c, r⟩
end
end Mine
/-! B20 -/
namespace Mine

section
variable {M : Model} {A : Around} {R : GenEnd} {Y : Protocol} {n : Nat} {s₀ : Shared} {c : Code} {fs : List Frame} {s : Shared} {env : Env}
  {K : Flow → Sem Fin} {H : Value → Sem Fin} {gd : Bool → Bool} {lv : List Value → List Value}

theorem sg_if {test : Expr} {body orelse : List Stmt} {pos : Pos} {b : Bool}
    (h : wpAny M (A.over c fs) (isTrue test env (eval test env)) (fun b' s' => b' = b ∧ Seg M A R Y n s₀ c ((execs (if b then body else orelse) env).wrap K H gd lv) fs s') (fun _ _ => False) s) :
    Seg M A R Y n s₀ c ((exec (.If test body orelse pos) env).wrap K H gd lv) fs s := by
  rw [exec_If]
  refine seg_at ?_
  show Seg M A R Y n s₀ c (Sem.wrap K H gd lv (isTrue test env (eval test env) >>= fun b => if b = true then execs body env else execs orelse env)) fs s
  rw [Sem.bind_eq_wrap', Sem.wrap_wrap]
  refine seg_wrap (wpAny_mono h (fun b' s' h' => ?_) fun _ _ x => x.elim)
  obtain ⟨rfl, h'⟩ := h'
  cases b' <;> exact h'

theorem sg_do {st : Stmt} (h : wpAny M (A.over c fs) (exec st env) (fun f s' => Seg M A R Y n s₀ c (K f) fs s') (fun _ _ => False) s) :
    Seg M A R Y n s₀ c ((exec st env).wrap K H gd lv) fs s := seg_wrap (wpAny_mono h (fun _ _ x => x) fun _ _ x => x.elim)

theorem sg_for {target iter : Expr} {body orelse : List Stmt} {pos : Pos} (hg : gd false = false)
    (h : wpAny M (A.over c fs) (eval iter env) (fun x s₁ => wpAny M (A.over c fs) (pyIter x) (fun it s₂ => ∀ k l p, Seg M A R Y n s₀ (.forLoop target it body orelse env) (M.den (.forLoop target it body orelse env)) (.ret k none false l c p [] :: fs) s₂) (fun _ _ => False) s₁) (fun _ _ => False) s)
    (hs : ∀ x, foldedSetIterable iter env x = pure x := by intro _; rfl) :
    Seg M A R Y n s₀ c ((exec (.For target iter body orelse pos) env).wrap K H gd lv) fs s := by
  rw [exec_For]
  refine seg_at ?_
  show Seg M A R Y n s₀ c (Sem.wrap K H gd lv (eval iter env >>= _)) fs s
  rw [Sem.bind_eq_wrap', Sem.wrap_wrap]
  refine seg_wrap (wpAny_mono h (fun x s₁ h₁ => ?_) fun _ _ x => x.elim)
  rw [hs x]
  refine seg_at ?_
  show Seg M A R Y n s₀ c (Sem.wrap _ _ _ _ (holding [x] (pyIter x) >>= _)) fs s₁
  rw [Sem.bind_eq_wrap', Sem.wrap_wrap]
  refine seg_wrap (wpAny_holding (wpAny_mono h₁ (fun it s₂ h₂ => ?_) fun _ _ x => x.elim))
  have key : ∀ g k l p, g = false → Seg M A R Y n s₀ (.forLoop target it body orelse env) (M.den (.forLoop target it body orelse env)) (.ret k none g l c p [] :: fs) s₂ := fun g k l p e => e ▸ h₂ k l p
  refine seg_call fun p => key _ _ _ p ?_
  exact hg
end

section
variable {prog : Program} {w : World} {A : Around} {R : GenEnd} {Y : Protocol} {n : Nat} {s₀ : Shared} {fs : List Frame} {s : Shared} {env : Env}

theorem sg_loop {target : Expr} {it : Value} {body orelse : List Stmt} (hlet : ∀ v, letOwnedTupleGo target it v = pure ())
    (h : wpAny (model prog w) (A.over (.forLoop target it body orelse env) fs) (pyNext it) (fun r s₁ => ∃ v, r = some v ∧
        wpAny (model prog w) (A.over (.forLoop target it body orelse env) fs) (assign target env v) (fun _ s₂ => ∀ H,
          Seg (model prog w) A R Y n s₀ (.forLoop target it body orelse env) ((execs body env).wrap (fun f => match f with
            | .next | .cont => .pure (.again (.forLoop target it body orelse env))
            | .brk => .pure (.done .next)
            | .ret v => .pure (.done (.ret v))) H id id) fs s₂) (fun _ _ => False) s₁) (fun _ _ => False) s) :
    Seg (model prog w) A R Y n s₀ (.forLoop target it body orelse env) ((model prog w).den (.forLoop target it body orelse env)) fs s := by
  show Seg _ A R Y n s₀ _ ((forTurn target it body orelse env).onRaise (fun x => do noteFrame x env; theTreesLotGoes x)) fs s
  unfold forTurn
  rw [Sem.onRaise_eq_wrap, Sem.bind_eq_wrap', Sem.bind_eq_wrap']
  refine seg_at ?_
  show Seg _ A R Y n s₀ _ (Sem.wrap _ _ _ _ (Sem.wrap _ _ _ _ ((pyNext it).onRaise _))) fs s
  rw [Sem.wrap_wrap]
  refine seg_wrap (wpAny_onRaise (wpAny_mono h (fun r s₁ h₁ => ?_) fun _ _ x => x.elim))
  obtain ⟨v, rfl, h₁⟩ := h₁
  dsimp only
  rw [hlet v]
  show Seg _ A R Y n s₀ _ (Sem.wrap _ _ _ _ (assign target env v >>= _)) fs s₁
  rw [Sem.bind_eq_wrap', Sem.wrap_wrap]
  refine seg_wrap (wpAny_mono h₁ (fun _ s₂ h₂ => ?_) fun _ _ x => x.elim)
  rw [Sem.bind_eq_wrap', Sem.wrap_wrap]
  have h₂' := h₂ (fun (e : Value) => Sem.wrap (fun a => Sem.pure a) (fun e => (do noteFrame e env; theTreesLotGoes e : Sem Unit).bind fun _ => .raise e) id id (.raise e))
  rw [Sem.wrap_congr (execs body env) _ _ (K' := fun f => match f with
            | .next | .cont => .pure (.again (.forLoop target it body orelse env))
            | .brk => .pure (.done .next)
            | .ret v => .pure (.done (.ret v))) (fun f => by cases f <;> rfl) (fun e => rfl)]
  exact h₂'
end
end Mine
/-! B21 -/
namespace Mine

/-- the same to all eyes -/
structure Like (A B : Around) : Prop where
  h : A.handled = B.handled
  f : A.frames = B.frames
  d : A.depth = B.depth
  u : A.units = B.units

section
variable {G : W0} {n m : Nat} {A : Around} {env genv : Env} {s s' s₀ : Shared} {R : GenEnd}

theorem Cx.like {B : Around} (l : Like A B) (c : Cx G n A s) : Cx G n B s :=
  ⟨c.stays, c.tab, by rw [← l.f]; exact c.fr, l.h ▸ c.hh, l.d ▸ c.dep, l.u ▸ c.un, c.bare⟩

/-- a generator's frame above its waker's -/
theorem Cx.wake (c : Cx G n A s) (hm : m + 1 ≤ n) (eo : EnvOk G genv s.heap) (hf : genv.frame = some genv.locals) : Cx G m (A.in1.deeper genv) s := by
  have hdep := c.dep
  have hun := c.un
  refine ⟨c.stays, c.tab, ?_, c.hh, by show A.depth + 1 + m ≤ 990; (first | lia | omega), by show A.units + 1 + 3 + 20 * m ≤ 9800; (first | lia | omega), c.bare⟩
  obtain ⟨l, e1, e2⟩ := c.fr
  refine ⟨genv :: l, Around.frames_deeper e1, ?_, ?_, e2⟩
  · show genv.scope.kind ≠ .module; rw [eo.kind]; nofun
  · obtain ⟨mm, hn⟩ := eo.ns
    have h9 := ns_ne c.tab hn
    obtain ⟨o, es, ep, e3, e4, _⟩ := hn
    exact ⟨_, o, es, ep, hf, eo.nsNew, h9, e3, e4⟩
theorem Cx.slept (c : Cx G n A s₀) (c' : Cx G m (A.in1.deeper genv) s) : Cx G n A s := by
  refine ⟨c'.stays, c'.tab, ?_, c.hh, c.dep, c.un, c'.bare⟩
  obtain ⟨l, e1, e2⟩ := c.fr
  obtain ⟨l', e1', e2'⟩ := c'.fr
  have := Around.frames_deeper (A := A.in1) (env := genv) e1
  rw [e1'] at this; cases this
  exact ⟨l, e1, e2'.2.2⟩

/-- a fact that stands as long as the objects of P do -/
noncomputable def Stable (P : Addr → Prop) (Pv : Shared → Prop) : Prop :=
  ∀ s s', Pv s → (∀ b o, P b → s.heap.get? b = some o → ∃ sl, s'.heap.get? b = some { o with slots := sl } ∧ (NotDict o → sl = o.slots)) → Pv s'

/-- what a generator shows its waker at each number that it yields -/
noncomputable def GY (G : W0) (n : Nat) (A : Around) (genv : Env) (P P' : Addr → Prop) (N : Nat) (y : Nat → Int) : Protocol := fun m s₀ v s₁ kap =>
  ∃ j, j + 1 + m = N ∧ (∃ t, v = .int (y j) t) ∧ ∃ I, P I ∧ (∀ o, s₀.heap.get? I = some o → ¬ IsSeq o) ∧ Mod (fun b => b = genv.locals ∨ b = I) s₀ s₁ ∧ Cx G n A s₁ ∧ (∃ mm, s₁.heap.Ns genv.locals mm) ∧
    ∃ Pv, Pv s₁ ∧ Stable P' Pv ∧ (0 < m → ∀ s'', Cx G n A s'' → Pv s'' → kap (.send .none) s'')

/-- what a generator holds of its own -/
structure GI (G : W0) (genv : Env) (ρ : List (String × D)) (I L : Addr) (vs : List Value) (i : Nat) (s : Shared) : Prop where
  sat : Sat G (fun _ => True) genv ρ s
  it : s.heap.IsListIter I L i
  lst : ∃ k, s.heap.get? L = some (LO vs k)

theorem sat_stable {P : Addr → Prop} {ρ : List (String × D)} (hc : ∀ x, genv.cells.lookup x = none) (hfl : ∀ p ∈ ρ, Flat p.2) (hP : P genv.locals) : Stable P (fun s => Sat G (fun _ => True) genv ρ s) := fun s s' S k => by
  have ns' : ∀ {mm}, s.heap.Ns genv.locals mm → s'.heap.Ns genv.locals mm := fun {mm} q => by
    obtain ⟨o, es, ep, e, hd, r⟩ := q
    obtain ⟨sl, e1, _⟩ := k _ o hP e
    exact ⟨_, es, ep, e1, hd, r⟩
  refine ⟨⟨S.eo.kind, S.eo.glob, S.eo.blt, let ⟨mm, q⟩ := S.eo.ns; ⟨mm, ns' q⟩, S.eo.nsNew, fun x c q => (by rw [hc] at q; cases q), S.eo.apart⟩, fun _ _ => trivial, fun p hp => ?_⟩
  obtain ⟨v, V, R⟩ := S.vars p hp
  refine ⟨v, ?_, R.flat (hfl p hp)⟩
  rcases V with ⟨k1, mm, q1, q2⟩ | ⟨_, c, q, _⟩
  · exact .inl ⟨k1, mm, ns' q1, q2⟩
  · rw [hc] at q; cases q
theorem GI.stable {P : Addr → Prop} {ρ : List (String × D)} {I L : Addr} {vs : List Value} {i : Nat} (hc : ∀ x, genv.cells.lookup x = none) (hfl : ∀ p ∈ ρ, Flat p.2) (hP : P genv.locals) (hI : P I) (hL : P L) : Stable P (GI G genv ρ I L vs i) := fun s s' S k => by
  refine ⟨sat_stable hc hfl hP s s' S.sat k, ?_, ?_⟩
  · obtain ⟨o, e, hcl, hd⟩ := S.it
    obtain ⟨sl, e1, f1⟩ := k _ o hI e
    exact ⟨_, e1, hcl, hd⟩
  · obtain ⟨kk, e⟩ := S.lst
    obtain ⟨sl, e1, f1⟩ := k _ _ hL e
    rw [f1 (fun es ep q => by cases q)] at e1
    exact ⟨kk, e1⟩
theorem GI.aft {m' : Nat} {A' : Around} {ρ : List (String × D)} {I L : Addr} {vs : List Value} {i : Nat} (g : GI G genv ρ I L vs i s) (c : Cx G n A s) (a : Aft G m' A' s s') : GI G genv ρ I L vs i s' := by
  refine ⟨g.sat.aft c a, ?_, ?_⟩
  · obtain ⟨o, e, hcl, hd⟩ := g.it
    by_cases h9 : I = 99
    · subst h9
      exfalso
      obtain ⟨vs', e2⟩ := c.tab.fields
      rw [e] at e2; cases e2; cases hcl
    · obtain ⟨sl, e1, f1⟩ := a.1.kept _ o h9 e
      exact ⟨_, e1, hcl, hd⟩
  · obtain ⟨kk, e⟩ := g.lst
    exact ⟨kk, a.1.kept.get (ne_tab c.tab e fun _ q => by cases q) e fun es ep q => by cases q⟩
/-- while …: yield e -/
theorem seg_B {P P' : Addr → Prop} {N z : Nat} {y : Nat → Int} {l : Int} {ρ : List (String × D)} {I L : Addr} {vs : List Value} {i : Nat} {test el : Expr} {py pe : Pos}
    (hf : genv.frame = some genv.locals) (hm : m + 1 ≤ n) (hc : ∀ x, genv.cells.lookup x = none) (hfl : ∀ p ∈ ρ, Flat p.2) (hP : P' genv.locals) (hI : P I) (hI' : P' I) (hL : P' L)
    (ht : ∀ B, Tst G m B genv (fun _ => True) ρ test true) (he : ∀ B, Ev G m B genv (fun _ => True) ρ el (.int l)) (hy : ∀ j, z ≤ j → y j = l) (hco : genv.scope.isCoroutine = false) :
    ∀ (k j : Nat) (s₀ s : Shared) (fs : List Frame), j + 1 + k = N → z ≤ j → Like (A.in1.deeper genv) (A.in1.over (.whileLoop test [.Expr (.Yield (some el) py) pe] [] genv) fs) → splitAtGen fs = none → fs.any Frame.guarded = false →
      (∃ s, Cx G n A s) → Cx G m (A.in1.deeper genv) s → GI G genv ρ I L vs i s → Mod (fun b => b = genv.locals ∨ b = I) s₀ s → (∀ o, s₀.heap.get? I = some o → ¬ IsSeq o) →
      Seg G.M A.in1 R (GY G n A genv P P' N y) (k + 1) s₀ (.whileLoop test [.Expr (.Yield (some el) py) pe] [] genv) (G.M.den (.whileLoop test [.Expr (.Yield (some el) py) pe] [] genv)) fs s := by
  intro k
  induction k with
  | zero =>
    intro j s₀ s fs hj hz lk hfs hfg hA cx gi md hns
    refine seg_whileLoop (Ev.to (ht _ s (cx.like lk) gi.sat) fun b s₁ h00 => ?_)
    obtain ⟨a1, e⟩ := h00
    subst e
    simp only [if_true]
    have g1 := gi.aft (cx.like lk) a1
    refine seg_execs_cons (seg_Expr_Yield hfs rfl hfg (Ev.to (he _ s₁ a1.2 g1.sat) fun v s₂ h00 kap hk => ?_) hco (by unfold interactive; rw [gi.sat.eo.kind]; rfl))
    obtain ⟨a2, r⟩ := h00
    have g2 := g1.aft a1.2 a2
    obtain ⟨t, rfl⟩ := r
    obtain ⟨_, cA⟩ := hA
    refine ⟨j, hj, ⟨t, by rw [hy j hz]⟩, I, hI, hns, (md.trans a1.1.mod).trans a2.1.mod, cA.slept (a2.2.like ⟨lk.h.symm, lk.f.symm, lk.d.symm, lk.u.symm⟩), g2.sat.eo.ns, GI G genv ρ I L vs i, g2, GI.stable hc hfl hP hI' hL, fun h => absurd h (Nat.lt_irrefl _)⟩
  | succ k ih =>
    intro j s₀ s fs hj hz lk hfs hfg hA cx gi md hns
    refine seg_whileLoop (Ev.to (ht _ s (cx.like lk) gi.sat) fun b s₁ h00 => ?_)
    obtain ⟨a1, e⟩ := h00
    subst e
    simp only [if_true]
    have g1 := gi.aft (cx.like lk) a1
    refine seg_execs_cons (seg_Expr_Yield hfs rfl hfg (Ev.to (he _ s₁ a1.2 g1.sat) fun v s₂ h00 kap hk => ?_) hco (by unfold interactive; rw [gi.sat.eo.kind]; rfl))
    obtain ⟨a2, r⟩ := h00
    have g2 := g1.aft a1.2 a2
    obtain ⟨t, rfl⟩ := r
    obtain ⟨_, cA⟩ := id hA
    refine ⟨j, hj, ⟨t, by rw [hy j hz]⟩, I, hI, hns, (md.trans a1.1.mod).trans a2.1.mod, cA.slept (a2.2.like ⟨lk.h.symm, lk.f.symm, lk.d.symm, lk.u.symm⟩), g2.sat.eo.ns, GI G genv ρ I L vs i, g2, GI.stable hc hfl hP hI' hL, fun _ s₃ c₃ g₃ => hk _ _ ?_⟩
    refine seg_execs_nil (seg_again rfl ?_)
    exact ih (j + 1) s₃ s₃ fs (by (first | lia | omega)) (by (first | lia | omega)) lk hfs hfg hA (c₃.wake hm g₃.sat.eo hf) g₃ (.refl _) fun o e hs => by
      obtain ⟨o', e', _, hd⟩ := g₃.it
      rw [e'] at e; cases e
      exact hs.nf _ hd
end
end Mine
/-! B22 -/
namespace Mine

theorem Like.symm {A B : Around} (l : Like A B) : Like B A := ⟨l.h.symm, l.f.symm, l.d.symm, l.u.symm⟩
/-- what the name of the last number holds -/
noncomputable def lastD (y : Nat → Int) (j : Nat) : D := if j = 0 then .none else .int (y (j - 1))
theorem lastD_flat (y : Nat → Int) (j : Nat) : Flat (lastD y j) := by unfold lastD; split <;> trivial

section
variable {G : W0} {n m : Nat} {A : Around} {env genv : Env} {s s' s₀ : Shared} {R : GenEnd}

theorem seg_A {P P' : Addr → Prop} {N z : Nat} {y : Nat → Int} {I L : Addr} {vs : List Value} {t1 t2 t3 tt el ei ei2 : Expr} {b1 b3 body : List Stmt} {py pe pw p1 p2 p3 px pa pa2 py2 pe2 : Pos}
    (hf : genv.frame = some genv.locals) (hm : m + 1 ≤ n) (hc : ∀ x, genv.cells.lookup x = none) (hP : P' genv.locals) (hI : P I) (hI' : P' I) (hL : P' L) (hLn : G.base.get? I = none) (hI9 : I ≠ 99)
    (hk1 : genv.kindOf (Str.ofString "interval") = some .local) (hk2 : genv.kindOf (Str.ofString "last_interval") = some .local)
    (hb : body = [.If t1 b1 [] p1, .If t2 [.If t3 b3 [] p3, .While tt [.Expr (.Yield (some el) py) pe] [] pw] [] p2, .Expr (.Yield (some ei) py2) pe2, .Assign [.Name (Str.ofString "last_interval") pa] ei2 pa2])
    (ht1 : ∀ B d x, Tst G m B genv (fun _ => True) [("last_interval", d), ("interval", .int x)] t1 (x == 127))
    (ht2 : ∀ B d x, Tst G m B genv (fun _ => True) [("last_interval", d), ("interval", .int x)] t2 (x == 0))
    (ht3 : ∀ B l x, Tst G m B genv (fun _ => True) [("last_interval", .int l), ("interval", .int x)] t3 false)
    (htt : ∀ B ρ, Tst G m B genv (fun _ => True) ρ tt true) (hel : ∀ B l x, Ev G m B genv (fun _ => True) [("last_interval", .int l), ("interval", .int x)] el (.int l))
    (hei : ∀ B d x, Ev G m B genv (fun _ => True) [("last_interval", d), ("interval", .int x)] ei (.int x)) (hei2 : ∀ B d x, Ev G m B genv (fun _ => True) [("last_interval", d), ("interval", .int x)] ei2 (.int x))
    (hsw : swapsWith ei2 (some (.Name (Str.ofString "last_interval") pa)) pa2.line genv = pure false)
    (hvs : ∀ i, i < z → ∃ t, vs[i]? = some (.int (y i) t)) (hvz : ∃ t, vs[z]? = some (.int 0 t)) (hy0 : ∀ i, i < z → y i ≠ 0 ∧ y i ≠ 127) (hz : 1 ≤ z)
    (hy : ∀ j, z ≤ j → y j = y (z - 1)) (hco : genv.scope.isCoroutine = false)
    (lk : ∀ fs k l p, Like (A.in1.deeper genv) (A.in1.over (.forLoop (.Name (Str.ofString "interval") px) (.ref I) body [] genv) fs) → Like (A.in1.deeper genv) (A.in1.over (.whileLoop tt [.Expr (.Yield (some el) py) pe] [] genv) (.ret k none false l (.forLoop (.Name (Str.ofString "interval") px) (.ref I) body [] genv) p [] :: fs))) :
    ∀ (k j : Nat) (s₀ s : Shared) (fs : List Frame), j + 1 + k = N → j ≤ z → Like (A.in1.deeper genv) (A.in1.over (.forLoop (.Name (Str.ofString "interval") px) (.ref I) body [] genv) fs) → splitAtGen fs = none → fs.any Frame.guarded = false →
      (∃ s, Cx G n A s) → Cx G m (A.in1.deeper genv) s → GI G genv [("last_interval", lastD y j)] I L vs j s → Mod (fun b => b = genv.locals ∨ b = I) s₀ s → (∀ o, s₀.heap.get? I = some o → ¬ IsSeq o) →
      Seg G.M A.in1 R (GY G n A genv P P' N y) (k + 1) s₀ (.forLoop (.Name (Str.ofString "interval") px) (.ref I) body [] genv) (G.M.den (.forLoop (.Name (Str.ofString "interval") px) (.ref I) body [] genv)) fs s := by
  intro k
  induction k using Nat.strongRecOn with
  | _ k ih =>
  intro j s₀ s fs hj hjz lk1 hfs hfg hA cx gi md hns
  have hint : interactive genv = false := by unfold interactive; rw [gi.sat.eo.kind]; rfl
  obtain ⟨kL, hgL⟩ := gi.lst
  obtain ⟨x, t, hx, hxe⟩ : ∃ x t, vs[j]? = some (.int x t) ∧ (j < z → x = y j) ∧ (j = z → x = 0) := by
    by_cases h : j < z
    · obtain ⟨t, e⟩ := hvs j h
      exact ⟨_, t, e, fun _ => rfl, fun e => by (first | lia | omega)⟩
    · obtain ⟨t, e⟩ := hvz
      have : j = z := by (first | lia | omega)
      subst this
      exact ⟨0, t, e, fun h' => absurd h' h, fun _ => rfl⟩
  refine sg_loop (fun v => rfl) (wpAny_pyNext_list_item gi.it (LO.isList hgL) (x := .int x t) (by simpa using hx) fun h' it' hs => ⟨_, rfl, ?_⟩)
  -- the iterator has moved
  have hneI : genv.locals ≠ I := fun q => by
    obtain ⟨mm, o, es, ep, e, hd, _⟩ := gi.sat.eo.ns
    obtain ⟨o', e', _, hd'⟩ := gi.it
    rw [← q] at e'; rw [e] at e'; cases e'; rw [hd] at hd'; cases hd'
  have hneL : L ≠ I := fun q => by
    obtain ⟨o', e', _, hd'⟩ := gi.it
    rw [← q] at e'; rw [hgL] at e'; cases e'; cases hd'
  have c1 : Cx G m (A.in1.deeper genv) { s with heap := h' } := cx.but (I := I) (tk := s.toks) (fun b o hb e => by rw [hs.2 b hb]; exact e) hLn hI9 (fun o q => itr_list gi.it o q)
  have g1 : GI G genv [("last_interval", lastD y j)] I L vs (j + 1) { s with heap := h' } := by
    refine ⟨sat_stable (P := fun b => b ≠ I) hc (fun p hp => by simp at hp; subst hp; exact lastD_flat _ _) hneI s _ gi.sat fun b o hb e => ⟨o.slots, ?_, fun _ => rfl⟩, it', kL, ?_⟩
    · show h'.get? b = _; rw [hs.2 b hb]; exact e
    · show h'.get? L = _; rw [hs.2 L hneL]; exact hgL
  have md1 : Mod (fun b => b = genv.locals ∨ b = I) s₀ { s with heap := h' } := md.trans ⟨fun b o _ hb e => ⟨o.slots, (by show h'.get? b = _; rw [hs.2 b (fun q => hb (.inr q))]; exact e), fun _ => rfl⟩, rfl, fun _ _ e => e⟩
  refine assign_Name (wp_store (c1.like lk1) g1.sat (a := genv.locals) (.inl ⟨hk1, rfl⟩) (d := .int x) (v := .int x t) ⟨t, rfl⟩ (.tail .nil) fun s₁ m1 c2 S2 k2 => fun H => ?_)
  have g2 : GI G genv [("last_interval", lastD y j), ("interval", .int x)] I L vs (j + 1) s₁ := by
    refine ⟨S2, ?_, ?_⟩
    · obtain ⟨o, e, hcl, hd⟩ := g1.it
      exact ⟨o, k2 I o (solid_fields hd) e, hcl, hd⟩
    · obtain ⟨kk, e⟩ := g1.lst
      exact ⟨kk, k2 L _ (IsSeq.solid ⟨_, _, rfl⟩) e⟩
  have md2 := md1.trans (m1.weak (Y := fun b => b = genv.locals ∨ b = I) fun b q => .inl q)
  subst hb
  -- the tests
  have hx127 : (x == 127) = false := by
    by_cases h : j < z
    · rw [hxe.1 h]; simpa using (hy0 j h).2
    · rw [hxe.2 (by (first | lia | omega))]; rfl
  refine seg_execs_cons (sg_if (b := false) (Ev.to (ht1 _ _ x s₁ c2 g2.sat) fun b s₂ h00 => ?_))
  obtain ⟨a3, e⟩ := h00
  refine ⟨e.trans hx127, seg_execs_nil ?_⟩
  have g3 := g2.aft c2 a3
  have md3 := md2.trans a3.1.mod
  by_cases h : j < z
  · have hx0 : (x == 0) = false := by rw [hxe.1 h]; simpa using (hy0 j h).1
    refine seg_execs_cons (sg_if (b := false) (Ev.to (ht2 _ _ x s₂ a3.2 g3.sat) fun b s₃ h00 => ?_))
    obtain ⟨a4, e⟩ := h00
    refine ⟨e.trans hx0, seg_execs_nil ?_⟩
    have g4 := g3.aft a3.2 a4
    have md4 := md3.trans a4.1.mod
    refine seg_execs_cons (seg_Expr_Yield hfs rfl hfg (Ev.to (hei _ _ x s₃ a4.2 g4.sat) fun v s₄ h00 kap hk => ?_) hco hint)
    obtain ⟨a5, r⟩ := h00
    have g5 := g4.aft a4.2 a5
    obtain ⟨t', rfl⟩ := r
    obtain ⟨_, cA⟩ := id hA
    have hfl : ∀ p ∈ [("last_interval", lastD y j), ("interval", D.int x)], Flat p.2 := fun p hp => by
      simp at hp
      rcases hp with q | q <;> subst q
      · exact lastD_flat _ _
      · trivial
    refine ⟨j, hj, ⟨t', by rw [hxe.1 h]⟩, I, hI, hns, md4.trans a5.1.mod, cA.slept (a5.2.like lk1.symm), g5.sat.eo.ns, GI G genv _ I L vs (j + 1), g5, GI.stable hc hfl hP hI' hL, fun h0 s₅ c₅ g₅ => ?_⟩
    obtain ⟨k', rfl⟩ : ∃ k', k = k' + 1 := ⟨k - 1, by (first | lia | omega)⟩
    refine hk _ _ ?_
    have c6 := (c₅.wake hm g₅.sat.eo hf).like lk1
    refine seg_execs_cons (sg_do (wpAny_Assign_Name (Ev.to (hei2 _ _ x s₅ c6 g₅.sat) fun v s₆ h00 => ?_) hsw))
    obtain ⟨a7, r⟩ := h00
    have g7 := g₅.aft c6 a7
    refine wp_store a7.2 g7.sat (a := genv.locals) (.inl ⟨hk2, rfl⟩) r .head fun s₇ m8 c8 S8 k8 => ?_
    refine seg_execs_nil (seg_again rfl ?_)
    have hl : lastD y (j + 1) = .int x := by simp only [lastD, Nat.add_sub_cancel, Nat.add_one_ne_zero, if_false]; rw [hxe.1 h]
    refine ih k' (Nat.lt_succ_self _) (j + 1) s₅ s₇ fs (by (first | lia | omega)) (by (first | lia | omega)) lk1 hfs hfg hA (c8.like lk1.symm) ⟨?_, ?_, ?_⟩ ?_ ?_
    · rw [hl]; exact S8.sub fun p hp => by simp at hp; simp [hp]
    · obtain ⟨o, e, hcl, hd⟩ := g7.it
      exact ⟨o, k8 I o (solid_fields hd) e, hcl, hd⟩
    · obtain ⟨kk, e⟩ := g7.lst
      exact ⟨kk, k8 L _ (IsSeq.solid ⟨_, _, rfl⟩) e⟩
    · exact a7.1.mod.trans (m8.weak fun b q => .inl q)
    · intro o e hs
      obtain ⟨o', e', _, hd⟩ := g₅.it
      rw [e'] at e; cases e
      exact hs.nf _ hd
  · have hjz' : j = z := by (first | lia | omega)
    have hx0 : (x == 0) = true := by rw [hxe.2 hjz']; rfl
    refine seg_execs_cons (sg_if (b := true) (Ev.to (ht2 _ _ x s₂ a3.2 g3.sat) fun b s₃ h00 => ?_))
    obtain ⟨a4, e⟩ := h00
    refine ⟨e.trans hx0, ?_⟩
    have g4 := g3.aft a3.2 a4
    have md4 := md3.trans a4.1.mod
    simp only [if_true]
    have hl : lastD y j = .int (y (z - 1)) := by unfold lastD; rw [if_neg (by (first | lia | omega)), hjz']
    rw [hl] at g4
    refine seg_execs_cons (sg_if (b := false) (Ev.to (ht3 _ _ x s₃ a4.2 g4.sat) fun b s₄ h00 => ?_))
    obtain ⟨a5, e⟩ := h00
    refine ⟨e, seg_execs_nil ?_⟩
    have g5 := g4.aft a4.2 a5
    refine seg_execs_cons (seg_While fun p => ?_)
    refine seg_B (z := z) (l := y (z - 1)) hf hm hc (fun p hp => ?_) hP hI hI' hL (fun B => htt B _) (fun B => hel B _ _) hy hco k j s₀ s₄ _ hj (by (first | lia | omega)) (lk fs _ _ _ lk1) (by simp [splitAtGen, hfs]) (by simpa [Frame.guarded] using hfg) hA (a5.2.like lk1.symm) g5 (md4.trans a5.1.mod) hns
    simp at hp
    rcases hp with q | q <;> subst q <;> trivial
end
end Mine
/-! B23 -/
namespace Mine

noncomputable abbrev PQ (env : Env) (ok : Addr → Prop) : Addr → Prop := fun b => b ≠ 99 ∧ ok b ∧ b ≠ env.locals ∧ ∀ x c, env.cells.lookup x = some c → b ≠ c
noncomputable abbrev PP (G : W0) (env : Env) (ok : Addr → Prop) (s₀ : Shared) (a : Addr) : Addr → Prop := fun b => PQ env ok b ∧ s₀.heap.get? b = none ∧ G.base.get? b = none ∧ b ≠ a
noncomputable abbrev NoEnd : GenEnd := fun n s₀ r s₁ => r = .ok .next ∧ (fun (_ : Nat) (_ _ : Shared) => False) n s₀ s₁

structure FeedN (G : W0) (n : Nat) (A : Around) (env : Env) (ok : Addr → Prop) (s₀ : Shared) (N : Nat) (it : Value) (val : Nat → D → Prop) (Nx : Nat → Shared → Prop) : Prop where
  step : ∀ i s, i < N → (∃ ρ sT, Fst G n A env ok ρ s₀ sT s) → Nx i s → wpAny G.M A (pyNext it) (fun r s₂ => ∃ v, r = some v ∧ (∃ X gi, Tick G n A env ok s₀ s s₂ X gi) ∧ ∃ d, val i d ∧ Rel ok s₂.heap d v ∧ Nx (i + 1) s₂) (fun _ _ => False) s
  frame : ∀ i s s', Cx G n A s → Nx i s → Cx G n A s' → Mod (Mine.Local env ok) s s' → Nx i s'

/-- the generator ahead of its i-th number -/
structure GNx (G : W0) (n : Nat) (A : Around) (env : Env) (ok : Addr → Prop) (s₀ : Shared) (N : Nat) (y : Nat → Int) (genv : Env) (a : Addr) (gi : Nat) (i : Nat) (s : Shared) : Prop where
  isg : s.heap.IsGen a gi
  dict : ∃ mm, s.heap.Ns genv.locals mm
  st : ∃ gs, s.gens[gi]? = some gs ∧ (i < N → ∃ Pv, Pv s ∧ Stable (PQ env ok) Pv ∧ ∀ s'', Cx G n A s'' → Pv s'' → (∀ b, s''.heap.get? b = none → PP G env ok s₀ a b) →
    gs.Goes G.M A.in1 NoEnd (GY G n A genv (PP G env ok s₀ a) (PQ env ok) N y) (N - i) (.send .none) s'')

section
variable {G : W0} {n m : Nat} {A : Around} {env genv : Env} {s s' s₀ sT : Shared} {ok : Addr → Prop} {ρ : List (String × D)}

theorem Cx.setGen (c : Cx G n A s) {g : Nat} {x : GenState} (hb : x.bare = true) : Cx G n A (s.setGen g x) := by
  refine ⟨c.stays, c.tab, c.fr, c.hh, c.dep, c.un, fun y hy => ?_⟩
  have : y ∈ s.gens.setIfInBounds g x := hy
  rcases Array.mem_or_eq_of_mem_setIfInBounds this with h | h
  · exact c.bare y h
  · exact h ▸ hb

theorem local_not {b : Addr} (h : PQ env ok b) : ¬ Mine.Local env ok b := by
  rintro (h' | ⟨x, ⟨_, h'⟩ | ⟨_, h'⟩⟩)
  · exact h' h.2.1
  · exact h.2.2.1 h'
  · exact h.2.2.2 x b h' rfl

theorem feedN {N : Nat} {y : Nat → Int} {a : Addr} {gi : Nat} (ha : PQ env ok a) (hl : PP G env ok s₀ a genv.locals) (hg0 : s₀.gens[gi]? = none) :
    FeedN G n A env ok s₀ N (.ref a) (fun i d => d = .int (y i)) (GNx G n A env ok s₀ N y genv a gi) := by
  refine ⟨fun i s hi ⟨ρ, sT, F⟩ nx => ?_, fun i s s' c nx c' md => ?_⟩
  · obtain ⟨gs, hgs, hgo⟩ := nx.st
    obtain ⟨Pv, hPv, hst, hgo⟩ := hgo hi
    have cr : Cx G n A (s.setGen gi .running) := F.cx.setGen rfl
    have hfr : ∀ b, (s.setGen gi .running).heap.get? b = none → PP G env ok s₀ a b := fun b e => by
      have e' : s.heap.get? b = none := e
      have h9 := F.cx.not99 e'
      refine ⟨⟨h9, F.sat.fresh b e', fun q => ?_, fun x c q q' => ?_⟩, F.ext.kept.none h9 e', ?_, ?_⟩
      · subst q; obtain ⟨mm, o, es, ep, e2, _⟩ := F.sat.eo.ns; rw [e'] at e2; cases e2
      · subst q'; obtain ⟨⟨v, o, e2, _⟩, _⟩ := F.sat.eo.cells x b q; rw [e'] at e2; cases e2
      · cases q : G.base.get? b with
        | none => rfl
        | some o => rw [F.cx.stays b o q] at e'; cases e'
      · rintro rfl
        obtain ⟨o, _, _, e2, _⟩ := nx.isg
        rw [e'] at e2; cases e2
    have go := hgo (s.setGen gi .running) cr (hst s _ hPv fun b o _ e => ⟨o.slots, e, fun _ => rfl⟩) hfr
    obtain ⟨k, hk⟩ : ∃ k, N - i = k + 1 := ⟨N - i - 1, ar_pred (by assumption)⟩
    rw [hk] at go
    have hdep := F.cx.dep
    refine wpAny_pyNext_genexpQ (P := fun _ _ _ => False) F.cx.hh (G.nolim.keeps F.cx.stays) (by show A.depth < 1000; omega) nx.isg hgs go (fun v s₁ gs' hb hv => ⟨v, rfl, ?_⟩) fun _ h => h.elim
    obtain ⟨j, hj, ⟨t, rfl⟩, I, hI, hns, md, cA, hd, Pv', hPv', hst', hkap⟩ := hv
    have hji : j = i := ar_same hj hk
    subst hji
    obtain ⟨mm, o, es, ep, e1, e2, _⟩ := nx.dict
    have hX : ∀ b, b = genv.locals ∨ b = I → PP G env ok s₀ a b := fun b q => by rcases q with rfl | rfl; exact hl; exact hI
    have hgsz : gi < s.gens.size := (Array.getElem?_eq_some_iff.mp hgs).1
    refine ⟨⟨fun b => b = genv.locals ∨ b = I, gi, ⟨cA.setGen hb, fun b o h9 hx e => md.kept b o h9 hx e, md.os, fun i g hne e => ?_, fun b q => (hX b q).2.1, fun b q => (hX b q).1.2.1, fun q => (hX _ q).1.2.2.1 rfl, fun x c q q' => (hX c q').1.2.2.2 x c q rfl, fun b o q e => ?_, hg0⟩⟩, _, rfl, ⟨t, rfl⟩, ?_, hd, gs', ?_, fun hlt => ⟨Pv', hst' _ _ hPv' fun b o _ e => ⟨o.slots, e, fun _ => rfl⟩, hst', fun s'' c'' p'' hf'' => ?_⟩⟩
    · have : (s.setGen gi .running).gens[i]? = some g := by
        show (s.gens.setIfInBounds gi _)[i]? = _
        rw [Array.getElem?_setIfInBounds_ne (Ne.symm hne)]; exact e
      have := md.gens i g this
      show (s₁.gens.setIfInBounds gi _)[i]? = _
      rw [Array.getElem?_setIfInBounds_ne (Ne.symm hne)]; exact this
    · rcases q with rfl | rfl
      · rw [e1] at e; cases e; exact fun hs => hs.nd _ _ e2
      · exact hns o e
    · obtain ⟨o, nm, qn, e, h1, h2, h3⟩ := nx.isg
      obtain ⟨sl, e1', f1⟩ := md.kept a o ha.1 (fun q => (hX a q).2.2.2 rfl) e
      have hn : NotDict o := fun es ep q => by rw [h2] at q; cases q
      rw [f1 hn] at e1'
      exact ⟨o, nm, qn, e1', h1, h2, h3⟩
    · have : (s.setGen gi .running).gens[gi]? = some .running := setGen_self hgs
      exact setGen_self (md.gens _ _ this)
    · have := hkap (by omega) s'' c'' p''
      rw [show N - (j + 1) = k from ar_step hk]
      exact this
  · refine ⟨?_, ?_, ?_⟩
    · obtain ⟨o, nm, qn, e, h1, h2, h3⟩ := nx.isg
      obtain ⟨sl, e1, f1⟩ := md.kept a o ha.1 (local_not ha) e
      have hn : NotDict o := fun es ep q => by rw [h2] at q; cases q
      rw [f1 hn] at e1
      exact ⟨o, nm, qn, e1, h1, h2, h3⟩
    · obtain ⟨mm, o, es, ep, e, hd, r⟩ := nx.dict
      obtain ⟨sl, e1, f1⟩ := md.kept _ o hl.1.1 (local_not hl.1) e
      exact ⟨mm, _, es, ep, e1, hd, r⟩
    · obtain ⟨gs, hgs, hgo⟩ := nx.st
      refine ⟨gs, md.gens _ _ hgs, fun hi => ?_⟩
      obtain ⟨Pv, hPv, hst, hgo⟩ := hgo hi
      exact ⟨Pv, hst _ _ hPv fun b o hb e => md.kept b o hb.1 (local_not hb) e, hst, hgo⟩
end
end Mine
/-! B24 -/
namespace Mine

section
variable {G : W0} {n m : Nat} {A : Around} {env genv : Env} {s s' s₀ sT : Shared} {ok : Addr → Prop} {ρ : List (String × D)}

/-- a generator is made -/
theorem enter_gen {fa : Addr} {body : List Stmt} {sc : Scope} {args : Args} {binds : List (Str × Value)} {R : Result → Shared → Prop}
    (c : Cx G (n + 1) A s) (hdef : isDef (KK G) fa = true) (hbody : (fdOf (KK G) fa).body = .stmts body) (hsc : (fdOf (KK G) fa).scope = sc) (hgen : sc.isGenerator = true)
    (hbind : ∀ S, peek (KK G) S (bindArgs (fdOf (KK G) fa) args) = some binds) (hnd : (binds.map (·.1)).Nodup) (hkind : (binds.map (·.1)).all (fun x => sc.names.lookup x == some .local) = true) (hloc : (sc.names.all fun y => y.2 != .cell) = true) (hb : BRel s.heap binds ρ)
    (h : ∀ genv s₁ a, genv.scope = sc → genv.frame = some genv.locals → (∀ x, genv.cells.lookup x = none) → s.heap.get? genv.locals = none → s.heap.get? a = none → a ≠ genv.locals → Sat G (fun _ => True) genv ρ s₁ → Aft G (n + 1) A s s₁ → s₁.heap.IsGen a s.gens.size → s₁.gens[s.gens.size]? = some (.fresh (.func body genv)) →
      R (.ok (.ret (.ref a))) s₁) :
    codeAny G.M A (.call (.ref fa) args) R s := by
  unfold isDef at hdef
  split at hdef
  · rename_i oc od fd sl hl
    have e0 : fdOf (KK G) fa = fd := by unfold fdOf; rw [hl]
    rw [e0] at hbody hsc hbind
    subst hsc
    simp only [Bool.and_eq_true, beq_iff_eq, decide_eq_true_eq, Bool.not_eq_true', List.isEmpty_iff] at hdef
    obtain ⟨⟨⟨⟨⟨⟨h1, h2⟩, h3⟩, h4⟩, h5⟩, h6⟩, h7⟩ := hdef
    have ho := c.K _ _ hl
    have hlim : s.heap.NoLimit := G.nolim.keeps c.stays
    have hdep := c.dep
    refine codeAny_call_generator (by show A.depth < 1000; (first | lia | omega)) ho rfl h3 hgen hbody (codeRec_of c.K h1) ?_
    refine (kp_binds c.K hbind) _ _ _ _ ?_
    rw [h2]
    have hk' : ∀ x ∈ binds, fd.scope.names.lookup x.1 = some .local ∨ (fd.scope.names.lookup x.1 = some .cell ∧ ((cellsFrom (s.heap.objs.size + 1) fd.scope.names []).lookup x.1).isSome = true) := fun x hx => by
      have := List.all_eq_true.mp hkind x.1 (List.mem_map_of_mem hx)
      exact .inl (by simpa using this)
    refine wpAny_newFunctionEnv_cells h4 hk' fun env he s' x => ?_
    have hce : env = callEnvC fd s.heap.objs.size fa := he
    subst hce
    have hns := x.toInCall.ns
    obtain ⟨hh, tk, rfl⟩ := x.toInCall.same
    have none' : ∀ {b : Addr}, s.heap.objs.size ≤ b → s.heap.get? b = none := fun {b} hb => by
      cases q : s.heap.get? b with
      | none => rfl
      | some o => exact absurd (Heap.lt_size q) (Nat.not_lt.mpr hb)
    have base : ∀ {b : Addr}, s.heap.get? b = none → G.base.get? b = none := fun {b} e => by
      cases q : G.base.get? b with
      | none => rfl
      | some o => rw [c.stays b o q] at e; cases e
    have hLn : s.heap.get? (callEnvC fd s.heap.objs.size fa).locals = none := none' (Nat.le_refl _)
    have hcn : ∀ y, (callEnvC fd s.heap.objs.size fa).cells.lookup y = none := fun y => by
      show (cellsFrom (s.heap.objs.size + 1) fd.scope.names []).lookup y = none
      rw [cells_free _ _ _ _ fun k hk => by have := List.all_eq_true.mp hloc _ hk; simpa using this]; rfl
    have hlt : (callEnvC fd s.heap.objs.size fa).locals < hh.objs.size := hns.lt
    have k1 : ∀ b o, s.heap.get? b = some o → hh.get? b = some o := x.toInCall.keep
    refine ⟨hlim.keeps k1, ?_⟩
    have aP := c.keeps (h' := hh.push { cls := .type "generator", data := .fields #[.int s.gens.size 0, .str fd.name tk, .str fd.qualname (tk + 1)] }) (tk := tk + 1 + 1) fun b o e => Heap.get?_push_of_some _ (k1 b o e)
    have cP : Cx G (n + 1) A { s with heap := hh.push { cls := .type "generator", data := .fields #[.int s.gens.size 0, .str fd.name tk, .str fd.qualname (tk + 1)] }, toks := tk + 1 + 1, gens := s.gens.push (.fresh (.func body (callEnvC fd s.heap.objs.size fa))) } :=
      ⟨aP.2.stays, aP.2.tab, aP.2.fr, aP.2.hh, aP.2.dep, aP.2.un, aP.2.bare.push rfl⟩
    have hns' : (hh.push { cls := .type "generator", data := .fields #[.int s.gens.size 0, .str fd.name tk, .str fd.qualname (tk + 1)] }).Ns (callEnvC fd s.heap.objs.size fa).locals (bindL (callEnvC fd s.heap.objs.size fa).kindOf binds fun _ => none) := hns.push _
    refine h (callEnvC fd s.heap.objs.size fa) _ hh.objs.size rfl rfl hcn hLn (none' (by have : s.heap.objs.size < hh.objs.size := hlt; (first | lia | omega))) (Nat.ne_of_gt hlt) ⟨⟨h4, h5, h6, ⟨_, hns'⟩, base hLn, fun y cc q => (by rw [hcn] at q; cases q), fun y z cc q q' => (by rw [hcn] at q; cases q)⟩, fun _ _ => trivial, fun p hp => ?_⟩
      ⟨⟨aP.1.kept, rfl, fun i g e => ?_⟩, cP⟩ ⟨_, _, _, Heap.get?_push_size _ rfl, rfl, rfl, rfl⟩ (Array.getElem?_push_size ..)
    · obtain ⟨v, hm, r⟩ := hb.mem p hp
      refine ⟨v, ?_, r.kept c.tab aP.1.kept⟩
      rcases hk' _ hm with q | ⟨q, q2⟩
      · exact .inl ⟨q, _, hns', bindL_get _ hnd hm q⟩
      · have := List.all_eq_true.mp hkind _ (List.mem_map_of_mem hm)
        exact absurd (by simpa using this) (by rw [q]; nofun : ¬ (fd.scope.names.lookup (Str.ofString p.1) = some .local))
    · show (s.gens.push _)[i]? = _
      have := (Array.getElem?_eq_some_iff.mp e).1
      rw [Array.getElem?_push_lt this, ← e]
      exact (Array.getElem?_eq_getElem this).symm
  · cases hdef
end
end Mine
/-! B25 -/
namespace Mine

theorem d68 (P : Params) : isDef (hd.heap_1 P) 68 = true := by kernel_rfl
theorem b68 (P : Params) : (fdOf (hd.heap_1 P) 68).body = .stmts (bodyOf (stAt 11)) := by kernel_rfl
theorem s68 (P : Params) : (fdOf (hd.heap_1 P) 68).scope = scopeOf (stAt 11) := by kernel_rfl

section
variable {G : W0} {n m : Nat} {A : Around} {env genv : Env} {s s' s₀ sT : Shared} {ok : Addr → Prop} {ρ : List (String × D)} {R : GenEnd}

theorem Cx.base_none (c : Cx G n A s) {b : Addr} (e : s.heap.get? b = none) : G.base.get? b = none := by
  cases q : G.base.get? b with
  | none => rfl
  | some o => rw [c.stays b o q] at e; cases e
theorem Ev.at {e : Expr} {d : D} (h : Ev G n A env ok ρ e d) (c : Cx G n A s) (S : Sat G ok env ρ s) : wpAny G.M A (eval e env) (fun v s' => Aft G n A s s' ∧ Rel ok s'.heap d v) (fun _ _ => False) s := h s c S
theorem seg_0 {P P' : Addr → Prop} {k z : Nat} {y : Nat → Int} {L : Addr} {vs : List Value}
    (hsc : genv.scope = scopeOf (stAt 11)) (hf : genv.frame = some genv.locals) (hm : m + 1 ≤ n) (hc : ∀ x, genv.cells.lookup x = none) (hP : P' genv.locals) (hL : P' L)
    (hvs : ∀ i, i < z → ∃ t, vs[i]? = some (.int (y i) t)) (hvz : ∃ t, vs[z]? = some (.int 0 t)) (hy0 : ∀ i, i < z → y i ≠ 0 ∧ y i ≠ 127) (hz : 1 ≤ z) (hy : ∀ j, z ≤ j → y j = y (z - 1))
    (c : Cx G n A s) (S : Sat G (fun _ => True) genv [("grouping", .val (.ref L))] s) (hl : ∃ kk, s.heap.get? L = some (LO vs kk)) (hfr : ∀ b, s.heap.get? b = none → P b ∧ P' b) :
    Seg G.M A.in1 R (GY G n A genv P P' (k + 1) y) (k + 1) s (.func (bodyOf (stAt 11)) genv) (G.M.den (.func (bodyOf (stAt 11)) genv)) [] s := by
  have kx : ∀ (x : Str) (kd : NameKind), (scopeOf (stAt 11)).names.lookup x = some kd → genv.kindOf x = some kd := fun x kd h => by
    show genv.scope.names.lookup x = _
    rw [hsc]; exact h
  have cA := c.wake hm S.eo hf
  have lk0 : Like (A.in1.deeper genv) (A.in1.over (.func (bodyOf (stAt 11)) genv) []) := by
    refine ⟨rfl, rfl, ?_, ?_⟩
    · show A.in1.depth + 1 = A.in1.depth + 0 + 1; (first | lia | omega)
    · show A.in1.units + 3 = A.in1.units + 0 + 3; (first | lia | omega)
  refine seg_func (seg_execs_cons (sg_do (wpAny_Assign_Name (Ev.to (ev_none.at (cA.like lk0) S) fun v s₁ h00 => ?_) rfl)))
  obtain ⟨a1, r1⟩ := h00
  have S1 := S.aft (cA.like lk0) a1
  refine wp_store a1.2 S1 (a := genv.locals) (.inl ⟨kx _ _ (by kernel_rfl), rfl⟩) r1 (.tail .nil) fun s₂ m2 c2 S2 k2 => ?_
  obtain ⟨kk, hgL⟩ := hl
  have hg1 : s₁.heap.get? L = some (LO vs kk) := a1.1.kept.get (ne_tab c.tab hgL fun _ q => by cases q) hgL fun es ep q => by cases q
  have hg2 := k2 L _ (IsSeq.solid ⟨_, _, rfl⟩) hg1
  refine seg_execs_cons (sg_for rfl (Ev.to ((ev_name (.head _)).at c2 S2) fun v s₃ h00 => ?_))
  obtain ⟨a3, r3⟩ := h00
  obtain rfl := r3
  have S3 := S2.aft c2 a3
  have hg3 : s₃.heap.get? L = some (LO vs kk) := a3.1.kept.get (ne_tab c2.tab hg2 fun _ q => by cases q) hg2 fun es ep q => by cases q
  refine wpAny_pyIter_list (LO.isList hg3) fun k' l' p' => ?_
  have a4 := a3.2.keeps (h' := s₃.heap.push { cls := .type "list_iterator", data := .fields #[.ref L, .int 0 0] }) (tk := s₃.toks) fun b o e => Heap.get?_push_of_some _ e
  have S4 := S3.aft a3.2 a4
  have hI3 : s₃.heap.get? s₃.heap.objs.size = none := no_get
  have hI2 : s₂.heap.get? s₃.heap.objs.size = none := a3.1.kept.none (a3.2.not99 hI3) hI3
  have hI1 : s₁.heap.get? s₃.heap.objs.size = none := by
    cases q : s₁.heap.get? s₃.heap.objs.size with
    | none => rfl
    | some o =>
      by_cases hne : s₃.heap.objs.size = genv.locals
      · obtain ⟨mm, o', es, ep, e, _⟩ := S3.eo.ns
        rw [hne] at hI3; rw [e] at hI3; cases hI3
      · obtain ⟨sl, e1, _⟩ := m2.kept _ o (a3.2.not99 hI3) hne q
        rw [hI2] at e1; cases e1
  have hI0 : s.heap.get? s₃.heap.objs.size = none := a1.1.kept.none (a3.2.not99 hI3) hI1
  have hIP := hfr _ hI0
  refine seg_A (P := P) (P' := P') (z := z) (vs := vs) hf hm hc hP hIP.1 hIP.2 hL ?_ (a3.2.not99 hI3) (kx _ _ (by kernel_rfl)) (kx _ _ (by kernel_rfl)) rfl
    (fun B d x => tst_cmp (ev_name (.tail _ (.head _))) (ev_globI (kx _ _ (by kernel_rfl)) (i := 127) (t := 285) (by kernel_rfl)) cmp_eq)
    (fun B d x => tst_cmp (ev_name (.tail _ (.head _))) ev_int cmp_eq)
    (fun B l x => tst_cmp (ev_name (.head _)) ev_none cmp_isNotI)
    (fun B ρ s c S => isTrue_plain (by rw [eval_Constant]; exact wpAny_pure (wpAny_truthy_bool ⟨c.refl, rfl⟩)) rfl)
    (fun B l x => ev_name (.head _)) (fun B d x => ev_name (.tail _ (.head _))) (fun B d x => ev_name (.tail _ (.head _))) rfl hvs hvz hy0 hz hy (by rw [hsc]; kernel_rfl)
    (fun fs k l p lk => ⟨lk.h, lk.f, ?_, ?_⟩) k 0 s _ _ (by (first | lia | omega)) (Nat.zero_le _) ⟨rfl, rfl, ?_, ?_⟩ rfl rfl ⟨s, c⟩ (a4.2.like lk0.symm) ⟨?_, ⟨_, Heap.get?_push_size _ rfl, rfl, rfl⟩, kk, Heap.get?_push_of_some _ hg3⟩ ?_ ?_
  · exact a3.2.base_none hI3
  · have h1 : A.in1.depth + 1 = A.in1.depth + frameCount (fs.map Frame.where_) + 0 := lk.d
    show A.in1.depth + 1 = A.in1.depth + frameCount ((_, _) :: fs.map Frame.where_) + 0
    rw [frameCount_cons]
    show A.in1.depth + 1 = A.in1.depth + (0 + _) + 0
    (first | lia | omega)
  · have h1 : A.in1.units + 3 = A.in1.units + unitsOf (fs.map Frame.where_) + 0 := lk.u
    show A.in1.units + 3 = A.in1.units + unitsOf ((_, _) :: fs.map Frame.where_) + 0
    rw [unitsOf_cons]
    show A.in1.units + 3 = A.in1.units + (0 + _) + 0
    (first | lia | omega)
  · show A.in1.depth + 1 = A.in1.depth + 1 + 0; (first | lia | omega)
  · show A.in1.units + 3 = A.in1.units + 3 + 0; (first | lia | omega)
  · exact S4.sub fun p hp => by simp [lastD] at hp ⊢; simp [hp]
  · exact (((a1.1.mod.trans (m2.weak fun b q => .inl q)).trans a3.1.mod).trans a4.1.mod)
  · intro o e; rw [hI0] at e; cases e
end
end Mine
/-! B26 -/
namespace Mine

/-- the j-th number that the generator gives of pre, 0, … -/
noncomputable def gY (pre : List Int) (j : Nat) : Int := pre.getD (min j (pre.length - 1)) 0

theorem zs_app {a b : List Int} : zs (a ++ b) = zs a ++ zs b := List.map_append

section
variable {G : W0} {n m : Nat} {A : Around} {env genv : Env} {s s' s₀ sT : Shared} {ok : Addr → Prop} {ρ : List (String × D)} {R : GenEnd}

theorem fresh_PQ (c : Cx G n A s) (S : Sat G ok env ρ s) {b : Addr} (e' : s.heap.get? b = none) : PQ env ok b := by
  refine ⟨c.not99 e', S.fresh b e', fun q => ?_, fun x c q q' => ?_⟩
  · subst q; obtain ⟨mm, o, es, ep, e2, _⟩ := S.eo.ns; rw [e'] at e2; cases e2
  · subst q'; obtain ⟨⟨v, o, e2, _⟩, _⟩ := S.eo.cells x b q; rw [e'] at e2; cases e2
theorem list_PQ (c : Cx G n A s) (S : Sat G ok env ρ s) {b : Addr} {vs : List Value} {k : Nat} (hb : ok b) (e' : s.heap.get? b = some (LO vs k)) : PQ env ok b := by
  refine ⟨ne_tab c.tab e' (fun _ q => by cases q), hb, fun q => ?_, fun x c q q' => ?_⟩
  · subst q; obtain ⟨mm, o, es, ep, e2, hd, _⟩ := S.eo.ns; rw [e'] at e2; cases e2; cases hd
  · subst q'; obtain ⟨⟨v, o, e2, hd⟩, _⟩ := S.eo.cells x b q; rw [e'] at e2; cases e2; cases hd

theorem wp_evalArgs1 {pos : Pos} {f : Value} {e : Expr} {Q : Args → Shared → Prop} {E : Value → Shared → Prop} (hstar : ∀ rest : List Expr, starEach (e :: rest) env = (false, eval e env) :: starEach rest env)
    (h : wpAny G.M A (eval e env) (fun v s' => Q ⟨[v], []⟩ s') E s) : wpAny G.M A (evalArgs f true (backTo pos (starEach [e] env)) (backToKw pos (keywordEach [] env))) Q E s := by
  rw [hstar]
  simp only [starEach, backTo, List.map_cons, List.map_nil]
  refine evalArgs_kw rfl ?_
  simp only [spliced, Bool.false_eq_true, if_false]
  refine wpAny_bind (wpAny_mono h (fun v s₁ h₁ => ?_) fun _ _ x => x)
  refine wpAny_bind (wpAny_pure (wpAny_bind (wpAny_holding ?_)))
  first | exact wpAny_pure (wpAny_pure (wpAny_evalAll_nil h₁)) | exact wpAny_pure (wpAny_bind (wpAny_pure (wpAny_pure (wpAny_evalAll_nil h₁))))

theorem gen_srcW {func : Str} {fpos pos : Pos} {e : Expr} {pre post : List Int} (F : Fst G (n + 1) A env ok ρ s₀ sT s) (hf : Ev G (n + 1) A env ok ρ (.Name func fpos) (.val (.ref 68))) (he : ∀ s₁, Aft G (n + 1) A s s₁ → wpAny G.M A (eval e env) (fun v s' => Aft G (n + 1) A s₁ s' ∧ Rel ok s'.heap (.list (zs (pre ++ 0 :: post))) v) (fun _ _ => False) s₁)
    (hpre : pre ≠ []) (h0 : ∀ x ∈ pre, x ≠ 0 ∧ x ≠ 127) (N : Nat) (hne : ∃ e' r, [e] = e' :: r ∧ ∀ rest : List Expr, starEach (e' :: rest) env = (false, eval e' env) :: starEach rest env := by exact ⟨_, _, rfl, fun _ => rfl⟩) :
    wpAny G.M A (eval (.Call (.Name func fpos) [e] [] pos) env) (fun x s₁ => wpAny G.M A (pyIter x) (fun it s₂ => Aft G (n + 1) A s s₂ ∧ ∃ Nx, FeedN G (n + 1) A env ok s₀ N it (fun i d => d = .int (gY pre i)) Nx ∧ Nx 0 s₂) (fun _ _ => False) s₁) (fun _ _ => False) s := by
  refine wpAny_Call_Name_kw (Ev.to (hf.at F.cx F.sat) fun v s₁ h00 => ?_)
  obtain ⟨a1, r1⟩ := h00
  obtain rfl := r1
  have F1 := F.aft a1
  obtain ⟨o, fd, ho, hd⟩ := isDef_there (G := G) (n := n + 1) (A := A) (d68 G.w.params) s₁ a1.2
  have hstar : ∀ rest : List Expr, starEach (e :: rest) env = (false, eval e env) :: starEach rest env := by
    obtain ⟨e', r, h1, h2⟩ := hne
    cases h1; exact h2
  refine callWith_function_kw (wp_evalArgs1 hstar (Ev.to (he s₁ a1) fun va s₂ ⟨a2, ra⟩ => ⟨⟨?_, hd⟩, ?_⟩))
  · refine a2.1.kept.get (ne_tab a1.2.tab ho fun ws q => by rw [hd] at q; cases q) ho fun es ep q => by rw [hd] at q; cases q
  have F2 := F1.aft a2
  obtain ⟨L, vs, kk, rfl, hokL, hgL, rr⟩ := ra
  have hPL := list_PQ F2.cx F2.sat hokL hgL
  refine wpAny_call (enter_gen (n := n) F2.cx (d68 _) (b68 _) (s68 _) (by kernel_rfl) (binds := [(Str.ofString "grouping", .ref L)]) (fun S => by kernel_rfl) (by simp) (by kernel_rfl) (by kernel_rfl)
    (ρ := [("grouping", .val (.ref L))]) (.cons (by simp only [Rel]) .nil) fun genv s₃ a hsc hfr hc hgl han hal S3 a3 hgen hgs => ?_)
  refine wpAny_pyIter_gen hgen ?_
  have F3 := F2.aft a3
  have hPa := fresh_PQ F2.cx F2.sat han
  have hPg := fresh_PQ F2.cx F2.sat hgl
  have none0 : ∀ {b : Addr}, s₂.heap.get? b = none → s₀.heap.get? b = none := fun {b} h => F2.ext.kept.none (F2.cx.not99 h) h
  have hgi : s₀.gens[s₂.gens.size]? = none := F2.gens0 _ (Array.getElem?_eq_none (Nat.le_refl _))
  have hgL3 : s₃.heap.get? L = some (LO vs kk) := a3.1.kept.get hPL.1 hgL fun es ep q => by cases q
  have hlen : vs.length = pre.length + 1 + post.length := by
    have := rr.length
    simp [zs] at this
    (first | lia | omega)
  have hp1 : 1 ≤ pre.length := by cases pre with
    | nil => exact absurd rfl hpre
    | cons => simp
  have item : ∀ i x, (pre ++ 0 :: post)[i]? = some x → ∃ t, vs[i]? = some (Value.int x t) := fun i x h => by
    obtain ⟨v, e, r⟩ := rr.get (i := i) (d := .int x) (by rw [zs, List.getElem?_map, h]; rfl)
    obtain ⟨t, rfl⟩ := r
    exact ⟨t, e⟩
  refine ⟨(a1.trans a2).trans a3, _, feedN (N := N) (y := gY pre) (genv := genv) hPa ⟨hPg, none0 hgl, F2.cx.base_none hgl, hal.symm⟩ hgi, hgen, S3.eo.ns, _, hgs, fun hN => ⟨fun s => Sat G (fun _ => True) genv [("grouping", .val (.ref L))] s ∧ ∃ kk, s.heap.get? L = some (LO vs kk), ⟨S3, kk, hgL3⟩, fun x y ⟨h1, k, h2⟩ h => ⟨sat_stable hc (fun p hp => ?_) hPg x y h1 h, k, ?_⟩, fun s'' c'' ⟨p1, p2⟩ hf'' => ⟨rfl, ?_⟩⟩⟩
  · simp at hp; subst hp; trivial
  · obtain ⟨sl, e1, f1⟩ := h L _ hPL h2
    rw [f1 fun es ep q => by cases q] at e1
    exact e1
  · obtain ⟨N', rfl⟩ : ∃ N', N = N' + 1 := ⟨N - 1, by (first | lia | omega)⟩
    refine seg_0 (z := pre.length) (vs := vs) hsc hfr (Nat.le_refl _) hc hPg hPL (fun i hi => ?_) (item _ _ ?_) (fun i hi => ?_) hp1 (fun j hj => ?_) c'' p1 p2 fun b hb => ⟨hf'' b hb, (hf'' b hb).1⟩
    · refine item i _ ?_
      rw [List.getElem?_append_left hi, List.getElem?_eq_getElem hi, gY, Nat.min_eq_left (by (first | lia | omega)), List.getD_eq_getElem?_getD, List.getElem?_eq_getElem hi]; rfl
    · rw [List.getElem?_append_right (Nat.le_refl _), Nat.sub_self]; rfl
    · have : gY pre i ∈ pre := by
        rw [gY, Nat.min_eq_left (by (first | lia | omega)), List.getD_eq_getElem?_getD, List.getElem?_eq_getElem hi]
        exact List.getElem_mem hi
      exact h0 _ this
    · unfold gY; congr 1; (first | lia | omega)
theorem gen_src {func : Str} {fpos pos : Pos} {e : Expr} {pre post : List Int} (F : Fst G (n + 1) A env ok ρ s₀ sT s) (hf : Ev G (n + 1) A env ok ρ (.Name func fpos) (.val (.ref 68))) (he : Ev G (n + 1) A env ok ρ e (.list (zs (pre ++ 0 :: post))))
    (hpre : pre ≠ []) (h0 : ∀ x ∈ pre, x ≠ 0 ∧ x ≠ 127) (N : Nat) (hne : ∃ e' r, [e] = e' :: r ∧ ∀ rest : List Expr, starEach (e' :: rest) env = (false, eval e' env) :: starEach rest env := by exact ⟨_, _, rfl, fun _ => rfl⟩) :
    wpAny G.M A (eval (.Call (.Name func fpos) [e] [] pos) env) (fun x s₁ => wpAny G.M A (pyIter x) (fun it s₂ => Aft G (n + 1) A s s₂ ∧ ∃ Nx, FeedN G (n + 1) A env ok s₀ N it (fun i d => d = .int (gY pre i)) Nx ∧ Nx 0 s₂) (fun _ _ => False) s₁) (fun _ _ => False) s :=
  gen_srcW F hf (fun s₁ x => he.at (F.aft x).cx (F.aft x).sat) hpre h0 N hne
end
end Mine
/-! B27 -/
namespace Mine
section
variable {G : W0} {n : Nat} {A : Around} {env : Env} {ok : Addr → Prop} {ρ : List (String × D)} {s s₀ sT : Shared} {rest : List Stmt} {Q : Flow → Shared → Prop} {E : Value → Shared → Prop}

/-- a for-loop over a feed without end, left by break or return -/
theorem st_forN {t iter : Expr} {body : List Stmt} {pos : Pos} {val : Nat → D → Prop} (J : Nat → Shared → Shared → Prop) (N : Nat)
    (hsrc : wpAny G.M A (eval iter env) (fun x s₁ => wpAny G.M A (pyIter x) (fun it s₂ => ∃ Nx, FeedN G n A env ok s₀ N it val Nx ∧ Nx 0 s₂ ∧ J 0 s₂ s₂) (fun _ _ => False) s₁) (fun _ _ => False) s)
    (hcx : ∀ i sT s, J i sT s → ∃ ρ, Fst G n A env ok ρ s₀ sT s)
    (htick : ∀ i sT s s' X gi, J i sT s → Tick G n A env ok s₀ s s' X gi → J i s' s')
    (hN : ∀ i sT s, J i sT s → i < N)
    (turn : ∀ i d s₁ v, val i d → J i s₁ s₁ → Rel ok s₁.heap d v → wpAny G.M A (assign t env v) (fun _ s₂ => wpAny G.M A (execs body env) (fun f s₃ => match f with
      | .next | .cont => J (i + 1) s₁ s₃
      | .brk => wpAny G.M A (execs rest env) Q E s₃
      | .ret v => Q (.ret v) s₃) (fun _ _ => False) s₂) (fun _ _ => False) s₁)
    (hlet : ∀ it v, letOwnedTupleGo t it v = pure () := by intro _ _; rfl)
    (hs : ∀ x, foldedSetIterable iter env x = pure x := by intro _; rfl) :
    wpAny G.M A (execs (.For t iter body [] pos :: rest) env) Q E s := by
  refine st_of (wpAny_For (Ev.to hsrc fun x s₁ h₁ => Ev.to h₁ fun it s₂ h00 => ?_) hs)
  obtain ⟨Nx, fd, hNx, hJ⟩ := h00
  refine codeAny_forLoop_any (fun k s' => ∃ i sT, k = N + 1 - i ∧ i ≤ N ∧ Nx i s' ∧ J i sT s') ?_ (N + 1) ⟨0, s₂, rfl, Nat.zero_le _, hNx, hJ⟩
  rintro k s' ⟨i, sT, rfl, hi, hNx, hJ⟩
  obtain ⟨ρ', F'⟩ := hcx _ _ _ hJ
  refine Ev.to (fd.step i s' (hN _ _ _ hJ) ⟨ρ', _, F'⟩ hNx) fun r s₁ h₁ => ?_
  obtain ⟨v, rfl, ⟨X, gi, tk⟩, d, hd, rd, hNx'⟩ := h₁
  dsimp only
  rw [hlet it v]
  refine wpAny_pure ?_
  have hJ' := htick _ _ _ _ _ _ hJ tk
  obtain ⟨ρ1, F1⟩ := hcx _ _ _ hJ'
  refine Ev.to (turn i d s₁ v hd hJ' rd) fun _ s₄ h₄ => Ev.to h₄ fun f s₅ h₅ => ?_
  have go : J (i + 1) s₁ s₅ → ∃ m, m < N + 1 - i ∧ ∃ i sT, m = N + 1 - i ∧ i ≤ N ∧ Nx i s₅ ∧ J i sT s₅ := fun hJ5 => by
    obtain ⟨ρ5, F5⟩ := hcx _ _ _ hJ5
    exact ⟨N + 1 - (i + 1), by have := hN _ _ _ hJ5; omega, i + 1, s₁, rfl, Nat.le_of_lt (hN _ _ _ hJ5), fd.frame _ _ _ F1.cx hNx' F5.cx F5.stb, hJ5⟩
  cases f with
  | next => exact go h₅
  | cont => exact go h₅
  | brk => exact h₅
  | ret v => exact h₅

/-- one own list, names turning -/
theorem st_forN1 {t iter : Expr} {body : List Stmt} {pos : Pos} {val : Nat → D → Prop} {a : Addr} (ρs : Nat → List (String × D)) (L : Nat → List D) (P : Nat → Prop) (N : Nat)
    (hsrc : wpAny G.M A (eval iter env) (fun x s₁ => wpAny G.M A (pyIter x) (fun it s₂ => Aft G n A s s₂ ∧ ∃ Nx, FeedN G n A env ok s₀ N it val Nx ∧ Nx 0 s₂) (fun _ _ => False) s₁) (fun _ _ => False) s)
    (F : Fst G n A env ok (ρs 0) s₀ sT s) (O : Own G ok s₀ s a (L 0)) (hP : P 0) (hN : ∀ i, P i → i < N)
    (turn : ∀ i d s₁ v, val i d → P i → Fst G n A env ok (ρs i) s₀ s₁ s₁ → Own G ok s₀ s₁ a (L i) → Rel ok s₁.heap d v → wpAny G.M A (assign t env v) (fun _ s₂ => wpAny G.M A (execs body env) (fun f s₃ => match f with
      | .next | .cont => P (i + 1) ∧ Fst G n A env ok (ρs (i + 1)) s₀ s₁ s₃ ∧ Own G ok s₀ s₃ a (L (i + 1))
      | .brk => wpAny G.M A (execs rest env) Q E s₃
      | .ret v => Q (.ret v) s₃) (fun _ _ => False) s₂) (fun _ _ => False) s₁)
    (hlet : ∀ it v, letOwnedTupleGo t it v = pure () := by intro _ _; rfl)
    (hs : ∀ x, foldedSetIterable iter env x = pure x := by intro _; rfl) :
    wpAny G.M A (execs (.For t iter body [] pos :: rest) env) Q E s :=
  st_forN (fun i sT s => P i ∧ Fst G n A env ok (ρs i) s₀ sT s ∧ Own G ok s₀ s a (L i)) N (Ev.to hsrc fun x s₁ h => Ev.to h fun it s₂ ⟨x2, Nx, fd, h0⟩ => ⟨Nx, fd, h0, hP, (F.aft x2).reset, O.aft F.cx x2⟩)
    (fun i sT s ⟨_, F, _⟩ => ⟨_, F⟩) (fun i sT s s' X gi ⟨h, F, O⟩ tk => ⟨h, F.tick tk, O.tick F.cx tk⟩) (fun i sT s ⟨h, _⟩ => hN i h)
    (fun i d s₁ v hv ⟨h, F, O⟩ r => turn i d s₁ v hv h F O r) hlet hs

/-- two own lists, names turning -/
theorem st_forN2 {t iter : Expr} {body : List Stmt} {pos : Pos} {val : Nat → D → Prop} {a b : Addr} (ρs : Nat → List (String × D)) (L M : Nat → List D) (P : Nat → Prop) (N : Nat)
    (hsrc : wpAny G.M A (eval iter env) (fun x s₁ => wpAny G.M A (pyIter x) (fun it s₂ => Aft G n A s s₂ ∧ ∃ Nx, FeedN G n A env ok s₀ N it val Nx ∧ Nx 0 s₂) (fun _ _ => False) s₁) (fun _ _ => False) s)
    (F : Fst G n A env ok (ρs 0) s₀ sT s) (O : Own G ok s₀ s a (L 0)) (O' : Own G ok s₀ s b (M 0)) (hP : P 0) (hN : ∀ i, P i → i < N)
    (turn : ∀ i d s₁ v, val i d → P i → Fst G n A env ok (ρs i) s₀ s₁ s₁ → Own G ok s₀ s₁ a (L i) → Own G ok s₀ s₁ b (M i) → Rel ok s₁.heap d v → wpAny G.M A (assign t env v) (fun _ s₂ => wpAny G.M A (execs body env) (fun f s₃ => match f with
      | .next | .cont => P (i + 1) ∧ Fst G n A env ok (ρs (i + 1)) s₀ s₁ s₃ ∧ Own G ok s₀ s₃ a (L (i + 1)) ∧ Own G ok s₀ s₃ b (M (i + 1))
      | .brk => wpAny G.M A (execs rest env) Q E s₃
      | .ret v => Q (.ret v) s₃) (fun _ _ => False) s₂) (fun _ _ => False) s₁)
    (hlet : ∀ it v, letOwnedTupleGo t it v = pure () := by intro _ _; rfl)
    (hs : ∀ x, foldedSetIterable iter env x = pure x := by intro _; rfl) :
    wpAny G.M A (execs (.For t iter body [] pos :: rest) env) Q E s :=
  st_forN (fun i sT s => P i ∧ Fst G n A env ok (ρs i) s₀ sT s ∧ Own G ok s₀ s a (L i) ∧ Own G ok s₀ s b (M i)) N (Ev.to hsrc fun x s₁ h => Ev.to h fun it s₂ ⟨x2, Nx, fd, h0⟩ => ⟨Nx, fd, h0, hP, (F.aft x2).reset, O.aft F.cx x2, O'.aft F.cx x2⟩)
    (fun i sT s ⟨_, F, _⟩ => ⟨_, F⟩) (fun i sT s s' X gi ⟨h, F, O, O'⟩ tk => ⟨h, F.tick tk, O.tick F.cx tk, O'.tick F.cx tk⟩) (fun i sT s ⟨h, _⟩ => hN i h)
    (fun i d s₁ v hv ⟨h, F, O, O'⟩ r => turn i d s₁ v hv h F O O' r) hlet hs
end
end Mine
/-! B28 -/
namespace Mine

theorem d109 (P : Params) : isDef (hd.heap_1 P) 109 = true := by kernel_rfl
theorem b109 (P : Params) : (fdOf (hd.heap_1 P) 109).body = .stmts (bodyOf (stAt 19)) := by kernel_rfl
theorem s109 (P : Params) : (fdOf (hd.heap_1 P) 109).scope = scopeOf (stAt 19) := by kernel_rfl

/-- the place on the ruler behind i marks -/
noncomputable def atM (first step : Nat) : Nat → Int
  | 0 => 0
  | i + 1 => (first : Int) + 1 + i * step
noncomputable def marksF (first step : Nat) (i : Nat) : List Int := (List.range i).map fun (j : Nat) => (first : Int) + j * step

theorem atM_step (first step i : Nat) : atM first step i + gY [(first : Int) + 1, (step : Int)] i = atM first step (i + 1) := by
  cases i with
  | zero => simp [atM, gY]
  | succ i =>
    have : gY [(first : Int) + 1, (step : Int)] (i + 1) = step := by
      unfold gY
      have : min (i + 1) (([(first : Int) + 1, (step : Int)] : List Int).length - 1) = 1 := by simp
      rw [this]; rfl
    rw [this]; simp only [atM]; push_cast; rw [Int.add_mul]; (first | lia | omega)
theorem marksF_step (first step i : Nat) : zs (marksF first step (i + 1)) = zs (marksF first step i) ++ [.int (atM first step (i + 1) - 1)] := by
  simp only [marksF, List.range_succ, List.map_append, zs, List.map_cons, List.map_nil, atM]
  congr 3; (first | lia | omega)

/-- a new list without an item, and a nought -/
noncomputable def PairM (G : W0) (n : Nat) (A : Around) (s₁ : Shared) (v1 v2 : Value) (s' : Shared) : Prop :=
  ∃ a vs k, v1 = .ref a ∧ s₁.heap.get? a = none ∧ (∃ t, v2 = .int 0 t) ∧ Aft G n A s₁ s' ∧ s'.heap.get? a = some (LO vs k) ∧ RelAll (fun _ => True) s'.heap [] vs

theorem spec_marks {G : W0} {n : Nat} {first step count K : Nat} (h1 : first < 100) (h2 : 1 ≤ step) (h3 : step < 100) (h4 : count < 100) (hK : ∀ j, first + j * step < count ↔ j < K) :
    Spec G (n + 3) 109 [.int first, .int step, .int count] [] [] (.list (zs (marksF first step K))) := fun A s vs us c r1 r2 => by
  obtain ⟨v1, _, rfl, ra, v2, _, rfl, rb, v3, _, rfl, rc, rfl⟩ := r1
  obtain rfl := r2
  refine enter (n := n + 2) c (d109 _) (b109 _) (s109 _) (by kernel_rfl) (binds := [(Str.ofString "first", v1), (Str.ofString "step", v2), (Str.ofString "count", v3)]) (fun S => by kernel_rfl) (by simp only [List.map]; decide) (by kernel_rfl)
    (.cons ra (.cons rb (.cons rc .nil))) fun env s₁ iE hfr F _ _ => gen fun Q E hQ hE => ?_
  have gb : ∀ x : String, (scopeOf (stAt 19)).names.lookup (Str.ofString x) = some .globalImplicit → env.kindOf (Str.ofString x) = some .globalImplicit := fun x h => iE.kinds _ _ h (by decide)
  have hKc : K ≤ count := by
    rcases Nat.lt_or_ge count K with h | h
    · exfalso
      have := (hK count).mpr h
      have : count ≤ count * step := Nat.le_mul_of_pos_right _ h2
      (first | lia | omega)
    · exact h
  -- marks, at = ([], 0)
  refine st_pairS (K := PairM G (n + 2) (A.deeper env) s₁) c.hh (wp_pair (R := PairM G (n + 2) (A.deeper env) s₁) (Ev.to ((ev_list (ok := fun c => s₁.heap.get? c = none) (ρ := []) (ds := []) evs_nil).at F.cx ⟨F.sat.eo, fun _ q => q, fun p hp => by cases hp⟩) fun v s₂ ⟨x, r⟩ => ?_) ?_) ?_ (swapped_yes (bk F.sat.eo) (iE.kinds _ _ (by kernel_rfl) (by decide)) (iE.kinds _ _ (by kernel_rfl) (by decide)) (by decide) (by decide) (by rfl) (by rfl) (by rfl) (by rfl))
  · refine Ev.to ((F.aft x).ev ev_int) fun v2 s₃ h00 => ?_
    obtain ⟨x2, r2⟩ := h00
    obtain ⟨a, vs, k, rfl, ha, hg, rr⟩ := r
    exact ⟨a, vs, k, rfl, ha, r2, x.trans x2, x2.1.kept.get (ne_tab x.2.tab hg (IsSeq.nf ⟨_, _, rfl⟩)) hg (IsSeq.nd ⟨_, _, rfl⟩), RelAll.flat' (by simp) rr⟩
  · rintro v1 v2 s₃ ⟨a, vs, k, e1, hna, e2, x, hga, rr⟩
    have x2 := x.2.keeps (h' := s₃.heap.push (TO [v1, v2] 0)) (tk := s₃.toks) fun b o e => Heap.get?_push_of_some _ e
    exact ⟨v1, v2, s₃.heap.objs.size, 0, rfl, Heap.get?_push_size _ rfl, a, vs, k, e1, hna, e2, x.trans x2, Heap.get?_push_of_some _ hga, RelAll.flat' (by simp) rr⟩
  rintro v1 v2 s₃ h' ⟨a, vs, k, rfl, hna, ⟨t, rfl⟩, x, hga, rr⟩ hk'
  have x2 := x.2.keeps (h' := h') (tk := s₃.toks) hk'
  have F3 := F.apart (x.trans x2) hna (hk' _ _ hga)
  obtain ⟨a0, ab⟩ := F.old hna
  have Oa : Own G (But (fun _ => True) a) s { s₃ with heap := h' } a (zs (marksF first step 0)) := ⟨⟨vs, k, hk' _ _ hga, RelAll.flat' (by simp [marksF, zs]) rr⟩, fun h => h.2 rfl, a0, ab⟩
  refine F3.store (at_of iE (by kernel_rfl)) (d := .int 0) ⟨t, rfl⟩ (ρ' := [("first", .int first), ("step", .int step), ("count", .int count), ("at", .int 0)]) (.tail (.tail (.tail .nil))) fun s₄ F4 k4 => ?_
  refine F4.store (at_of iE (by kernel_rfl)) (d := .val (.ref a)) (by simp only [Rel]) (ρ' := [("first", .int first), ("step", .int step), ("count", .int count), ("at", .int 0), ("marks", .val (.ref a))]) (.tail (.tail (.tail (.tail .nil)))) fun s₅ F5 k5 => ?_
  have Oa5 := (Oa.sol k4).sol k5
  refine st_forN1 (fun i => [("first", .int first), ("step", .int step), ("count", .int count), ("at", .int (atM first step i)), ("marks", .val (.ref a))]) (fun i => zs (marksF first step i)) (fun i => i ≤ K) (K + 1)
    (gen_src (pre := [(first : Int) + 1, (step : Int)]) (post := []) F5 (ev_glob (gb "_grouping_intervals" (by kernel_rfl)) (by kernel_rfl)) (ev_list (ds := [.int ((first : Int) + 1), .int step, .int 0]) (evs_cons (ev_add (ev_name (.head _)) ev_int) (evs_cons (ev_name (.tail _ (.head _))) (evs_one ev_int))) (by unfold sizeLine; simp)) (by simp) (fun x hx => by simp at hx; rcases hx with rfl | rfl <;> (first | lia | omega)) (K + 1))
    F5 Oa5 (Nat.zero_le _) (fun i h => Nat.lt_succ_of_le h) ?_
  rintro i d s₆ v rfl hi F6 O6 rd
  refine F6.assign (tgtN (at_of iE (by kernel_rfl)) (ρ' := [("first", .int first), ("step", .int step), ("count", .int count), ("at", .int (atM first step i)), ("marks", .val (.ref a)), ("size", .int (gY [(first : Int) + 1, (step : Int)] i))]) (.tail (.tail (.tail (.tail (.tail .nil)))))) rd fun s₇ F7 k7 => ?_
  have O7 := k7 _ _ O6
  have hat := atM_step first step i
  refine st_set F7 (F7.ev (ev_add (ev_name (.tail _ (.tail _ (.tail _ (.head _))))) (ev_name (.tail _ (.tail _ (.tail _ (.tail _ (.tail _ (.head _))))))))) (at_of iE (by kernel_rfl)) (ρ' := [("first", .int first), ("step", .int step), ("count", .int count), ("at", .int (atM first step i + gY [(first : Int) + 1, (step : Int)] i)), ("marks", .val (.ref a)), ("size", .int (gY [(first : Int) + 1, (step : Int)] i))]) (.tail (.tail (.tail .head))) fun s₈ F8 k8 => ?_
  have O8 := k8 _ _ O7
  rw [hat] at F8
  refine st_ifW F8 F8.sat (tst_cmp (ev_name (.tail _ (.tail _ (.tail _ (.head _))))) (ev_name (.tail _ (.tail _ (.head _)))) cmp_gt) fun s₉ F9 k9 => ?_
  have O9 := k9 _ _ O8
  have hlt := hK i
  have hAt : atM first step (i + 1) = ((first + i * step + 1 : Nat) : Int) := by simp only [atM]; push_cast; (first | lia | omega)
  by_cases hb : atM first step (i + 1) > count
  · rw [if_pos (by simpa using hb)]
    refine wpAny_execs_cons (wpAny_Break ?_)
    have hiK : i = K := by
      have : ¬ i < K := fun h => by have := hlt.mpr h; (first | lia | omega)
      (first | lia | omega)
    subst hiK
    exact st_retown F9 O9 (.tail _ (.tail _ (.tail _ (.tail _ (.head _))))) (fun d hd => by obtain ⟨x, _, rfl⟩ := List.mem_map.mp hd; trivial) fun s' v F' r => hQ _ _ ⟨v, rfl, F'.done c, r⟩
  · rw [if_neg (by simpa using hb)]
    refine wpAny_execs_nil ?_
    have hiK : i < K := hlt.mp (by (first | lia | omega))
    refine st_append F9 (.tail _ (.tail _ (.tail _ (.tail _ (.head _))))) O9 (F9.ev (ev_sub (ev_name (.tail _ (.tail _ (.tail _ (.head _))))) ev_int)) (by unfold sizeLine; simp [marksF]; (first | lia | omega)) fun s₁₀ F10 O10 _ => wpAny_execs_nil ⟨by (first | lia | omega), F10.sub fun p hp => by simp only [List.mem_cons, List.not_mem_nil, or_false] at hp ⊢; rcases hp with q | q | q | q | q <;> simp [q], ?_⟩
    rw [marksF_step]; exact O10
end Mine
/-! B29 -/
namespace Mine
section
variable {G : W0} {n : Nat} {A : Around} {env : Env} {ok ok' : Addr → Prop} {ρ ρ' : List (String × D)} {s s₀ sT : Shared} {rest : List Stmt} {Q : Flow → Shared → Prop} {E : Value → Shared → Prop}

/-- a call: what it gives back is new -/
theorem evn_call {func : Str} {fpos pos : Pos} {args : List Expr} {ks : List Keyword} {names : List Str} {ds kds : List D} {d : D} {fa : Addr} {m : Nat} (c : Cx G n A s) (S : Sat G ok env ρ s) (hf : Ev G n A env ok ρ (.Name func fpos) (.val (.ref fa))) (h : Evs G n A env ok ρ args ds) (hk : Ekw G n A env ok ρ ks names kds)
    (hdef : isDef (KK G) fa = true) (hs : Spec G m fa ds names kds d) (hm : m ≤ n)
    (hne : ∃ e r, args = e :: r ∧ ∀ rest : List Expr, starEach (e :: rest) env = (false, eval e env) :: starEach rest env := by exact ⟨_, _, rfl, fun _ => rfl⟩) :
    wpAny G.M A (eval (.Call (.Name func fpos) args ks pos) env) (fun v s' => Aft G n A s s' ∧ Rel (fun b => s.heap.get? b = none) s'.heap d v) (fun _ _ => False) s := by
  refine wpAny_Call_Name_kw (Ev.to (hf s c S) fun v s₁ h00 => ?_)
  obtain ⟨a1, r1⟩ := h00
  obtain rfl := r1
  have S1 := S.aft c a1
  obtain ⟨o, fd, ho, hd⟩ := isDef_there (n := n) (A := A) hdef s₁ a1.2
  refine callWith_function_kw (o := o) (fd := fd) (wp_evalArgs h hk hne a1.2 S1 fun s₂ vs us a2 r2 r3 => ⟨⟨?_, hd⟩, ?_⟩)
  · refine a2.1.kept.get (ne_tab a1.2.tab ho fun ws q => by rw [hd] at q; cases q) ho fun es ep q => by rw [hd] at q; cases q
  · refine wpAny_call (codeAny_mono (hs A s₂ vs us (a2.2.less hm) (r2.weak fun _ _ => trivial) (r3.weak fun _ _ => trivial)) fun r s' h00 => ?_)
    obtain ⟨v, e, a, rr⟩ := h00
    subst e
    exact ⟨(a1.trans a2).trans ⟨a.1, a2.2.back a.1 a.2⟩, rr.weak fun b hb => back_none (a1.trans a2) hb⟩

/-- the last item of the frame's own list -/
theorem wp_lastOwn {x : String} {px pos : Pos} {slice : Expr} {a : Addr} {ds : List D} {d : D} (F : Fst G n A env ok ρ s₀ sT s) (O : Own G ok s₀ s a (ds ++ [d])) (hm : (x, .val (.ref a)) ∈ ρ) (hs : Ev G n A env ok ρ slice (.int (-1)))
    (hp : PlainSlice slice := by intro _ _; rfl) (h1 : (Str.ofString x == ("__debug__" : Str)) = false := by decide) (h2 : (Str.ofString x == ("__classdict__" : Str)) = false := by decide) :
    wpAny G.M A (eval (.Subscript (.Name (Str.ofString x) px) slice pos) env) (fun v s' => Aft G n A s s' ∧ Rel ok s'.heap d v) (fun _ _ => False) s := by
  refine Subscript_ (Ev.to (F.ev (ev_name hm h1 h2)) fun v s₁ h00 => ?_)
  obtain ⟨a1, r1⟩ := h00
  refine Ev.to (hs.at (F.aft a1).cx (F.aft a1).sat) fun w s₂ h00 => ?_
  obtain ⟨a2, r2⟩ := h00
  obtain rfl := r1
  obtain ⟨t, rfl⟩ := r2
  have x := a1.trans a2
  obtain ⟨vs, k, hg, rr⟩ := (O.aft F.cx x).cont
  have hlen := rr.length
  simp only [List.length_append, List.length_cons, List.length_nil] at hlen
  obtain ⟨v, e, r⟩ := rr.get (i := ds.length) (d := d) (by simp)
  refine tail_any (LO.isList hg).typeIs slot_list_getitem.lookup (wpAny_getItem_list_neg (x := v) (LO.isList hg) (by decide) (by simp; omega) (by decide) ?_ ⟨x, r⟩) (hp _ _)
  have : (-1 + (vs.toArray.size : Int)).toNat = ds.length := by simp; omega
  rw [this]; simpa using e

/-- two own lists handed back as a tuple -/
theorem st_rettup2N {x y : String} {px py tp pos : Pos} {k : Nat} {a b : Addr} {ds es : List D} (F : Fst G n A env ok ρ s₀ sT s) (O : Own G ok s₀ s a ds) (Ob : Own G ok s₀ s b es) (hm : (x, .val (.ref a)) ∈ ρ) (hm' : (y, .val (.ref b)) ∈ ρ) (hok : ∀ b, ok b → s₀.heap.get? b = none)
    (h : ∀ s' v, Fst G n A env ok ρ s₀ sT s' → Rel (fun b => s₀.heap.get? b = none) s'.heap (.tup [.list ds, .list es]) v → Q (.ret v) s')
    (hx1 : (Str.ofString x == ("__debug__" : Str)) = false := by decide) (hx2 : (Str.ofString x == ("__classdict__" : Str)) = false := by decide) (hy1 : (Str.ofString y == ("__debug__" : Str)) = false := by decide) (hy2 : (Str.ofString y == ("__classdict__" : Str)) = false := by decide) :
    wpAny G.M A (execs (.Return (some (.Tuple [.Name (Str.ofString x) px, .Name (Str.ofString y) py] k tp)) pos :: rest) env) Q E s := by
  have hev : Ev G n A env ok ρ (.Tuple [.Name (Str.ofString x) px, .Name (Str.ofString y) py] k tp) (.tup [.val (.ref a), .val (.ref b)]) :=
    ev_tup (evs_cons (ev_name hm hx1 hx2) (evs_one (ev_name hm' hy1 hy2))) (by unfold sizeLine; simp)
  refine wpAny_execs_cons (wpAny_Return_some (Ev.to (hev.at F.cx F.sat) fun v s' h00 => ?_))
  obtain ⟨x, r⟩ := h00
  obtain ⟨vs, j, hg, rr⟩ := (O.aft F.cx x).cont
  obtain ⟨vs', j', hg', rr'⟩ := (Ob.aft F.cx x).cont
  obtain ⟨c, us, m, rfl, hc, hgc, _, _, rfl, rfl, _, _, rfl, rfl, rfl⟩ := r
  refine h s' _ (F.aft x) ?_
  simp only [Rel, RelAll]
  exact ⟨c, _, m, rfl, hok _ hc, hgc, _, _, rfl, ⟨a, vs, j, rfl, O.new, hg, rr.weak hok⟩, _, _, rfl, ⟨b, vs', j', rfl, Ob.new, hg', rr'.weak hok⟩, rfl⟩

/-- a pair of a plain thing and a new one -/
theorem wp_tup2 {e1 e2 : Expr} {k : Nat} {p : Pos} {d1 d2 : D} (F : Fst G n A env ok ρ s₀ sT s) (h1 : Ev G n A env ok ρ e1 d1) (hfl : Flat d1)
    (h2 : ∀ s₁, Aft G n A s s₁ → wpAny G.M A (eval e2 env) (fun v s' => Aft G n A s₁ s' ∧ Rel (fun b => s₁.heap.get? b = none) s'.heap d2 v) (fun _ _ => False) s₁)
    (he : starEach [e1, e2] env = [(false, eval e1 env), (false, eval e2 env)] := by rfl) :
    wpAny G.M A (eval (.Tuple [e1, e2] k p) env) (fun v s' => Aft G n A s s' ∧ Rel ok s'.heap (.tup [d1, d2]) v) (fun _ _ => False) s := by
  refine wp_pair (R := fun v1 v2 s₂ => Aft G n A s s₂ ∧ Rel ok s₂.heap d1 v1 ∧ Rel ok s₂.heap d2 v2) (Ev.to (F.ev h1) fun v1 s₁ ⟨a1, r1⟩ => Ev.to (h2 s₁ a1) fun v2 s₂ ⟨a2, r2⟩ => ⟨a1.trans a2, r1.flat hfl, r2.weak fun b hb => (F.aft a1).sat.fresh b hb⟩) ?_ he
  rintro v1 v2 s₂ ⟨x, r1, r2⟩
  have key := new_tup (ok := ok) (vs := [v1, v2]) x.2 (F.aft x).sat.fresh (RelAll.cons' r1 (RelAll.cons' r2 RelAll.nil'))
  exact ⟨x.trans key.1, key.2⟩
end
end Mine
/-! B30 -/
namespace Mine

theorem d92 (P : Params) : isDef (hd.heap_1 P) 92 = true := by kernel_rfl
theorem b92 (P : Params) : (fdOf (hd.heap_1 P) 92).body = .stmts (bodyOf (stAt 16)) := by kernel_rfl
theorem s92 (P : Params) : (fdOf (hd.heap_1 P) 92).scope = scopeOf (stAt 16) := by kernel_rfl

/-- the size told at time i -/
noncomputable def szF (sizes : List Nat) (i : Nat) : Nat := sizes.getD (min i (sizes.length - 1)) 0
theorem gY_nats (sizes : List Nat) (i : Nat) : gY (nats sizes) i = (szF sizes i : Int) := by
  simp only [gY, szF, nats, List.length_map, List.getD_eq_getElem?_getD, List.getElem?_map]
  cases sizes[min i (sizes.length - 1)]? <;> rfl
/-- how many signs a name stands for -/
noncomputable def rchF (sizes : List Nat) : Nat → Nat
  | 0 => 1
  | i + 1 => rchF sizes i * szF sizes i
noncomputable abbrev hD (sizes : List Nat) (Nm : Nat → List Nat) (i : Nat) : D := .tup [.int (rchF sizes i), .list (zs (nats (Nm i)))]
noncomputable abbrev rD (sizes : List Nat) (Nm : Nat → List Nat) (i : Nat) : D := .list (zs (nats (joinF (Nm i) (szF sizes i) (rchF sizes i))))

noncomputable def PairH (G : W0) (n : Nat) (A : Around) (s₁ : Shared) (ds : List D) (v1 v2 : Value) (s' : Shared) : Prop :=
  ∃ a vs k b us j, v1 = .ref a ∧ v2 = .ref b ∧ s₁.heap.get? a = none ∧ s₁.heap.get? b = none ∧ a ≠ b ∧ Aft G n A s₁ s' ∧ s'.heap.get? a = some (LO vs k) ∧ s'.heap.get? b = some (LO us j) ∧
    RelAll (But (But (fun c => s₁.heap.get? c = none) a) b) s'.heap ds vs ∧ RelAll (But (But (fun c => s₁.heap.get? c = none) a) b) s'.heap [] us

theorem spec_history {G : W0} {n : Nat} {text : Str} {sizes : List Nat} {Nm : Nat → List Nat} {K : Nat} (ht : text.cps.size < 100) (hne : sizes ≠ []) (hs0 : ∀ x ∈ sizes, 1 ≤ x ∧ x ≤ 8) (hsl : sizes.length < 100)
    (h0 : ranksF (signsD text) = nats (Nm 0)) (hS : ∀ i, i < K → ranksF (zs (nats (joinF (Nm i) (szF sizes i) (rchF sizes i)))) = nats (Nm (i + 1)))
    (hN : ∀ i, i < K → (∀ v ∈ Nm i, v < 64) ∧ 0 < (Nm i).length ∧ (Nm i).length < 100) (hK : ∀ i, i < K → rchF sizes i < text.cps.size) (hK2 : text.cps.size ≤ rchF sizes K) (hK3 : K < 100) :
    Spec G (n + 12) 92 [.str text, .list (zs (nats sizes))] [] [] (.tup [.list ((List.range (K + 1)).map (hD sizes Nm)), .list ((List.range K).map (rD sizes Nm))]) := fun A s vs us c r1 r2 => by
  obtain ⟨v1, _, rfl, ra, v2, _, rfl, rb, rfl⟩ := r1
  obtain rfl := r2
  refine enter (n := n + 11) c (d92 _) (b92 _) (s92 _) (by kernel_rfl) (binds := [(Str.ofString "text", v1), (Str.ofString "sizes", v2)]) (fun S => by kernel_rfl) (by simp only [List.map]; decide) (by kernel_rfl)
    (.cons ra (.cons rb .nil)) fun env s₁ iE hfr F _ _ => gen fun Q E hQ hE => ?_
  have gb : ∀ x : String, (scopeOf (stAt 16)).names.lookup (Str.ofString x) = some .globalImplicit → env.kindOf (Str.ofString x) = some .globalImplicit := fun x h => iE.kinds _ _ h (by decide)
  obtain ⟨vL, VL, RL⟩ := F.sat.vars ("sizes", .list (zs (nats sizes))) (.tail _ (.head _))
  obtain ⟨L₀, vsL, kL, rfl, _, hgL, rrL⟩ := RL
  obtain ⟨vT, VT, RT⟩ := F.sat.vars ("text", .str text) (.head _)
  have S1 : Sat G (fun c => s₁.heap.get? c = none) env [("text", .str text)] s₁ := ⟨F.sat.eo, fun _ q => q, fun p hp => by
    simp only [List.mem_cons, List.not_mem_nil, or_false] at hp
    subst hp
    exact ⟨vT, VT, RT.flat trivial⟩⟩
  refine st_pairS (K := PairH G (n + 11) (A.deeper env) s₁ [hD sizes Nm 0]) c.hh (wp_pair (R := PairH G (n + 11) (A.deeper env) s₁ [hD sizes Nm 0])
    (Ev.to (evf_of F.cx S1 (evs_one (ev_tup (evs_cons ev_int (evs_one (ev_call (d := .list (zs (nats (Nm 0)))) (fa := 80) (ds := [.list (signsD text), .val (.ref 61)]) (kds := []) (names := []) (m := n + 9) (ev_glob (gb "_law_ranks" (by kernel_rfl)) (by kernel_rfl))
      (evs_cons (ev_listS (ev_blt (gb "list" (by kernel_rfl)) (by kernel_rfl) (by kernel_rfl)) (ev_name (.head _)) (by unfold sizeLine; (first | lia | omega))) (evs_one (ev_glob (gb "_strxfrm" (by kernel_rfl)) (by kernel_rfl)))) ekw_nil (d80 _)
      (by have := spec_ranks (G := G) (n := n) (b := false) (kd := .val (.ref 61)) (things := signsD text) .str (fun d hd => by obtain ⟨ch, _, rfl⟩ := List.mem_map.mp hd; trivial) (by simp [signsD]; (first | lia | omega))
          rw [h0] at this; exact this) (by (first | lia | omega))))) (by unfold sizeLine; simp))) (by unfold sizeLine; simp)) fun v1 s₂ ⟨x, a, vs, k, e1, hna, hga, rr⟩ => ?_) ?_) ?_ (swapped_yes (bk F.sat.eo) (iE.kinds _ _ (by kernel_rfl) (by decide)) (iE.kinds _ _ (by kernel_rfl) (by decide)) (by decide) (by decide) (by rfl) (by rfl) (by rfl) (by rfl))
  · subst e1
    have F2 := F.aft x
    refine Ev.to (evf_of (ok := fun c => s₂.heap.get? c = none) (ρ := []) (ds := []) F2.cx ⟨F2.sat.eo, fun _ q => q, fun p hp => by cases hp⟩ evs_nil) fun v2 s₃ h00 => ?_
    obtain ⟨x2, b, us, j, e2, hnb, hgb, rr2⟩ := h00
    refine ⟨a, vs, k, b, us, j, rfl, e2, hna, back_none x hnb, fun q => ?_, x.trans x2, x2.1.kept.get (ne_tab x.2.tab hga (IsSeq.nf ⟨_, _, rfl⟩)) hga (IsSeq.nd ⟨_, _, rfl⟩), hgb, rr.but F2.cx x2.1.kept hnb, RelAll.flat' (by simp) rr2⟩
    subst q; rw [hga] at hnb; cases hnb
  · rintro v1 v2 s₃ ⟨a, vs, k, b, us, j, e1, e2, hna, hnb, hab, x, hga, hgb, ra, rb⟩
    have x2 := x.2.keeps (h' := s₃.heap.push (TO [v1, v2] 0)) (tk := s₃.toks) fun b o e => Heap.get?_push_of_some _ e
    exact ⟨v1, v2, s₃.heap.objs.size, 0, rfl, Heap.get?_push_size _ rfl, a, vs, k, b, us, j, e1, e2, hna, hnb, hab, x.trans x2, Heap.get?_push_of_some _ hga, Heap.get?_push_of_some _ hgb, ra.kept x.2.tab x2.1.kept, RelAll.flat' (by simp) rb⟩
  rintro v1 v2 s₃ h' ⟨a, vs, k, b, us, j, rfl, rfl, hna, hnb, hab, x, hga, hgb, ra, rb⟩ hk'
  have x2 := x.2.keeps (h' := h') (tk := s₃.toks) hk'
  have F3' := F.aft (x.trans x2)
  obtain ⟨a0, ab⟩ := F.old hna
  obtain ⟨b0, bb⟩ := F.old hnb
  generalize hok : (But (But (fun c => s₁.heap.get? c = none) a) b) = ok at *
  have okd : ∀ c, ok c ↔ (s₁.heap.get? c = none ∧ c ≠ a) ∧ c ≠ b := fun c => by rw [← hok]
  have okn : ∀ c, ok c → s.heap.get? c = none := fun c hc => F.ext.kept.none (F.cx.not99 ((okd c).mp hc).1.1) ((okd c).mp hc).1.1
  have F3 : Fst G (n + 11) (A.deeper env) env ok [("text", .str text), ("sizes", .val (.ref L₀))] s { s₃ with heap := h' } { s₃ with heap := h' } := by
    refine ⟨F3'.cx, ⟨F3'.sat.eo, fun c q => (okd c).mpr ⟨⟨back_none (x.trans x2) q, fun e => ?_⟩, fun e => ?_⟩, fun p hp => ?_⟩, F3'.ext, F3'.own, .refl _⟩
    · subst e; exact absurd ((hk' _ _ hga).symm.trans q) nofun
    · subst e; exact absurd ((hk' _ _ hgb).symm.trans q) nofun
    · simp only [List.mem_cons, List.not_mem_nil, or_false] at hp
      rcases hp with rfl | rfl
      · exact ⟨vT, VT.kept F.cx.tab (x.trans x2).1.kept, RT.flat trivial⟩
      · exact ⟨_, VL.kept F.cx.tab (x.trans x2).1.kept, by simp only [Rel]⟩
  have hk99 : ∀ {x y : Shared}, Aft G (n + 11) (A.deeper env) x y → (∃ m A', Cx G m A' x) → x.heap.get? L₀ = some (LO vsL kL) → y.heap.get? L₀ = some (LO vsL kL) := fun a ⟨_, _, cc⟩ e => a.1.kept.get (ne_tab cc.tab e (IsSeq.nf ⟨_, _, rfl⟩)) e (IsSeq.nd ⟨_, _, rfl⟩)
  have hgL3 : h'.get? L₀ = some (LO vsL kL) := hk99 (x.trans x2) ⟨_, _, F.cx⟩ hgL
  have Oa : Own G ok s { s₃ with heap := h' } a ((List.range (0 + 1)).map (hD sizes Nm)) := ⟨⟨vs, k, hk' _ _ hga, ra.kept x.2.tab x2.1.kept⟩, fun h => ((okd a).mp h).1.2 rfl, a0, ab⟩
  have Ob : Own G ok s { s₃ with heap := h' } b ((List.range 0).map (rD sizes Nm)) := ⟨⟨us, j, hk' _ _ hgb, RelAll.flat' (by simp) rb⟩, fun h => ((okd b).mp h).2 rfl, b0, bb⟩
  refine F3.store (at_of iE (by kernel_rfl)) (d := .val (.ref b)) (by simp only [Rel]) (ρ' := [("text", .str text), ("sizes", .val (.ref L₀)), ("read", .val (.ref b))]) (.tail (.tail .nil)) fun s₄ F4 k4 => ?_
  refine F4.store (at_of iE (by kernel_rfl)) (d := .val (.ref a)) (by simp only [Rel]) (ρ' := [("text", .str text), ("sizes", .val (.ref L₀)), ("read", .val (.ref b)), ("history", .val (.ref a))]) (.tail (.tail (.tail .nil))) fun s₅ F5 k5 => ?_
  have Oa5 := (Oa.sol k4).sol k5
  have Ob5 := (Ob.sol k4).sol k5
  have hgL5 : s₅.heap.get? L₀ = some (LO vsL kL) := k5 _ _ (IsSeq.solid ⟨_, _, rfl⟩) (k4 _ _ (IsSeq.solid ⟨_, _, rfl⟩) hgL3)
  refine st_forN2 (fun i => [("text", .str text), ("sizes", .val (.ref L₀)), ("read", .val (.ref b)), ("history", .val (.ref a))]) (fun i => (List.range (i + 1)).map (hD sizes Nm)) (fun i => (List.range i).map (rD sizes Nm)) (fun i => i ≤ K) (K + 1)
    (gen_srcW (pre := nats sizes) (post := [7]) F5 (ev_glob (gb "_grouping_intervals" (by kernel_rfl)) (by kernel_rfl)) (fun s₆ x6 => ?_) (by simpa using hne) (fun x hx => ?_) (K + 1)) F5 Oa5 Ob5 (Nat.zero_le _) (fun i h => Nat.lt_succ_of_le h) ?_
  · have F6 := F5.aft x6
    have hg6 := hk99 x6 ⟨_, _, F5.cx⟩ hgL5
    obtain ⟨v6, V6, R6⟩ := F6.sat.vars ("sizes", .val (.ref L₀)) (.tail _ (.head _))
    obtain rfl := R6
    have hz : nats sizes = sizes.map fun (v : Nat) => (v : Int) := rfl
    refine Ev.to ((ev_addL (ok := fun c => s₆.heap.get? c = none ∨ c = L₀) (ρ := [("sizes", .list (zs (nats sizes)))]) (a := zs (nats sizes)) (b := [.int 0, .int 7]) (ev_name (.head _)) (ev_list (evs_cons ev_int (evs_one ev_int)) (by unfold sizeLine; simp)) (by unfold sizeLine; simp [zs]; (first | lia | omega))).at F6.cx ⟨F6.sat.eo, fun _ q => .inl q, fun p hp => ?_⟩) fun v s₇ ⟨x7, r7⟩ => ⟨x7, ?_⟩
    · simp only [List.mem_cons, List.not_mem_nil, or_false] at hp
      subst hp
      exact ⟨_, V6, by simp only [Rel]; exact ⟨L₀, vsL, kL, rfl, .inr rfl, hg6, RelAll.flat' (fun d hd => by obtain ⟨x, _, rfl⟩ := List.mem_map.mp hd; trivial) rrL⟩⟩
    · simp only [Rel] at r7 ⊢
      obtain ⟨L, vs7, k7, rfl, hL, hg7, rr7⟩ := r7
      have hl7 := rr7.length
      rcases hL with hL | rfl
      · refine ⟨L, vs7, k7, rfl, F6.sat.fresh _ hL, hg7, ?_⟩
        have : zs (nats sizes ++ 0 :: [7]) = zs (nats sizes) ++ [.int 0, .int 7] := by simp [zs]
        rw [this]
        refine RelAll.flat' (fun d hd => ?_) rr7
        rcases List.mem_append.mp hd with q | q
        · obtain ⟨x, _, rfl⟩ := List.mem_map.mp q; trivial
        · simp at q; rcases q with rfl | rfl <;> trivial
      · have := hk99 x7 ⟨_, _, F6.cx⟩ hg6
        rw [hg7] at this
        have hvv : vs7 = vsL := by
          have := congrArg (fun o : Option Obj => match o with | some ⟨_, _, .seq xs _, _⟩ => xs.toList | _ => []) this
          simpa using this
        have := rrL.length
        rw [← hvv, hl7] at this
        simp at this
  · obtain ⟨y, hy, rfl⟩ := List.mem_map.mp hx
    have := hs0 y hy
    (first | lia | omega)
  rintro i d s₆ v rfl hi F6 O6 O6' rd
  rw [gY_nats] at rd
  refine F6.assign (tgtN (at_of iE (by kernel_rfl)) (ρ' := [("text", .str text), ("sizes", .val (.ref L₀)), ("read", .val (.ref b)), ("history", .val (.ref a)), ("size", .int (szF sizes i))]) (.tail (.tail (.tail (.tail .nil))))) rd fun s₇ F7 k7 => ?_
  have O7 := k7 _ _ O6
  have O7' := k7 _ _ O6'
  refine st_pair (K := fun v1 v2 s' => Aft G (n + 11) (A.deeper env) s₇ s' ∧ Rel ok s'.heap (.int (rchF sizes i)) v1 ∧ Rel ok s'.heap (.list (zs (nats (Nm i)))) v2) c.hh (Ev.to (wp_lastOwn (ds := (List.range i).map (hD sizes Nm)) (d := hD sizes Nm i) F7 (by have := O7; rw [List.range_succ, List.map_append] at this; exact this) (.tail _ (.tail _ (.tail _ (.head _)))) (ev_neg ev_int)) fun v s₈ ⟨x, r⟩ => ?_) ?_ (by rfl)
  · simp only [Rel, RelAll] at r
    obtain ⟨T, vsT, kT, rfl, _, hgT, w1, _, rfl, r1, w2, _, rfl, r2, rfl⟩ := r
    exact ⟨w1, w2, T, kT, rfl, hgT, x, by simp only [Rel]; exact r1, by simp only [Rel]; exact r2⟩
  rintro w1 w2 s₈ h8 ⟨x, r1, r2⟩ hk8
  have x2 := x.2.keeps (h' := h8) (tk := s₈.toks) hk8
  have F8 := F7.aft (x.trans x2)
  refine F8.store (at_of iE (by kernel_rfl)) (d := .int (rchF sizes i)) (r1.flat trivial) (ρ' := [("text", .str text), ("sizes", .val (.ref L₀)), ("read", .val (.ref b)), ("history", .val (.ref a)), ("size", .int (szF sizes i)), ("reach", .int (rchF sizes i))]) (.tail (.tail (.tail (.tail (.tail .nil))))) fun s₉ F9 k9 => ?_
  refine F9.store (at_of iE (by kernel_rfl)) (d := .list (zs (nats (Nm i)))) ((r2.kept x.2.tab x2.1.kept).solid k9) (ρ' := [("text", .str text), ("sizes", .val (.ref L₀)), ("read", .val (.ref b)), ("history", .val (.ref a)), ("size", .int (szF sizes i)), ("reach", .int (rchF sizes i)), ("names", .list (zs (nats (Nm i))))]) (.tail (.tail (.tail (.tail (.tail (.tail .nil)))))) fun s₁₀ F10 k10 => ?_
  have O10 := ((O7.aft F7.cx (x.trans x2)).sol k9).sol k10
  have O10' := ((O7'.aft F7.cx (x.trans x2)).sol k9).sol k10
  refine st_ifW F10 F10.sat (tst_cmp (ev_name (.tail _ (.tail _ (.tail _ (.tail _ (.tail _ (.head _))))))) (ev_lenS (ev_blt (gb "len" (by kernel_rfl)) (by kernel_rfl) (by kernel_rfl)) (ev_name (.head _)) (by show (text.cps.size : Int) < _; (first | lia | omega))) cmp_ge) fun s₁₁ F11 k11 => ?_
  have O11 := k11 _ _ O10
  have O11' := k11 _ _ O10'
  by_cases hb : text.cps.size ≤ rchF sizes i
  · have hiK : i = K := by
      have : ¬ i < K := fun h => by have := hK i h; (first | lia | omega)
      (first | lia | omega)
    subst hiK
    rw [if_pos (by show decide ((rchF sizes i : Int) ≥ (text.cps.size : Int)) = true; simpa using hb)]
    refine wpAny_execs_cons (wpAny_Break ?_)
    exact st_rettup2N F11 O11 O11' (.tail _ (.tail _ (.tail _ (.head _)))) (.tail _ (.tail _ (.head _))) okn fun s' v F' r => hQ _ _ ⟨v, rfl, F'.done c, r⟩
  · rw [if_neg (by show ¬ decide ((rchF sizes i : Int) ≥ (text.cps.size : Int)) = true; simpa using hb)]
    refine wpAny_execs_nil ?_
    have hiK : i < K := by
      rcases Nat.lt_or_ge i K with h | h
      · exact h
      · have : i = K := by (first | lia | omega)
        subst this; (first | lia | omega)
    obtain ⟨hn1, hn2, hn3⟩ := hN i hiK
    have hsz : 1 ≤ szF sizes i ∧ szF sizes i ≤ 8 := by
      unfold szF
      have hl : 0 < sizes.length := List.length_pos_iff.mpr hne
      rw [List.getD_eq_getElem?_getD, List.getElem?_eq_getElem (by (first | lia | omega))]
      exact hs0 _ (List.getElem_mem _)
    refine st_append F11 (.tail _ (.tail _ (.head _))) O11' (F11.ev (ev_call (fa := 85) (ds := [.list (zs (nats (Nm i))), .int (szF sizes i), .int (rchF sizes i)]) (kds := []) (names := []) (m := n + 5) (ev_glob (gb "_law_joined" (by kernel_rfl)) (by kernel_rfl))
      (evs_cons (ev_name (.tail _ (.tail _ (.tail _ (.tail _ (.tail _ (.tail _ (.head _)))))))) (evs_cons (ev_name (.tail _ (.tail _ (.tail _ (.tail _ (.head _)))))) (evs_one (ev_name (.tail _ (.tail _ (.tail _ (.tail _ (.tail _ (.head _)))))))))) ekw_nil (d85 _)
      (spec_joined hn1 hn2 hn3 hsz.1 hsz.2 (by have := hK i hiK; (first | lia | omega))) (by (first | lia | omega)))) (by unfold sizeLine; simp; (first | lia | omega)) fun s₁₂ F12 O12' k12 => ?_
    have O12 := k12 a _ hab O11
    have eM : (List.range i).map (rD sizes Nm) ++ [rD sizes Nm i] = (List.range (i + 1)).map (rD sizes Nm) := by rw [List.range_succ, List.map_append]; rfl
    have hS' := hS i hiK
    have sp := spec_ranks (G := G) (n := n) (b := true) (kd := .none) (things := zs (nats (joinF (Nm i) (szF sizes i) (rchF sizes i)))) .none (fun d hd => by obtain ⟨y, _, rfl⟩ := List.mem_map.mp hd; trivial) (by simp [joinF]; (first | lia | omega))
    rw [hS'] at sp
    refine st_append F12 (.tail _ (.tail _ (.tail _ (.head _)))) O12 (wp_tup2 (d1 := .int (rchF sizes (i + 1))) (d2 := .list (zs (nats (Nm (i + 1))))) F12 (by
        rw [show (rchF sizes (i + 1) : Int) = (rchF sizes i : Int) * (szF sizes i : Int) by simp only [rchF]; push_cast; rfl]
        exact ev_mul (ev_name (.tail _ (.tail _ (.tail _ (.tail _ (.tail _ (.head _))))))) (ev_name (.tail _ (.tail _ (.tail _ (.tail _ (.head _)))))) (by (first | lia | omega))) trivial fun s₁₃ x13 => ?_) (by unfold sizeLine; simp; (first | lia | omega)) fun s₁₄ F14 O14 k14 => ?_
    · have F13 := F12.aft x13
      have S13 := F13.sat.full (O12'.aft F12.cx x13) (.tail _ (.tail _ (.head _)))
      refine evn_call (fa := 80) (ds := [rD sizes Nm i, .none]) (kds := []) (names := []) (m := n + 9) F13.cx S13 (ev_glob (gb "_law_ranks" (by kernel_rfl)) (by kernel_rfl))
        (evs_cons (ev_last (ev_name (.head _)) (ev_neg ev_int) (by simp)) (evs_one ev_none)) ekw_nil (d80 _) sp (by (first | lia | omega))
    · refine wpAny_execs_nil ⟨by (first | lia | omega), F14.sub fun p hp => ?_, ?_, ?_⟩
      · simp only [List.mem_cons, List.not_mem_nil, or_false] at hp ⊢
        rcases hp with q | q | q | q <;> simp [q]
      · have : (List.range (i + 1)).map (hD sizes Nm) ++ [hD sizes Nm (i + 1)] = (List.range (i + 1 + 1)).map (hD sizes Nm) := by rw [List.range_succ (n := i + 1), List.map_append]; rfl
        rw [← this]; exact O14
      · rw [← eM]; exact k14 b _ (Ne.symm hab) O12'
end Mine
/-! B31 -/
namespace Mine

theorem d102 (P : Params) : isDef (hd.heap_1 P) 102 = true := by kernel_rfl
theorem b102 (P : Params) : (fdOf (hd.heap_1 P) 102).body = .stmts (bodyOf (stAt 18)) := by kernel_rfl
theorem s102 (P : Params) : (fdOf (hd.heap_1 P) 102).scope = scopeOf (stAt 18) := by kernel_rfl
theorem c102 (P : Params) : (fdOf (hd.heap_1 P) 102).code = .ref 101 := by kernel_rfl
theorem q102 (P : Params) : (fdOf (hd.heap_1 P) 102).qualname ++ ".<locals>." ++ "<lambda>" = lamQual := by kernel_rfl

theorem hd101 {P : Params} {h : Heap} (X : (hd.heap_1 P).In h) : CodeHd h 101 99 :=
  ⟨_, _, _, _, _, _, _, _, _, X 101 _ rfl, rfl, rfl, rfl, rfl, rfl, rfl, rfl, rfl, by decide⟩

section
variable {G : W0} {n : Nat} {A : Around} {env : Env} {ok : Addr → Prop} {ρ : List (String × D)} {s s₀ sT : Shared}

/-- enter, with the frame's code and name -/
theorem enterE {fa : Addr} {body : List Stmt} {sc : Scope} {args : Args} {binds : List (Str × Value)} {ρ : List (String × D)} {R : Result → Shared → Prop}
    (c : Cx G (n + 1) A s) (hdef : isDef (KK G) fa = true) (hbody : (fdOf (KK G) fa).body = .stmts body) (hsc : (fdOf (KK G) fa).scope = sc) (hgen : sc.isGenerator = false)
    (hbind : ∀ S, peek (KK G) S (bindArgs (fdOf (KK G) fa) args) = some binds) (hnd : (binds.map (·.1)).Nodup) (hkind : (binds.map (·.1)).all (fun x => sc.names.lookup x == some .local || sc.names.lookup x == some .cell) = true) (hb : BRel s.heap binds ρ)
    (h : ∀ env s₁, IsComp sc env (fun a => s.heap.get? a = none) → env.frame = some env.locals → env.code = (fdOf (KK G) fa).code → env.qual = (fdOf (KK G) fa).qualname ++ ".<locals>." → Fst G n (A.deeper env) env (fun _ => True) ρ s s₁ s₁ → (∀ b o, s.heap.get? b = some o → s₁.heap.get? b = some o) → s₁.gens = s.gens →
      wpAny G.M (A.deeper env) (execs body env) (fun f s' => R (.ok (.ret (match f with | .ret v => v | _ => .none))) s')
        (fun e s' => wpAny G.M (A.deeper env) (leaving env e) (fun _ s'' => R (.error e) s'') (fun e' s'' => R (.error e') s'') s') s₁) :
    codeAny G.M A (.call (.ref fa) args) R s := by
  have hdef' := hdef
  unfold isDef at hdef
  split at hdef
  · rename_i oc od fd sl hl
    have e0 : fdOf (KK G) fa = fd := by unfold fdOf; rw [hl]
    rw [e0] at hbody hsc hbind h
    subst hsc
    simp only [Bool.and_eq_true, beq_iff_eq, Bool.not_eq_true', List.isEmpty_iff] at hdef
    obtain ⟨⟨⟨⟨⟨⟨h1, h2⟩, h3⟩, h4⟩, h5⟩, h6⟩, h7⟩ := hdef
    have ho := c.K _ _ hl
    have hlim : s.heap.NoLimit := G.nolim.keeps c.stays
    have hdep := c.dep
    refine codeAny_call_function (by show A.depth < 1000; (first | lia | omega)) ho rfl h3 hgen hbody (codeRec_of c.K h1) ?_
    refine (kp_binds c.K hbind) _ _ _ _ ?_
    rw [h2]
    have hk' : ∀ x ∈ binds, fd.scope.names.lookup x.1 = some .local ∨ (fd.scope.names.lookup x.1 = some .cell ∧ ((cellsFrom (s.heap.objs.size + 1) fd.scope.names []).lookup x.1).isSome = true) := fun x hx => by
      have := List.all_eq_true.mp hkind x.1 (List.mem_map_of_mem hx)
      rcases Bool.or_eq_true_iff.mp this with q | q
      · exact .inl (by simpa using q)
      · have q' : fd.scope.names.lookup x.1 = some .cell := by simpa using q
        exact .inr ⟨q', cellsFrom_some _ _ _ (.inl q')⟩
    refine wpAny_newFunctionEnv_cells h4 hk' fun env he s' x => ?_
    have hce : env = callEnvC fd s.heap.objs.size fa := he
    subst hce
    have hns := x.toInCall.ns
    obtain ⟨hh, tk, rfl⟩ := x.toInCall.same
    have a0 := c.keeps (h' := hh) (tk := tk) x.toInCall.keep
    have none' : ∀ {b : Addr}, s.heap.objs.size ≤ b → s.heap.get? b = none := fun {b} hb => by
      cases q : s.heap.get? b with
      | none => rfl
      | some o => exact absurd (Heap.lt_size q) (Nat.not_lt.mpr hb)
    have base : ∀ {b : Addr}, s.heap.get? b = none → G.base.get? b = none := fun {b} e => c.base_none e
    have hLn : s.heap.get? (callEnvC fd s.heap.objs.size fa).locals = none := none' (Nat.le_refl _)
    have hcn : ∀ y cc, (callEnvC fd s.heap.objs.size fa).cells.lookup y = some cc → s.heap.get? cc = none := fun y cc q => none' (by
      exact Nat.le_of_lt (x.above y cc (mem_of_lookup q)))
    have hown : ∀ y a, At (callEnvC fd s.heap.objs.size fa) y a → s.heap.get? a = none := fun y a q => by
      rcases q with ⟨_, rfl⟩ | ⟨_, q⟩
      · exact hLn
      · exact hcn y a q
    have hhas : ∀ y, fd.scope.names.lookup y = some .cell → ((callEnvC fd s.heap.objs.size fa).cells.lookup y).isSome = true := fun y q => cellsFrom_some _ _ _ (.inl q)
    refine ⟨hlim.keeps x.toInCall.keep, codeAny_func (h _ _ ⟨fun y k q _ => q, fun y k q hk => ?_, fun y k q hk => ?_, fun y q => ?_⟩ rfl rfl rfl ?_ x.toInCall.keep rfl)⟩
    · rcases hk with rfl | rfl
      · exact ⟨_, .inl ⟨q, rfl⟩, hLn⟩
      · obtain ⟨cc, q3⟩ := Option.isSome_iff_exists.mp (hhas y q)
        exact ⟨cc, .inr ⟨q, q3⟩, hcn y cc q3⟩
    · rcases hk with rfl | rfl
      · have := List.all_eq_true.mp h7 _ (lookup_mem q); simp at this
      · exact hhas y q
    · show fd.scope.names.lookup y ≠ _; rw [q]; nofun
    have hdep := c.dep
    have hun := c.un
    refine ⟨⟨a0.2.stays, a0.2.tab, ?_, c.hh, by show A.depth + 1 + n ≤ 990; (first | lia | omega), by show A.units + 3 + 20 * n ≤ 9800; (first | lia | omega), c.bare⟩, ⟨⟨h4, h5, h6, ⟨_, hns⟩, base hLn, fun y cc q => ⟨⟨_, x.cell y cc q⟩, base (hcn y cc q)⟩, fun y z cc q q' => name_of_addr x.apart (mem_of_lookup q) (mem_of_lookup q')⟩, fun _ _ => trivial, fun p hp => ?_⟩, a0.1, hown, .refl _⟩
    · obtain ⟨l, e1, e2⟩ := c.fr
      refine ⟨callEnvC fd s.heap.objs.size fa :: l, Around.frames_deeper e1, ?_, ?_, e2.kept a0.1.kept⟩
      · show fd.scope.kind ≠ .module; rw [h4]; nofun
      · obtain ⟨o, es, ep, e3, e4, _⟩ := hns
        exact ⟨_, o, es, ep, rfl, base hLn, c.not99 hLn, e3, e4⟩
    · obtain ⟨v, hm, r⟩ := hb.mem p hp
      refine ⟨v, ?_, r.kept c.tab a0.1.kept⟩
      rcases hk' _ hm with q | ⟨q, q2⟩
      · exact .inl ⟨q, _, hns, bindL_get _ hnd hm q⟩
      · obtain ⟨cc, q3⟩ := Option.isSome_iff_exists.mp q2
        have hne : (callEnvC fd s.heap.objs.size fa).kindOf (Str.ofString p.1) ≠ some .local := by show fd.scope.names.lookup _ ≠ _; rw [q]; nofun
        have := x.cell _ cc q3
        rw [bindC_get _ hnd hm hne] at this
        exact .inr ⟨.inl q, cc, q3, this⟩
  · cases hdef

/-- a lambda is made -/
theorem wp_lambda {params : Arguments} {body : Expr} {scope : Scope} {pos : Pos} (c : Cx G n A s) (S : Sat G ok env ρ s) (hcode : env.code = .ref 101) (hqual : env.qual ++ "<lambda>" = lamQual) (hbm : G.base.BuiltinsAt G.mg 99) (hpos : pos.line = lamPos.line ∧ pos.col = lamPos.col)
    (hdef : defaultsOf params env = ([], [])) {cl : List (Str × Addr)} (hcl : closureFor scope env = pure cl) :
    wpAny G.M A (eval (.Lambda params body scope pos) env) (fun v s' => Aft G n A s s' ∧ ∃ f c' ctv pm, v = .ref f ∧ s.heap.get? f = none ∧ s'.heap.get? f = some (kla_obj "<lambda>" lamQual params body scope cl pm c' ctv) ∧ s'.heap.CodeRec (.ref c') lamQual) (fun _ _ => False) s := by
  have hg := G.g.keeps c.stays
  have hC : CodeHd s.heap 101 99 := hd101 c.K
  obtain ⟨bm, ob, b1, b2, b3, b4, b5, b6⟩ := hbm
  have hb : s.heap.BuiltinsAt G.mg 99 := ⟨bm, ob, b1, b2, b3, b4, c.stays _ _ b5, b6⟩
  have hgP : mainGlobals ≠ 99 := by decide
  refine kla_eval hdef ?_
  rw [hqual]
  have none' : ∀ {h' : Heap} {b : Addr}, s.heap.objs.size ≤ h'.objs.size → h'.objs.size ≤ b → s.heap.get? b = none := fun {h' b} hb hb' => by
    cases q : s.heap.get? b with
    | none => rfl
    | some o => exact absurd (Heap.lt_size q) (Nat.not_lt.mpr (Nat.le_trans hb hb'))
  rcases c.tab with ht | ⟨c₀, ht, hc9, hrec⟩
  · refine kla_makeFunction hcl S.eo.glob hg hcode hC ht trivial rfl hgP hb fun c' ctv h' tk hx hge hlt hrec htb => ?_
    have hkept : ∀ b o, b ≠ 99 → s.heap.get? b = some o → (h'.push (kla_obj "<lambda>" lamQual params body scope cl ((G.mg "__name__").getD .none) c' ctv)).get? b = some o := fun b o hb e => Heap.get?_push_of_some _ (hx b o hb e)
    have hc'9 : c' ≠ 99 := fun q => by
      subst q
      exact absurd (Heap.lt_size ht) (Nat.not_lt.mpr hge)
    have htb' : (h'.push (kla_obj "<lambda>" lamQual params body scope cl ((G.mg "__name__").getD .none) c' ctv)).get? 99 = some (tabObj #[rawInt lamPos.line, rawInt lamPos.col, .ref c']) := by
      rw [← hpos.1, ← hpos.2]; exact Heap.get?_push_of_some _ (by simpa using htb)
    have cx' : Cx G n A { s with heap := h'.push (kla_obj "<lambda>" lamQual params body scope cl ((G.mg "__name__").getD .none) c' ctv), toks := tk } := by
      refine ⟨fun b o e => hkept b o (fun q => ?_) (c.stays b o e), .inr ⟨c', htb', hc'9, hrec.push _⟩, ?_, c.hh, c.dep, c.un, c.bare⟩
      · subst q; rw [G.notab] at e; cases e
      · obtain ⟨l, e1, e2⟩ := c.fr
        exact ⟨l, e1, e2.kept fun b o hb e => ⟨o.slots, hkept b o hb e, fun _ => rfl⟩⟩
    exact ⟨⟨⟨fun b o hb e => ⟨o.slots, hkept b o hb e, fun _ => rfl⟩, rfl, fun _ _ e => e⟩, cx'⟩, h'.objs.size, c', ctv, _, rfl, none' (Nat.le_trans hge (Nat.le_of_lt hlt)) (Nat.le_refl _), Heap.get?_push_size _ rfl, hrec.push _⟩
  · have hf : codeAmong pos (#[rawInt lamPos.line, rawInt lamPos.col, .ref c₀] : Array Value).toList = some (.ref c₀) := by
      simp only [codeAmong, rawInt, hpos.1, hpos.2, beq_self_eq_true, Bool.and_self, if_true]
    refine kla_makeFunctionHit hcl S.eo.glob hg hcode hC ht trivial hf hb fun ctv h' tk hk hsz => ?_
    have a1 := c.keeps (h' := h'.push (kla_obj "<lambda>" lamQual params body scope cl ((G.mg "__name__").getD .none) c₀ ctv)) (tk := tk) fun b o e => Heap.get?_push_of_some _ (hk b o e)
    exact ⟨a1, h'.objs.size, c₀, ctv, _, rfl, none' hsz (Nat.le_refl _), Heap.get?_push_size _ rfl, (hrec.keeps hk).push _⟩
end
end Mine
/-! B32 -/
namespace Mine

/-- all that stands but the list a, the code table, and new dicts -/
noncomputable def keepL (base : Heap) (a : Addr) (h : Heap) : Heap := (keepB base a h).hide 99
section
variable {base : Heap} {a : Addr} {h : Heap}
theorem keepL_of {b : Addr} {o : Obj} (e : (keepL base a h).get? b = some o) : b ≠ 99 ∧ b ≠ a ∧ h.get? b = some o ∧ (NotDict o ∨ ∃ o', base.get? b = some o') := by
  have h9 : b ≠ 99 := fun q => by subst q; rw [keepL, Heap.hide_self] at e; cases e
  rw [keepL, Heap.hide_ne _ h9] at e
  exact ⟨h9, (keepB_some e).1, keepB_of e, (keepB_some e).2⟩
theorem keepL_get {b : Addr} {o : Obj} (e : h.get? b = some o) (h9 : b ≠ 99) (hT : b ≠ a) (hd : NotDict o ∨ ∃ o', base.get? b = some o') : (keepL base a h).get? b = some o := by
  rw [keepL, Heap.hide_ne _ h9]; exact keepB_get e hT hd
theorem keepL_99 : (keepL base a h).get? 99 = none := by rw [keepL, Heap.hide_self]
theorem keepL_T : (keepL base a h).get? a = none := by
  cases q : (keepL base a h).get? a with
  | none => rfl
  | some o => exact absurd rfl (keepL_of q).2.1
end

section
variable {G : W0} {n m : Nat} {A : Around} {env : Env} {ok : Addr → Prop} {ρ : List (String × D)} {s s' s₀ sT : Shared} {a : Addr}

theorem keepL_base (c : Cx G n A s) (ha : G.base.get? a = none) : ∀ b o, G.base.get? b = some o → (keepL G.base a s.heap).get? b = some o := fun b o e => by
  refine keepL_get (c.stays b o e) (fun q => ?_) (fun q => ?_) (.inr ⟨o, e⟩)
  · subst q; rw [G.notab] at e; cases e
  · subst q; rw [ha] at e; cases e

/-- the ground, with all that stands laid into it -/
noncomputable def W0.more (G : W0) (a : Addr) (h : Heap) (k : ∀ b o, G.base.get? b = some o → (keepL G.base a h).get? b = some o) : W0 where
  w := G.w
  base := keepL G.base a h
  mg := G.mg
  mb := G.mb
  kin := fun x o e => k x o (G.kin x o e)
  g := G.g.keeps k
  b := G.b.keeps k
  bi := G.bi
  nolim := G.nolim.keeps k
  nodig := let ⟨mc, x, e⟩ := G.nodig; ⟨mc, x.keeps k, e⟩
  notab := keepL_99

variable {h : Heap} {k : ∀ b o, G.base.get? b = some o → (keepL G.base a h).get? b = some o}

theorem FF.up {h' : Heap} (st : (keepL G.base a h).StaysIn h') : ∀ {l : List Env}, FF G.base h' l → FF (keepL G.base a h) h' l := fun x => x.map fun env y => by
  obtain ⟨L, o, es, ep, b, c, n, d, e⟩ := y
  refine ⟨L, o, es, ep, b, ?_, n, d, e⟩
  cases q : (keepL G.base a h).get? L with
  | none => rfl
  | some o' =>
    have e' := st _ _ q
    rw [d] at e'; cases e'
    rcases (keepL_of q).2.2.2 with q2 | ⟨o', q2⟩
    · exact absurd e (q2 es ep)
    · rw [c] at q2; cases q2
theorem FF.down (k : ∀ b o, G.base.get? b = some o → (keepL G.base a h).get? b = some o) {h' : Heap} : ∀ {l : List Env}, FF (keepL G.base a h) h' l → FF G.base h' l := fun x => x.map fun env y => by
  obtain ⟨L, o, es, ep, b, c, n, d, e⟩ := y
  refine ⟨L, o, es, ep, b, ?_, n, d, e⟩
  cases q : G.base.get? L with
  | none => rfl
  | some o' => rw [k _ _ q] at c; cases c
theorem Cx.up (c : Cx G n A s) (st : (keepL G.base a h).StaysIn s.heap) : Cx (G.more a h k) n A s :=
  ⟨st, c.tab, let ⟨l, x, y⟩ := c.fr; ⟨l, x, y.up st⟩, c.hh, c.dep, c.un, c.bare⟩
theorem Cx.down (c : Cx (G.more a h k) n A s) : Cx G n A s :=
  ⟨fun b o e => c.stays b o (k b o e), c.tab, let ⟨l, x, y⟩ := c.fr; ⟨l, x, FF.down k y⟩, c.hh, c.dep, c.un, c.bare⟩
theorem stays_ext {A' : Around} (c : Cx (G.more a h k) m A' s) (e : Ext s s') (c' : Cx G n A s') : (keepL G.base a h).StaysIn s'.heap := fun b o q => by
  have q' := keepL_of q
  rcases q'.2.2.2 with hn | ⟨o', hb⟩
  · exact e.kept.get q'.1 (c.stays b o q) hn
  · have := k _ _ hb
    rw [q] at this; cases this
    exact c'.stays b _ hb

/-- a lambda of one name, that looks that place up in a list of ints -/
theorem lam_spec {params : Arguments} {body : Expr} {scope : Scope} {f c' L : Addr} {cl : List (Str × Addr)} {pm ctv : Value} {xs : List Int} {j : Nat} {cc : Addr} {vsL : List Value} {kL : Nat} {x y : String}
    (hf : (keepL G.base a h).get? f = some (kla_obj "<lambda>" lamQual params body scope cl pm c' ctv)) (hc' : (keepL G.base a h).CodeRec (.ref c') lamQual) (hcc : cl.lookup (Str.ofString y) = some cc) (hcell : (keepL G.base a h).IsCell cc (some (.ref L))) (hcb : G.base.get? cc = none)
    (hcl : ∀ z c, cl.lookup z = some c → z = Str.ofString y) (hL : (keepL G.base a h).get? L = some (LO vsL kL)) (hrr : ∀ s : Shared, RelAll (fun _ => True) s.heap (zs xs) vsL) (hj : j < xs.length) (hxs : xs.length < 1000)
    (hco : scope.isCoroutine = false) (hgen : scope.isGenerator = false) (hk : scope.kind = .function) (hcells : ∀ x ∈ scope.names, x.2 ≠ .cell) (hx : scope.names.lookup (Str.ofString x) = some .local) (hy : scope.names.lookup (Str.ofString y) = some .free) (hxy : x ≠ y)
    (hbind : ∀ v, bindArgs (kla_fn "<lambda>" lamQual params body scope cl pm (.ref c') ctv) ⟨[v], []⟩ = pure [(Str.ofString x, v)])
    (hbody : ∀ (n' : Nat) (B : Around) (env' : Env) (ok : Addr → Prop), Ev G n' B env' ok [(y, .list (zs xs)), (x, .int j)] body (.int (xs.getD j 0))) : Spec (G.more a h k) (n + 2) f [.int j] [] [] (.int (xs.getD j 0)) := fun A s vs us c r1 r2 => by
  obtain ⟨v, _, rfl, rv, rfl⟩ := r1
  obtain rfl := r2
  have cG := c.down
  have hdep := c.dep
  have hun := c.un
  refine kla_callFunE (by show A.depth < 1000; (first | lia | omega)) (c.stays _ _ hf) rfl hco hgen rfl (hc'.keeps c.stays) ?_
  show wpAny _ A.in1 (bindArgs (kla_fn "<lambda>" lamQual params body scope cl pm (.ref c') ctv) ⟨[v], []⟩) _ _ s
  rw [hbind]
  refine wpAny_pure (wpAny_newFunctionEnv hcells (fun z hz => by simp at hz; subst hz; exact hx) (fun h₁ hns hsb => ?_) hk)
  have hk₁ : ∀ b o, s.heap.get? b = some o → h₁.get? b = some o := fun b o e => hsb.extBut b o (Nat.ne_of_lt (Heap.lt_size e)) (Heap.get?_push_of_some _ e)
  have a1 := cG.keeps (h' := h₁) (tk := s.toks + [(Str.ofString x, v)].length) hk₁
  refine ⟨(G.nolim.keeps cG.stays).keeps hk₁, ?_⟩
  have hLn : s.heap.get? s.heap.objs.size = none := no_get
  refine kla_codeExpr ?_
  have hcx : Cx G (n + 1) (A.deeper (newEnv scope s.heap.objs.size mainGlobals cl (lamQual ++ ".<locals>.") (some f) (.ref c') none builtinsNs)) { s with heap := h₁, toks := s.toks + [(Str.ofString x, v)].length } := by
    refine ⟨a1.2.stays, a1.2.tab, ?_, cG.hh, by show A.depth + 1 + (n + 1) ≤ 990; (first | lia | omega), by show A.units + 3 + 20 * (n + 1) ≤ 9800; (first | lia | omega), cG.bare⟩
    obtain ⟨l, e1, e2⟩ := a1.2.fr
    refine ⟨_ :: l, Around.frames_deeper e1, ?_, ?_, e2⟩
    · show scope.kind ≠ .module; rw [hk]; nofun
    · obtain ⟨o, es, ep, e3, e4, _⟩ := hns
      exact ⟨s.heap.objs.size, o, es, ep, by simp [newEnv, hk], cG.base_none hLn, cG.not99 hLn, e3, e4⟩
  have hcellS := c.stays
  have hS : Sat G (fun _ => True) (newEnv scope s.heap.objs.size mainGlobals cl (lamQual ++ ".<locals>.") (some f) (.ref c') none builtinsNs) [(y, .list (zs xs)), (x, .int j)] { s with heap := h₁, toks := s.toks + [(Str.ofString x, v)].length } := by
    have icell : h₁.IsCell cc (some (.ref L)) := by
      obtain ⟨o, e, hd⟩ := hcell
      exact ⟨o, hk₁ _ _ (c.stays _ _ e), hd⟩
    refine ⟨⟨hk, rfl, rfl, ⟨_, hns⟩, cG.base_none hLn, fun z q e => ?_, fun z z' q e e' => ?_⟩, fun _ _ => trivial, fun p hp => ?_⟩
    · have := hcl z q e
      subst this
      have : q = cc := by rw [show (newEnv scope s.heap.objs.size mainGlobals cl (lamQual ++ ".<locals>.") (some f) (.ref c') none builtinsNs).cells = cl from rfl] at e; rw [hcc] at e; cases e; rfl
      subst this
      exact ⟨⟨_, icell⟩, hcb⟩
    · rw [hcl z q e, hcl z' q e']
    · simp only [List.mem_cons, List.not_mem_nil, or_false] at hp
      rcases hp with rfl | rfl
      · exact ⟨.ref L, .inr ⟨.inr hy, cc, hcc, icell⟩, by simp only [Rel]; exact ⟨L, vsL, kL, rfl, trivial, hk₁ _ _ (c.stays _ _ hL), hrr { s with heap := h₁ }⟩⟩
      · refine ⟨v, .inl ⟨hx, _, hns, ?_⟩, rv.flat trivial⟩
        simp
  refine Ev.to ((hbody (n + 1) _ _ (fun _ => True)).at hcx hS) fun u s' h00 => ?_
  obtain ⟨x', r'⟩ := h00
  refine ⟨u, rfl, ?_, r'.flat trivial⟩
  have ex : Ext s s' := a1.1.trans x'.1
  have cG' : Cx G (n + 2) A s' := cG.back ex x'.2
  exact ⟨ex, cG'.up (stays_ext c ex cG')⟩
end
end Mine
/-! B33 -/
namespace Mine

/-- looking a place up -/
noncomputable def lookD (xs : List Int) : D → D
  | .int i => .int (xs.getD i.toNat 0)
  | _ => .none

section
variable {G : W0} {n m : Nat} {A : Around} {env : Env} {ok : Addr → Prop} {ρ : List (String × D)} {s s' s₀ sT : Shared} {a : Addr} {Q : Flow → Shared → Prop} {E : Value → Shared → Prop} {rest : List Stmt}

theorem cell_aft {c : Addr} {v : Option Value} (x : s.heap.IsCell c v) (cx : Cx G n A s) (e : Aft G m A s s') : s'.heap.IsCell c v := e.1.kept.cell (cell_ne cx.tab x) x
theorem wp_evalArgsL {pos : Pos} {f : Value} {es : List Expr} {ds : List D} {x : Str} {e : Expr} {p : Pos} {Q : Args → Shared → Prop} {E : Value → Shared → Prop} (h : Evs G n A env ok ρ es ds)
    (hne : ∃ e r, es = e :: r ∧ ∀ rest : List Expr, starEach (e :: rest) env = (false, eval e env) :: starEach rest env) (c : Cx G n A s) (S : Sat G ok env ρ s)
    (hl : ∀ s₁ vs, Aft G n A s s₁ → RelAll ok s₁.heap ds vs → wpAny G.M A (eval e env) (fun v s₂ => Q ⟨vs, [(x, v)]⟩ s₂) (fun _ _ => False) s₁) : wpAny G.M A (evalArgs f true (backTo pos (starEach es env)) (backToKw pos (keywordEach [⟨some x, e, p⟩] env))) Q E s := by
  obtain ⟨e', r, rfl, he⟩ := hne
  have h' := h pos s c S
  rw [he] at h' ⊢
  simp only [backTo, List.map_cons] at h' ⊢
  refine evalArgs_kw (by simp [keywordEach, backToKw]) (Ev.to h' fun vs s₁ h00 => ?_)
  obtain ⟨b1, r1⟩ := h00
  simp only [keywordEach, backToKw, List.map_cons, List.map_nil, List.filterMap_cons, List.filterMap_nil]
  refine wpAny_evalAll_cons (wpAny_bind (Ev.to (hl s₁ vs b1 r1) fun v s₂ h₂ => wpAny_bind (wpAny_standAt (wpAny_pure (wpAny_evalAll_nil ?_)))))
  exact h₂

theorem st_insortL {x : String} {fpos px pos epos kp lpos : Pos} {ex body : Expr} {params : Arguments} {scope : Scope} {a : Addr} {l xs : List Int} {j : Nat} {func : Str} {z y : String}
    (F : Fst G (n + 9) A env ok ρ s₀ sT s) (O : Own G ok s₀ s a (zs l)) (hf : Ev G (n + 9) A env ok ρ (.Name func fpos) (.val (.ref 23))) (hm : (x, .val (.ref a)) ∈ ρ) (hx : Ev G (n + 9) A env ok ρ ex (.int j))
    (hcode : env.code = .ref 101) (hqual : env.qual ++ "<lambda>" = lamQual) (hbm : G.base.BuiltinsAt G.mg 99) (hpos : lpos.line = lamPos.line ∧ lpos.col = lamPos.col) (hdef : defaultsOf params env = ([], []))
    (hvar : (y, .list (zs xs)) ∈ ρ) (hkind : env.kindOf (Str.ofString y) = some .cell) (hxs : xs.length < 1000) (hl : ∀ i ∈ l, 0 ≤ i ∧ i < xs.length) (hj : j < xs.length) (hll : l.length < 1000)
    (hco : scope.isCoroutine = false) (hgen : scope.isGenerator = false) (hk : scope.kind = .function) (hcells : ∀ x ∈ scope.names, x.2 ≠ .cell) (hz : scope.names.lookup (Str.ofString z) = some .local) (hy : scope.names.lookup (Str.ofString y) = some .free) (hzy : z ≠ y)
    (hcl : ∀ cc, env.cells.lookup (Str.ofString y) = some cc → closureFor scope env = pure [(Str.ofString y, cc)])
    (hbind : ∀ cl pm c' ctv v, bindArgs (kla_fn "<lambda>" lamQual params body scope cl pm (.ref c') ctv) ⟨[v], []⟩ = pure [(Str.ofString z, v)])
    (hbody : ∀ (j n' : Nat) (B : Around) (env' : Env) (ok : Addr → Prop), j < xs.length → Ev G n' B env' ok [(y, .list (zs xs)), (z, .int j)] body (.int (xs.getD j 0)))
    (h : ∀ s', Fst G (n + 9) A env ok ρ s₀ sT s' → Own G ok s₀ s' a ((zs l).take (insAt (zs l) (.int j) (lookD xs) 0) ++ .int j :: (zs l).drop (insAt (zs l) (.int j) (lookD xs) 0)) → wpAny G.M A (execs rest env) Q E s')
    (he : ∀ rest : List Expr, starEach (ex :: rest) env = (false, eval ex env) :: starEach rest env := by intro _; rfl)
    (hsw : swapsWith (.Call (.Name func fpos) [.Name (Str.ofString x) px, ex] [⟨some "key", .Lambda params body scope lpos, kp⟩] pos) none epos.line env = pure false := by rfl) (h1 : (Str.ofString x == ("__debug__" : Str)) = false := by decide) (h2 : (Str.ofString x == ("__classdict__" : Str)) = false := by decide) :
    wpAny G.M A (execs (.Expr (.Call (.Name func fpos) [.Name (Str.ofString x) px, ex] [⟨some "key", .Lambda params body scope lpos, kp⟩] pos) epos :: rest) env) Q E s := by
  have hint : interactive env = false := by
    unfold interactive
    rw [F.sat.eo.kind]; rfl
  refine st_of (wpAny_Expr_any (wpAny_Call_Name_kw (Ev.to (hf s F.cx F.sat) fun v s₁ h00 => ?_)) hint hsw)
  obtain ⟨a1, r1⟩ := h00
  obtain rfl := r1
  have F1 := F.aft a1
  have O1 := O.aft F.cx a1
  obtain ⟨o, fd, ho, hd⟩ := isDef_there (d23 _) s₁ F1.cx
  -- the name's cell and list
  obtain ⟨vy, Vy, Ry⟩ := F.sat.vars _ hvar
  obtain ⟨L, vsL, kL, rfl, hokL, hgL, rrL⟩ := Ry
  rcases Vy with ⟨q, _⟩ | ⟨_, cc, hcc, hcell⟩
  · rw [hkind] at q; cases q
  have hLs : ∀ {s' : Shared}, Aft G (n + 9) A s s' → s'.heap.get? L = some (LO vsL kL) := fun a => a.1.kept.get (ne_tab F.cx.tab hgL (IsSeq.nf ⟨_, _, rfl⟩)) hgL (IsSeq.nd ⟨_, _, rfl⟩)
  refine callWith_function_kw (o := o) (fd := fd) (wp_evalArgsL (ds := [.val (.ref a), .int j]) (evs_cons (ev_name hm h1 h2) (evs_one hx he)) ⟨_, _, rfl, fun _ => rfl⟩ F1.cx F1.sat fun s₂ vs a2 r2 => ?_)
  have F2 := F1.aft a2
  refine Ev.to (wp_lambda F2.cx F2.sat hcode hqual hbm hpos hdef (hcl cc hcc)) fun vl s₃ h00 => ?_
  obtain ⟨a3, f, c', ctv, pm, e1, hfn, hgf, hrec⟩ := h00
  refine ⟨⟨?_, hd⟩, ?_⟩
  · exact (a2.trans a3).1.kept.get (ne_tab F1.cx.tab ho fun ws q => by rw [hd] at q; cases q) ho fun es ep q => by rw [hd] at q; cases q
  subst e1
  obtain ⟨_, _, rfl, e1, vx, _, rfl, rx, rfl⟩ := r2
  obtain rfl := e1
  have F3 := F2.aft a3
  have O2 := O1.aft F1.cx a2
  have O3 := O2.aft F2.cx a3
  obtain ⟨ws, k, hg, rw0⟩ := O3.cont
  have x3 := (a1.trans a2).trans a3
  have kb := keepL_base F3.cx O3.base
  have hg2 : ∃ ws k, s₂.heap.get? a = some (LO ws k) := let ⟨ws, k, e, _⟩ := O2.cont; ⟨ws, k, e⟩
  have cUp : Cx (G.more a s₃.heap kb) (n + 9) A s₃ := F3.cx.up fun b o e => (keepL_of e).2.2.1
  have hfL : (keepL G.base a s₃.heap).get? f = some (kla_obj "<lambda>" lamQual params body scope [(Str.ofString y, cc)] pm c' ctv) := by
    refine keepL_get hgf (F2.cx.not99 hfn) (fun q => ?_) (.inl fun es ep q => by cases q)
    subst q
    obtain ⟨ws, k, e⟩ := hg2
    rw [hfn] at e; cases e
  have hcL : (keepL G.base a s₃.heap).CodeRec (.ref c') lamQual := by
    obtain ⟨c₀, o₀, vs₀, t₀, e0, e1, e2, e3⟩ := hrec
    cases e0
    refine ⟨c', o₀, vs₀, t₀, rfl, keepL_get e1 (fun q => ?_) (fun q => ?_) (.inl fun es ep q => by rw [e2] at q; cases q), e2, e3⟩
    · subst q
      rcases F3.cx.tab with ht | ⟨_, ht, _⟩
      · rw [e1] at ht; cases ht; cases e2; simp at e3
      · rw [e1] at ht; cases ht; cases e2; simp [rawInt] at e3
    · subst q; rw [e1] at hg; cases hg; cases e2
  have hcellL : (keepL G.base a s₃.heap).IsCell cc (some (.ref L)) := by
    obtain ⟨oc, e, hdc⟩ := cell_aft hcell F.cx x3
    refine ⟨oc, keepL_get e (fun q => ?_) (fun q => ?_) (.inl fun es ep q => by rw [hdc] at q; cases q), hdc⟩
    · subst q
      obtain ⟨vs', e2⟩ := F3.cx.tab.fields
      rw [e] at e2; cases e2; cases hdc
    · subst q; rw [e] at hg; cases hg; cases hdc
  have hLL : (keepL G.base a s₃.heap).get? L = some (LO vsL kL) := by
    refine keepL_get (hLs x3) (ne_tab F.cx.tab hgL (IsSeq.nf ⟨_, _, rfl⟩)) (fun q => ?_) (.inl (IsSeq.nd ⟨_, _, rfl⟩))
    subst q; exact O.nok hokL
  have hflat : ∀ d ∈ zs xs, Flat d := fun d hd => by obtain ⟨i, _, rfl⟩ := List.mem_map.mp hd; trivial
  have hKey : Key (G.more a s₃.heap kb) (n + 2) f (lookD xs) (fun d => ∃ j : Nat, d = .int j ∧ j < xs.length) := by
    refine ⟨fun m' B s' cx => ⟨_, _, cx.stays _ _ hfL, rfl⟩, ?_⟩
    rintro _ ⟨j', rfl, hj'⟩
    have := lam_spec (n := n) (k := kb) hfL hcL (by rw [List.lookup_cons, beq_self_eq_true]) hcellL (F.sat.eo.cells _ _ hcc).2 (fun w c e => by
        rw [List.lookup_cons] at e
        cases hb : w == Str.ofString y with
        | true => exact beq_iff_eq.mp hb
        | false => rw [hb] at e; cases e) hLL (fun s' => RelAll.flat' hflat rrL) hj' hxs hco hgen hk hcells hz hy hzy (fun v => hbind _ _ _ _ v) (fun n' B env' ok => hbody j' n' B env' ok hj')
    simpa [lookD] using this
  have hkd : KeyD (G.more a s₃.heap kb) (n + 2) true (.int j) (zs l) (.val (.ref f)) (lookD xs) := by
    refine .key hKey trivial (fun d hd => by obtain ⟨i, _, rfl⟩ := List.mem_map.mp hd; trivial) (b' := true) fun d hd => ?_
    have : ∃ i : Int, d = .int i ∧ 0 ≤ i ∧ i < xs.length := by
      rcases List.mem_cons.mp hd with rfl | hd
      · exact ⟨j, rfl, by omega, by omega⟩
      · obtain ⟨i, hi, rfl⟩ := List.mem_map.mp hd
        exact ⟨i, rfl, hl i hi⟩
    obtain ⟨i, rfl, h0, h1⟩ := this
    exact ⟨trivial, i.toNat, by congr 1; omega, by omega⟩
  have hs := spec_insort2 (G := G.more a s₃.heap kb) (n := n + 2) hkd (by simp; omega)
  refine wpAny_call (codeAny_mono (hs A s₃ a k ws vx [] [.ref f] (cUp.less (by omega)) keepL_T hg (rw0.weak fun _ _ => trivial) (rx.flat trivial) RelAll.nil' (RelAll.cons' (by simp only [Rel]) RelAll.nil')) fun r s' h00 => ?_)
  obtain ⟨er, cx, mm, ws', k', hg', rr'⟩ := h00
  subst er
  have cd := cx.down
  have cx' : Cx G (n + 9) A s' := ⟨cd.stays, cd.tab, cd.fr, cd.hh, F3.cx.dep, F3.cx.un, cd.bare⟩
  have fl : ∀ d ∈ (zs l).take (insAt (zs l) (.int j) (lookD xs) 0) ++ .int j :: (zs l).drop (insAt (zs l) (.int j) (lookD xs) 0), Flat d := fun d hd => by
    have fz : ∀ d ∈ zs l, Flat d := fun d hd => by obtain ⟨i, _, rfl⟩ := List.mem_map.mp hd; trivial
    rcases List.mem_append.mp hd with q | q
    · exact fz d (List.mem_of_mem_take q)
    · rcases List.mem_cons.mp q with rfl | q
      · trivial
      · exact fz d (List.mem_of_mem_drop q)
  obtain ⟨F4, O4, K4⟩ := own_mod F3 O3 mm cx' hg' (RelAll.flat fl rr')
  exact h s' F4 O4
end
end Mine
/-! B34 -/
namespace Mine

/-- the line after i places, the last one first -/
noncomputable def lineAt (xs : List Int) : Nat → List Int
  | 0 => []
  | i + 1 => (lineAt xs i).take (insAt (zs (lineAt xs i)) (.int ((xs.length - 1 - i : Nat) : Int)) (lookD xs) 0) ++ ((xs.length - 1 - i : Nat) : Int) :: (lineAt xs i).drop (insAt (zs (lineAt xs i)) (.int ((xs.length - 1 - i : Nat) : Int)) (lookD xs) 0)
noncomputable abbrev lineF (xs : List Int) : List Int := lineAt xs xs.length

theorem lineAt_len (xs : List Int) : ∀ i, (lineAt xs i).length = i
  | 0 => rfl
  | i + 1 => by
    have ih := lineAt_len xs i
    have hp : insAt (zs (lineAt xs i)) (.int ((xs.length - 1 - i : Nat) : Int)) (lookD xs) 0 ≤ (lineAt xs i).length := by
      have := bis_le (p := fun q => dlt (lookD xs ((zs (lineAt xs i)).getD q .none)) (lookD xs (.int ((xs.length - 1 - i : Nat) : Int)))) (zs (lineAt xs i)).length 0 (zs (lineAt xs i)).length (Nat.zero_le _)
      exact Nat.le_trans this (by simp)
    simp only [lineAt, List.length_append, List.length_take, List.length_cons, List.length_drop]
    (first | lia | omega)
theorem lineAt_mem (xs : List Int) : ∀ i, i ≤ xs.length → ∀ v ∈ lineAt xs i, 0 ≤ v ∧ v < xs.length
  | 0, _ => fun v hv => by cases hv
  | i + 1, hi => fun v hv => by
    have ih := lineAt_mem xs i (by omega)
    simp only [lineAt] at hv
    rcases List.mem_append.mp hv with q | q
    · exact ih v (List.mem_of_mem_take q)
    · rcases List.mem_cons.mp q with rfl | q
      · omega
      · exact ih v (List.mem_of_mem_drop q)
theorem lineAt_step (xs : List Int) (i : Nat) : zs (lineAt xs (i + 1)) = (zs (lineAt xs i)).take (insAt (zs (lineAt xs i)) (.int ((xs.length - 1 - i : Nat) : Int)) (lookD xs) 0) ++ .int ((xs.length - 1 - i : Nat) : Int) :: (zs (lineAt xs i)).drop (insAt (zs (lineAt xs i)) (.int ((xs.length - 1 - i : Nat) : Int)) (lookD xs) 0) := by
  simp only [lineAt, zs, List.map_append, List.map_cons, List.map_take, List.map_drop]

/-- neighbours -/
noncomputable def prsF (xs : List Int) : List (Int × Int) := (List.range (xs.length - 1)).map fun k => ((lineF xs).getD k 0, (lineF xs).getD (k + 1) 0)
/-- the stretch from place i on -/
noncomputable def turnS (text : Str) (reach i : Nat) : Str := ⟨(((List.replicate 6 text.cps.toList).flatten.drop i).take reach).toArray⟩
noncomputable def strN (i : Int) : Str := Str.ofString (toString i)
noncomputable def saidF (text : Str) (reach : Nat) (p : Int × Int) : D := .str (strN (sgn (turnS text reach p.1.toNat) (turnS text reach p.2.toNat)) ++ strN (sgn (turnS text reach p.2.toNat) (turnS text reach p.1.toNat)))
noncomputable def expF (xs : List Int) (p : Int × Int) : D := .str (if xs.getD p.1.toNat 0 = xs.getD p.2.toNat 0 then ("00" : Str) else ("-11" : Str))

section
variable {G : W0} {n m : Nat} {A : Around} {env : Env} {ok : Addr → Prop} {ρ ρ' : List (String × D)} {s s' s₀ sT : Shared} {a : Addr} {Q : Flow → Shared → Prop} {E : Value → Shared → Prop} {rest : List Stmt}

theorem swaps_cell {elt : Expr} {gens : List Comprehension} {scope : Scope} {cpos px : Pos} {x : Str} {line : Nat} (hk : env.kindOf x = some .cell) : swapsWith (.ListComp elt gens scope cpos) (some (.Name x px)) line env = pure false := by
  unfold swapsWith
  show (pure (env.blockKind == .function && env.kindOf x == some .local && px.line == cpos.line && !(scope.names.any fun (n, k) => n == x && (k == .local || k == .cell))) : Sem Bool) = pure false
  rw [hk]
  have : ((some NameKind.cell : Option NameKind) == some .local) = false := by decide
  rw [this]
  simp

theorem closure_one {scope : Scope} {x y : Str} {cc : Addr} (hn : scope.names = [(x, .local), (y, .free)]) (h : env.cells.lookup y = some cc) : closureFor scope env = pure [(y, cc)] := by
  unfold closureFor
  rw [hn]
  simp only [List.forIn_cons, List.forIn_nil, cellOf, h]
  rfl
/-- an own list that is turned no more is a list like others -/
theorem Fst.merge {x : String} {ds : List D} (F : Fst G n A env ok ρ s₀ sT s) (O : Own G ok s₀ s a ds) (hx : (x, .val (.ref a)) ∈ ρ) : Fst G n A env (fun b => ok b ∨ b = a) ((x, .list ds) :: ρ) s₀ s s :=
  ⟨F.cx, F.sat.full O hx, F.ext, F.own, .refl _⟩

/-- a list handed back, that was new -/
theorem st_retE {x : String} {e : Expr} {pos : Pos} {ds : List D} (F : Fst G n A env ok ρ s₀ sT s) (hm : (x, .list ds) ∈ ρ) (hm' : (x, .val (.ref a)) ∈ ρ) (ha : s₀.heap.get? a = none) (he : Ev G n A env ok ρ e (.val (.ref a))) (hfl : ∀ d ∈ ds, Flat d)
    (h : ∀ s' v, Fst G n A env ok ρ s₀ sT s' → Rel (fun b => s₀.heap.get? b = none) s'.heap (.list ds) v → Q (.ret v) s') : wpAny G.M A (execs (.Return (some e) pos :: rest) env) Q E s := by
  refine wpAny_execs_cons (wpAny_Return_some (Ev.to (F.ev he) fun v s' h00 => ?_))
  obtain ⟨y, r⟩ := h00
  obtain rfl := r
  have F' := F.aft y
  obtain ⟨v1, V1, R1⟩ := F'.sat.vars _ hm
  obtain ⟨v2, V2, R2⟩ := F'.sat.vars _ hm'
  obtain rfl := R2
  have := V1.uniq V2
  subst this
  obtain ⟨b, vs, k, eb, _, hg, rr⟩ := R1
  cases eb
  exact h s' _ F' (by simp only [Rel]; exact ⟨a, vs, k, rfl, ha, hg, RelAll.flat' hfl rr⟩)

/-- a part of a text that has no name -/
theorem wp_partS {value : Expr} {lower upper : Option Expr} {p pos : Pos} {Q : Value → Shared → Prop} {E : Value → Shared → Prop}
    (h : wpAny G.M A (eval value env) (fun o s₁ => wpAny G.M A (evalPart lower env) (fun vl s₂ => wpAny G.M A (evalPart upper env) (fun vu s₃ =>
      ∃ x t l u, o = .str x t ∧ vl = partValue l ∧ vu = partValue u ∧ (sliceMade x t l u none).post Q { s₃ with heap := s₃.heap.push { cls := .type "slice", data := .fields #[vl, vu, .none] } }) E s₂) E s₁) E s) :
    wpAny G.M A (eval (.Subscript value (.Slice lower upper none p) pos) env) Q E s := by
  refine Subscript_ (wpAny_mono h (fun o s₁ h₁ => wpAny_Slice (wpAny_mono h₁ (fun vl s₂ h₂ => wpAny_mono h₂ (fun vu s₃ h₃ => ?_) fun _ _ e => e) fun _ _ e => e)) fun _ _ e => e)
  obtain ⟨x, t, l, u, rfl, rfl, rfl, hQ⟩ := h₃
  rw [evalPart_none]
  refine wpAny_pure ?_
  have hT := typeIs_str { s₃ with heap := s₃.heap.push { cls := .type "slice", data := .fields #[partValue l, partValue u, .none] } } x t
  have hg : wpAny G.M A (getItem (.str x t) (.ref s₃.heap.objs.size)) Q E { s₃ with heap := s₃.heap.push { cls := .type "slice", data := .fields #[partValue l, partValue u, .none] } } :=
    wpAny_getItem_str_slice (l := l) (u := u) (st := none) ⟨_, Heap.get?_push_size _ rfl, rfl, rfl⟩ rfl hQ
  unfold subscriptTail
  refine wpAny_bind ?_
  rw [getitemInPython_of_ne hT.not_modules]
  refine wpAny_bind (wpAny_specialOf hT F.slot_str_getitem.lookup ?_)
  have hend : wpAny G.M A (operate [.ref s₃.heap.objs.size, .str x t] (getItem (.str x t) (.ref s₃.heap.objs.size))) (fun r s₄ => wpAny G.M A (letTemporaryGo value (.str x t) r >>= fun _ => pure r) Q E s₄) E { s₃ with heap := s₃.heap.push { cls := .type "slice", data := .fields #[partValue l, partValue u, .none] } } :=
    wpAny_operating (wpAny_mono hg (fun r s₄ h₄ => wpAny_bind (wpAny_letTemporaryGo (wpAny_pure h₄))) fun _ _ e => e)
  first
    | exact wpAny_pure (wpAny_bind hend)
    | exact wpAny_bind (wpAny_pure (wpAny_bind hend))
    | exact wpAny_bind hend
theorem ev_partS {value e1 e2 : Expr} {p pos : Pos} {x : Str} {a b : Nat} (hv : Ev G n A env ok ρ value (.str x)) (hl : Ev G n A env ok ρ e1 (.int a)) (hu : Ev G n A env ok ρ e2 (.int b)) (hab : a ≤ b) (hb : b ≤ x.length) (hz : x.length ≤ sizeLine) :
    Ev G n A env ok ρ (.Subscript value (.Slice (some e1) (some e2) none p) pos) (.str ⟨((x.cps.toList.drop a).take (b - a)).toArray⟩) := fun s c S => by
  refine wp_partS (Ev.to (hv s c S) fun o s₁ h00 => ?_)
  obtain ⟨a1, r1⟩ := h00
  rw [evalPart_some]
  refine Ev.to (hl s₁ a1.2 (S.aft c a1)) fun vl s₂ h00 => ?_
  obtain ⟨a2, r2⟩ := h00
  rw [evalPart_some]
  refine Ev.to (hu s₂ a2.2 (S.aft c (a1.trans a2))) fun vu s₃ h00 => ?_
  obtain ⟨a3, r3⟩ := h00
  obtain ⟨t, rfl⟩ := r1
  obtain ⟨ta, rfl⟩ := r2
  obtain ⟨tb, rfl⟩ := r3
  refine ⟨x, t, some ((a : Int), ta), some ((b : Int), tb), rfl, rfl, rfl, ?_⟩
  have aA := (a1.trans a2).trans a3
  have e1 : (slicePicked x (some ((a : Int), ta)) (some ((b : Int), tb)) none).filterMap (x.cps[·]?) = (x.cps.toList.drop a).take (b - a) := StrLaws.sliced_plain x hab hb
  have hx : x.length = x.cps.toList.length := by simp [Str.length]
  unfold sliceMade
  split
  · rename_i hc
    have hlen : (slicePicked x (some ((a : Int), ta)) (some ((b : Int), tb)) none) = (List.range (b - a)).map (fun k => a + k) := StrLaws.strSliceIndices_plain hab hb
    have h2 : b - a = x.length := by
      have := (Bool.and_eq_true_iff.mp hc).2
      rw [hlen] at this
      simpa using this
    have ha : a = 0 := by (first | lia | omega)
    have hb' : b = x.length := by (first | lia | omega)
    have e2 : (⟨((x.cps.toList.drop a).take (b - a)).toArray⟩ : Str) = x := by
      subst ha; subst hb'
      rw [List.drop_zero, Nat.sub_zero, hx, List.take_length]
    rw [e2]
    exact ⟨aA.trans (aA.2.keeps fun b o e => Heap.get?_push_of_some _ e), ⟨t, rfl⟩⟩
  · rw [e1]
    refine ⟨?_, aA.trans (aA.2.keeps fun b o e => Heap.get?_push_of_some _ e), ⟨_, rfl⟩⟩
    have : (⟨((x.cps.toList.drop a).take (b - a)).toArray⟩ : Str).length = ((x.cps.toList.drop a).take (b - a)).length := by simp [Str.length]
    rw [this, List.length_take, List.length_drop]
    (first | lia | omega)

theorem spec_collated {text : Str} {reach : Nat} {xs : List Int} (hbm : G.base.BuiltinsAt G.mg 99) (ht : 1 ≤ text.length) (ht2 : text.length < 1000) (hx1 : 1 ≤ xs.length) (hx2 : xs.length < 500) (hr : xs.length + reach ≤ 6 * text.length)
    (hsaid : ∀ k, k + 1 < xs.length → strN (sgn (turnS text reach ((lineF xs).getD k 0).toNat) (turnS text reach ((lineF xs).getD (k + 1) 0).toNat)) ++ strN (sgn (turnS text reach ((lineF xs).getD (k + 1) 0).toNat) (turnS text reach ((lineF xs).getD k 0).toNat)) =
      if xs.getD ((lineF xs).getD k 0).toNat 0 = xs.getD ((lineF xs).getD (k + 1) 0).toNat 0 then ("00" : Str) else ("-11" : Str)) :
    Spec G (n + 12) 102 [.str text, .int reach, .list (zs xs)] [] [] (.list (zs (lineF xs))) := fun A s vs us c r1 r2 => by
  obtain ⟨v1, _, rfl, ra, v2, _, rfl, rb, v3, _, rfl, rc, rfl⟩ := r1
  obtain rfl := r2
  refine enterE (n := n + 11) c (d102 _) (b102 _) (s102 _) (by kernel_rfl) (binds := [(Str.ofString "text", v1), (Str.ofString "reach", v2), (Str.ofString "names", v3)]) (fun S => by kernel_rfl) (by simp only [List.map]; decide) (by kernel_rfl)
    (.cons ra (.cons rb (.cons rc .nil))) fun env s₁ iE hfr hcode hqual F _ _ => gen fun Q E hQ hE => ?_
  have gb : ∀ x : String, (scopeOf (stAt 18)).names.lookup (Str.ofString x) = some .globalImplicit → env.kindOf (Str.ofString x) = some .globalImplicit := fun x h => iE.kinds _ _ h (by decide)
  have hzl : (zs xs).length = xs.length := by simp
  have hzsz : (zs xs).length < 2 ^ 20 := by rw [hzl]; (first | lia | omega)
  -- turned
  have e1 : ((List.range xs.length).filter fun _ => true).map (fun (i : Nat) => D.str (turnS text reach i)) = (List.range xs.length).map fun (i : Nat) => D.str (turnS text reach i) := by
    rw [List.filter_eq_self.mpr (fun _ _ => rfl)]
  have hrng : (List.range xs.length).map (fun (i : Nat) => D.int (i : Int)) = rng 0 1 xs.length := (rng_nat _).symm
  have hflat : (List.replicate 6 text.cps.toList).flatten.length = 6 * text.length := by simp [List.length_flatten, List.map_replicate, List.sum_replicate_nat]; show _ = 6 * text.cps.size; (first | lia | omega)
  refine st_set F (F.ev (ev_comp (ρ := [("text", .str text), ("reach", .int reach), ("names", .list (zs xs))]) (List.range xs.length) (fun (i : Nat) => D.int (i : Int)) (fun _ => true) (fun (i : Nat) => D.str (turnS text reach i)) (fun (i : Nat) => [("i", .int (i : Int))]) (ρc := [("text", .str text), ("reach", .int reach)])
    (hrng ▸ src_range1 (ev_blt (gb "range" (by kernel_rfl)) (by kernel_rfl) (by kernel_rfl)) (hzl ▸ ev_lenL (ev_blt (gb "len" (by kernel_rfl)) (by kernel_rfl) (by kernel_rfl)) (ev_name (.tail _ (.tail _ (.head _)))) (by (first | lia | omega))) (by (first | lia | omega))) rfl (by decide) (freeOk iE (by kernel_rfl))
    (.cell iE (.head _) (by kernel_rfl) (by kernel_rfl) (.cell iE (.tail _ (.head _)) (by kernel_rfl) (by kernel_rfl) .nil)) (.inl fun _ _ => rfl) (fun cenv ok' X iC x hx => tgt_name (iC.atX _ _ (by kernel_rfl) (.inl rfl)) (.tail (.tail .nil))) (fun cenv ok' X iC x hx => tests_nil)
    (fun cenv ok' X iC x hx _ => ?_) (by unfold sizeLine; simp; (first | lia | omega)))) (at_ofC iE (by kernel_rfl)) (ρ' := [("text", .str text), ("reach", .int reach), ("names", .list (zs xs)), ("turned", .list ((List.range xs.length).map fun (i : Nat) => D.str (turnS text reach i)))]) (e1 ▸ .tail (.tail (.tail .nil))) (fun s₂ F2 _ => ?_) (swaps_cell (iE.kinds _ _ (by kernel_rfl) (by decide)))
  · have hi := List.mem_range.mp hx
    have e : turnS text reach x = ⟨((((⟨(List.replicate 6 text.cps.toList).flatten.toArray⟩ : Str).cps.toList).drop x).take (x + reach - x)).toArray⟩ := by rw [Nat.add_sub_cancel_left]; rfl
    have hl6 : (⟨(List.replicate 6 text.cps.toList).flatten.toArray⟩ : Str).length = 6 * text.length := by
      show (List.replicate 6 text.cps.toList).flatten.toArray.size = _
      rw [List.size_toArray, hflat]
    rw [e]
    exact ev_partS (a := x) (b := x + reach) (ev_mulS (ev_name (.head _)) ev_int (by decide) (by decide) ht (by (first | lia | omega))) (ev_name (.tail _ (.tail _ (.head _)))) (by rw [Int.natCast_add]; exact ev_add (ev_name (.tail _ (.tail _ (.head _)))) (ev_name (.tail _ (.head _)))) (by (first | lia | omega)) (by rw [hl6]; (first | lia | omega)) (by rw [hl6]; unfold sizeLine; (first | lia | omega))
  -- line
  refine st_own F2 (evf_of F2.cx F2.sat (ds := []) evs_nil) (at_ofC iE (by kernel_rfl)) (ρ' := fun a => [("text", .str text), ("reach", .int reach), ("names", .list (zs xs)), ("turned", .list ((List.range xs.length).map fun (i : Nat) => D.str (turnS text reach i))), ("line", .val (.ref a))]) (fun a => .tail (.tail (.tail (.tail .nil)))) fun s₃ a F3 O3 _ => ?_
  have hcode' : env.code = .ref 101 := hcode.trans (c102 _)
  have hqual' : env.qual ++ "<lambda>" = lamQual := by rw [hqual]; exact q102 _
  refine st_for1 (fun i => zs (lineAt xs i)) xs.length (wp_src F3 F3.sat ⟨_, _, c⟩ (src_rangeD (L := xs.length) (ev_blt (gb "range" (by kernel_rfl)) (by kernel_rfl) (by kernel_rfl)) (by rw [← hzl]; exact ev_sub (ev_lenL (ev_blt (gb "len" (by kernel_rfl)) (by kernel_rfl) (by kernel_rfl)) (ev_name (.tail _ (.tail _ (.head _)))) (by (first | lia | omega))) ev_int) (ev_neg ev_int) (ev_neg ev_int) (by (first | lia | omega)))
    (.inl fun _ _ => rfl) fun s' x => ⟨(F3.aft x).reset, O3.aft F3.cx x⟩) (fun i d hd => by
      have := (List.getElem?_eq_some_iff.mp hd).1
      simpa [rng] using this) ?_ ?_
  · rintro i d s₄ v hd F4 O4 rd
    have hi : i < xs.length := by
      have := (List.getElem?_eq_some_iff.mp hd).1
      simpa [rng] using this
    have hdv : d = .int ((xs.length - 1 - i : Nat) : Int) := by
      simp only [rng, List.getElem?_map] at hd
      rw [List.getElem?_range hi] at hd
      simp at hd
      rw [← hd]; congr 1; (first | lia | omega)
    subst hdv
    refine F4.assign (tgtN (at_of iE (by kernel_rfl)) (ρ' := [("text", .str text), ("reach", .int reach), ("names", .list (zs xs)), ("turned", .list ((List.range xs.length).map fun (i : Nat) => D.str (turnS text reach i))), ("line", .val (.ref a)), ("i", .int ((xs.length - 1 - i : Nat) : Int))]) (.tail (.tail (.tail (.tail (.tail .nil)))))) rd fun s₅ F5 k5 => ?_
    have O5 := k5 _ _ O4
    refine st_insortL (n := n + 2) (l := lineAt xs i) (xs := xs) (j := xs.length - 1 - i) (z := "one") (y := "names") F5 O5 (ev_glob (gb "insort_left" (by kernel_rfl)) (by kernel_rfl)) (.tail _ (.tail _ (.tail _ (.tail _ (.head _))))) (ev_name (.tail _ (.tail _ (.tail _ (.tail _ (.tail _ (.head _)))))))
      hcode' hqual' hbm ⟨rfl, rfl⟩ rfl (.tail _ (.tail _ (.head _))) (iE.kinds _ _ (by kernel_rfl) (by decide)) (by (first | lia | omega)) (lineAt_mem xs i (by (first | lia | omega))) (by (first | lia | omega)) (by rw [lineAt_len]; (first | lia | omega)) rfl rfl rfl (by decide) (by kernel_rfl) (by kernel_rfl) (by decide) (fun cc h => ?_) (fun cl pm c' ctv v => ?_) (fun j n' B env' ok' hj => ?_) fun s₆ F6 O6 => wpAny_execs_nil ⟨F6.sub fun p hp => ?_, ?_⟩
    · exact closure_one rfl h
    · first | rfl | kernel_rfl
    · exact ev_item (k := (j : Int)) (ev_name (.head _)) (ev_name (.tail _ (.head _))) (by (first | lia | omega)) (by (first | lia | omega)) (zs_get hj)
    · simp only [List.mem_cons, List.not_mem_nil, or_false] at hp ⊢
      rcases hp with q | q | q | q | q <;> simp [q]
    · rw [lineAt_step]; exact O6
  · rintro i s₄ hf F4 O4
    refine no_orelse ?_
    have hi : i = xs.length := by simpa [rng] using hf
    subst hi
    have F5 := F4.merge O4 (.tail _ (.tail _ (.tail _ (.tail _ (.head _)))))
    have a0 := O4.new
    have hln : (lineF xs).length = xs.length := lineAt_len xs xs.length
    have hll : ((zs (lineF xs)).length : Int) - 1 = ((xs.length - 1 : Nat) : Int) := by rw [List.length_map, hln]; (first | lia | omega)
    have hlz : ((zs (lineF xs)).length : Int) < 2 ^ 63 := by rw [List.length_map, hln]; (first | lia | omega)
    have hget : ∀ k, k < xs.length → 0 ≤ (lineF xs).getD k 0 ∧ (lineF xs).getD k 0 < xs.length := fun k hk => by
      rw [List.getD_eq_getElem?_getD, List.getElem?_eq_getElem (by (first | lia | omega))]
      exact lineAt_mem xs xs.length (Nat.le_refl _) _ (List.getElem_mem _)
    have e2 : ((List.range (xs.length - 1)).filter fun _ => true).map (fun (k : Nat) => D.tup [.int ((lineF xs).getD k 0), .int ((lineF xs).getD (k + 1) 0)]) = (List.range (xs.length - 1)).map fun (k : Nat) => D.tup [.int ((lineF xs).getD k 0), .int ((lineF xs).getD (k + 1) 0)] := by
      rw [List.filter_eq_self.mpr (fun _ _ => rfl)]
    have hrng2 : (List.range (xs.length - 1)).map (fun (i : Nat) => D.int (i : Int)) = rng 0 1 (xs.length - 1) := (rng_nat _).symm
    refine st_comp (y := "pairs") (List.range (xs.length - 1)) (fun (i : Nat) => D.int (i : Int)) (fun _ => true) (fun (k : Nat) => D.tup [.int ((lineF xs).getD k 0), .int ((lineF xs).getD (k + 1) 0)]) (fun (i : Nat) => [("k", .int (i : Int))]) (ρc := [("line", .list (zs (lineF xs)))]) F5 ⟨_, _, c⟩
      (hrng2 ▸ src_range1 (ev_blt (gb "range" (by kernel_rfl)) (by kernel_rfl) (by kernel_rfl)) (by rw [← hll]; exact ev_sub (ev_lenL (ev_blt (gb "len" (by kernel_rfl)) (by kernel_rfl) (by kernel_rfl)) (ev_name (.head _)) hlz) ev_int) (by (first | lia | omega))) rfl (by decide) (freeOk iE (by kernel_rfl))
      (.cell iE (.head _) (by kernel_rfl) (by kernel_rfl) .nil) (.inl fun _ _ => rfl) (fun cenv ok' X iC x hx => tgt_name (iC.atX _ _ (by kernel_rfl) (.inl rfl)) (.tail .nil)) (fun cenv ok' X iC x hx => tests_nil)
      (fun cenv ok' X iC k hk _ => ?_) (by unfold sizeLine; simp; (first | lia | omega)) (iE.kinds _ _ (by kernel_rfl) (by decide)) (ρ' := ("line", .list (zs (lineF xs))) :: [("text", .str text), ("reach", .int reach), ("names", .list (zs xs)), ("turned", .list ((List.range xs.length).map fun (i : Nat) => D.str (turnS text reach i))), ("line", .val (.ref a)), ("pairs", .list ((List.range (xs.length - 1)).map fun (k : Nat) => D.tup [.int ((lineF xs).getD k 0), .int ((lineF xs).getD (k + 1) 0)]))]) (e2 ▸ .tail (.tail (.tail (.tail (.tail (.tail .nil)))))) fun s₅ F6 _ => ?_
    · have hk' := List.mem_range.mp hk
      refine ev_tup (evs_cons (ev_item (k := (k : Int)) (ev_name (.head _)) (ev_name (.tail _ (.head _))) (by (first | lia | omega)) (by (first | lia | omega)) (by rw [Int.toNat_natCast]; exact zs_get (by (first | lia | omega)))) (evs_one (ev_item (k := ((k + 1 : Nat) : Int)) (ev_name (.head _)) (by rw [Int.natCast_add]; exact ev_add (ev_name (.tail _ (.head _))) ev_int) (by (first | lia | omega)) (by (first | lia | omega)) (by rw [Int.toNat_natCast]; exact zs_get (by (first | lia | omega)))))) (by unfold sizeLine; simp)
    have hsg : ∀ u v : Str, (sgn u v).natAbs.log2 < 1920 ∧ (strN (sgn u v)).length ≤ 2 := fun u v => by
      unfold sgn
      split <;> split <;> exact ⟨by decide, by decide⟩
    have hT : ∀ v : Int, 0 ≤ v → v < xs.length → ((List.range xs.length).map fun (i : Nat) => D.str (turnS text reach i))[v.toNat]? = some (.str (turnS text reach v.toNat)) := fun v h0 h1 => by
      rw [List.getElem?_map, List.getElem?_range (by (first | lia | omega))]; rfl
    have hpm : ∀ p ∈ prsF xs, (0 ≤ p.1 ∧ p.1 < xs.length) ∧ (0 ≤ p.2 ∧ p.2 < xs.length) := fun p hp => by
      obtain ⟨k, hk, rfl⟩ := List.mem_map.mp hp
      have := List.mem_range.mp hk
      exact ⟨hget k (by (first | lia | omega)), hget (k + 1) (by (first | lia | omega))⟩
    have e3 : ((prsF xs).filter fun _ => true).map (saidF text reach) = (prsF xs).map (saidF text reach) := by
      rw [List.filter_eq_self.mpr (fun _ _ => rfl)]
    have e4 : ((prsF xs).filter fun _ => true).map (expF xs) = (prsF xs).map (saidF text reach) := by
      rw [List.filter_eq_self.mpr (fun _ _ => rfl)]
      refine List.map_congr_left fun p hp => ?_
      obtain ⟨k, hk, rfl⟩ := List.mem_map.mp hp
      have := List.mem_range.mp hk
      simp only [saidF, expF]
      rw [hsaid k (by (first | lia | omega))]
    have e5 : (prsF xs).map (fun p => D.tup [.int p.1, .int p.2]) = (List.range (xs.length - 1)).map fun (k : Nat) => D.tup [.int ((lineF xs).getD k 0), .int ((lineF xs).getD (k + 1) 0)] := by
      rw [prsF, List.map_map]; rfl
    have hpl : (prsF xs).length < 500 := by simp [prsF]; (first | lia | omega)
    refine st_comp (y := "said") (prsF xs) (fun p => D.tup [.int p.1, .int p.2]) (fun _ => true) (saidF text reach) (fun p => [("a", .int p.1), ("b", .int p.2)]) (ρc := [("turned", .list ((List.range xs.length).map fun (i : Nat) => D.str (turnS text reach i)))]) F6 ⟨_, _, c⟩
      (by rw [e5]; exact src_list (ev_name (.tail _ (.tail _ (.tail _ (.tail _ (.tail _ (.tail _ (.head _))))))))) rfl (by decide) (freeOk iE (by kernel_rfl))
      (.cell iE (.tail _ (.tail _ (.tail _ (.tail _ (.head _))))) (by kernel_rfl) (by kernel_rfl) .nil) (.inr ⟨rfl, ⟨_, _, _, rfl⟩, fun x _ => ⟨_, rfl⟩⟩) (fun cenv ok' X iC x hx => tgt_pair (tgt_name (iC.atX _ _ (by kernel_rfl) (.inl rfl)) (.tail .nil)) (tgt_name (iC.atX _ _ (by kernel_rfl) (.inl rfl)) (.tail (.tail .nil)))) (fun cenv ok' X iC x hx => tests_nil)
      (fun cenv ok' X iC p hp _ => ?_) (by unfold sizeLine; (first | lia | omega)) (iE.kinds _ _ (by kernel_rfl) (by decide)) (ρ' := ("line", .list (zs (lineF xs))) :: [("text", .str text), ("reach", .int reach), ("names", .list (zs xs)), ("turned", .list ((List.range xs.length).map fun (i : Nat) => D.str (turnS text reach i))), ("line", .val (.ref a)), ("pairs", .list ((List.range (xs.length - 1)).map fun (k : Nat) => D.tup [.int ((lineF xs).getD k 0), .int ((lineF xs).getD (k + 1) 0)])), ("said", .list ((prsF xs).map (saidF text reach)))]) (e3 ▸ .tail (.tail (.tail (.tail (.tail (.tail (.tail .nil))))))) fun s₆ F7 _ => ?_
    · obtain ⟨⟨p0, p1⟩, q0, q1⟩ := hpm p hp
      have hc : ∀ x : String, _ → cenv.kindOf (Str.ofString x) = some .globalImplicit := fun x h => iC.kinds _ _ h (by decide)
      have eT : ∀ {e : Expr} {v : Int} {pos p' : Pos}, 0 ≤ v → v < xs.length → Ev G (n + 11) (A.deeper env) cenv ok' ([("turned", .list ((List.range xs.length).map fun (i : Nat) => D.str (turnS text reach i)))] ++ [("a", .int p.1), ("b", .int p.2)]) e (.int v) → PlainSlice e →
          Ev G (n + 11) (A.deeper env) cenv ok' ([("turned", .list ((List.range xs.length).map fun (i : Nat) => D.str (turnS text reach i)))] ++ [("a", .int p.1), ("b", .int p.2)]) (.Subscript (.Name (Str.ofString "turned") p') e pos) (.str (turnS text reach v.toNat)) := fun h0 h1 he hs =>
        ev_item (ev_name (.head _)) he h0 (by (first | lia | omega)) (hT _ h0 h1) hs
      have ea := fun pp => ev_name (G := G) (n := n + 11) (A := A.deeper env) (env := cenv) (ok := ok') (ρ := ([("turned", .list ((List.range xs.length).map fun (i : Nat) => D.str (turnS text reach i)))] ++ [("a", .int p.1), ("b", .int p.2)])) (x := "a") (d := .int p.1) (pos := pp) (.tail _ (.head _))
      have eb := fun pp => ev_name (G := G) (n := n + 11) (A := A.deeper env) (env := cenv) (ok := ok') (ρ := ([("turned", .list ((List.range xs.length).map fun (i : Nat) => D.str (turnS text reach i)))] ++ [("a", .int p.1), ("b", .int p.2)])) (x := "b") (d := .int p.2) (pos := pp) (.tail _ (.tail _ (.head _)))
      refine ev_addS (ev_strI (ev_blt (hc "str" (by kernel_rfl)) (by kernel_rfl) (by kernel_rfl)) (ev_call (fa := 54) (kds := []) (names := []) (m := n + 1) (ev_glob (hc "_strcoll" (by kernel_rfl)) (by kernel_rfl)) (evs_cons (eT p0 p1 (ea _) (by intro _ _; rfl)) (evs_one (eT q0 q1 (eb _) (by intro _ _; rfl)))) ekw_nil (d54 _) spec_strcoll (by (first | lia | omega))) (hsg _ _).1)
        (ev_strI (ev_blt (hc "str" (by kernel_rfl)) (by kernel_rfl) (by kernel_rfl)) (ev_call (fa := 54) (kds := []) (names := []) (m := n + 1) (ev_glob (hc "_strcoll" (by kernel_rfl)) (by kernel_rfl)) (evs_cons (eT q0 q1 (eb _) (by intro _ _; rfl)) (evs_one (eT p0 p1 (ea _) (by intro _ _; rfl)))) ekw_nil (d54 _) spec_strcoll (by (first | lia | omega))) (hsg _ _).1) ?_
      have h1 := (hsg (turnS text reach p.1.toNat) (turnS text reach p.2.toNat)).2
      have h2 := (hsg (turnS text reach p.2.toNat) (turnS text reach p.1.toNat)).2
      unfold sizeLine
      show (strN _).length + (strN _).length ≤ _
      (first | lia | omega)
    refine st_retE (x := "line") F7 (.head _) (.tail _ (.tail _ (.tail _ (.tail _ (.tail _ (.head _)))))) a0 (ev_ifexp (b := true) (tst_cmp (ev_name (.tail _ (.tail _ (.tail _ (.tail _ (.tail _ (.tail _ (.tail _ (.head _))))))))) (e4 ▸ ev_comp (prsF xs) (fun p => D.tup [.int p.1, .int p.2]) (fun _ => true) (expF xs) (fun p => [("a", .int p.1), ("b", .int p.2)]) (ρc := [("names", .list (zs xs))])
      (by rw [e5]; exact src_list (ev_name (.tail _ (.tail _ (.tail _ (.tail _ (.tail _ (.tail _ (.head _))))))))) rfl (by decide) (freeOk iE (by kernel_rfl)) (.cell iE (.tail _ (.tail _ (.tail _ (.head _)))) (by kernel_rfl) (by kernel_rfl) .nil) (.inr ⟨rfl, ⟨_, _, _, rfl⟩, fun x _ => ⟨_, rfl⟩⟩)
      (fun cenv ok' X iC x hx => tgt_pair (tgt_name (iC.atX _ _ (by kernel_rfl) (.inl rfl)) (.tail .nil)) (tgt_name (iC.atX _ _ (by kernel_rfl) (.inl rfl)) (.tail (.tail .nil)))) (fun cenv ok' X iC x hx => tests_nil) (fun cenv ok' X iC p hp _ => ?_) (by unfold sizeLine; (first | lia | omega))) (cmp_eqT (k := 1) (fun d hd => ?_) (by decide)))
      (fun _ => ev_name (.tail _ (.tail _ (.tail _ (.tail _ (.tail _ (.head _)))))))  fun h => nomatch h) (fun d hd => by obtain ⟨x, _, rfl⟩ := List.mem_map.mp hd; trivial) fun s' v F' r => hQ _ _ ⟨v, rfl, F'.done c, r⟩
    · obtain ⟨p, _, rfl⟩ := List.mem_map.mp hd
      trivial
    · obtain ⟨⟨p0, p1⟩, q0, q1⟩ := hpm p hp
      have hg : ∀ v : Int, 0 ≤ v → v < xs.length → (zs xs)[v.toNat]? = some (.int (xs.getD v.toNat 0)) := fun v h0 h1 => zs_get (by (first | lia | omega))
      refine ev_ifexp (b := xs.getD p.1.toNat 0 == xs.getD p.2.toNat 0) (tst_cmp (ev_item (ev_name (.head _)) (ev_name (.tail _ (.head _))) p0 (by (first | lia | omega)) (hg _ p0 p1)) (ev_item (ev_name (.head _)) (ev_name (.tail _ (.tail _ (.head _)))) q0 (by (first | lia | omega)) (hg _ q0 q1)) cmp_eq) (fun h => ?_) fun h => ?_
      · rw [expF, if_pos (beq_iff_eq.mp h)]; exact ev_str
      · rw [expF, if_neg (by simpa using h)]; exact ev_str
end
end Mine
/-! B35 -/
namespace Mine

/-- the plain facts that the law's end asks -/
structure LawQ (N : Nat) (dg sizes : List Nat) (text : Str) (K T : Nat) (Nm : Nat → List Nat) (mx : Nat → Nat) (out : Nat → List (List Int × Int)) (pls : Nat → List Nat) : Prop where
  n1 : 1 ≤ N
  n2 : N ≤ 12
  dl : dg.length = N
  tl : text.cps.size = N
  sz1 : ∀ i, 2 ≤ szF sizes i ∧ szF sizes i ≤ 4
  kk : K ≤ 4
  r1 : ∀ i, i < K → rchF sizes i < N
  r2 : N ≤ rchF sizes K
  r3 : ∀ i, i ≤ K → rchF sizes i ≤ 4 * N
  nm : ∀ i, i ≤ K → (Nm i).length = N ∧ ∀ v ∈ Nm i, v < N
  h0 : ranksF (signsD text) = nats (Nm 0)
  hS : ∀ i, i < K → ranksF (zs (nats (joinF (Nm i) (szF sizes i) (rchF sizes i)))) = nats (Nm (i + 1))
  mx1 : ∀ i, i ≤ K → mx i ∈ Nm i ∧ ∀ v ∈ Nm i, v ≤ mx i
  t1 : 1 ≤ T ∧ T ≤ N
  t2 : dg.drop T ++ dg.take T = dg
  t3 : ∀ k, 1 ≤ k → k ≤ N → dg.drop k ++ dg.take k = dg → T ≤ k
  t4 : mx K + 1 = T
  mono : ∀ k, k < K → mx k ≤ mx (k + 1) ∧ (mx k = mx (k + 1) → mx K = mx (k + 1))
  due1 : ∀ i, i ≤ K → (out i).Perm (dueRows (List.replicate 6 (nats dg)).flatten (rchF sizes i) N) ∧ (out i).Pairwise fun x y => rowLt x y = true
  due2 : ∀ i, i ≤ K → (out i).map (·.2) = lineF (nats (Nm i)) ∧ dueAt (out i) N (N - 1) = nats (Nm i)
  said : ∀ i, i ≤ K → ∀ k, k + 1 < N → strN (sgn (turnS text (rchF sizes i) ((lineF (nats (Nm i))).getD k 0).toNat) (turnS text (rchF sizes i) ((lineF (nats (Nm i))).getD (k + 1) 0).toNat)) ++ strN (sgn (turnS text (rchF sizes i) ((lineF (nats (Nm i))).getD (k + 1) 0).toNat) (turnS text (rchF sizes i) ((lineF (nats (Nm i))).getD k 0).toNat)) =
      if (nats (Nm i)).getD ((lineF (nats (Nm i))).getD k 0).toNat 0 = (nats (Nm i)).getD ((lineF (nats (Nm i))).getD (k + 1) 0).toNat 0 then ("00" : Str) else ("-11" : Str)
  pl1 : ∀ v, v < T → pls v ≠ [] ∧ pls v = (List.range N).filter fun i => decide ((Nm K).getD i 0 = v)
  pl2 : ∀ v, v < T → ∃ M, nats (pls v) = marksF ((pls v).headD 0) T M ∧ ∀ j, (pls v).headD 0 + j * T < N ↔ j < M

noncomputable def wordsL : List Str := ["OPTIMIZED", "NEWLOCALS", "VARARGS", "VARKEYWORDS", "NESTED", "GENERATOR", "NOFREE", "COROUTINE", "ITERABLE_COROUTINE", "ASYNC_GENERATOR", "0x400", "0x800"]
theorem flagW_words : ∀ i, i < 12 → flagW i = wordsL.getD i "" := by
  have : (List.range 12).all (fun i => flagW i == wordsL.getD i "") = true := by decide +kernel
  intro i hi
  exact beq_iff_eq.mp (List.all_eq_true.mp this i (List.mem_range.mpr hi))

/-- a number of some signs -/
noncomputable def bitsOf (l : List Nat) : Nat := (l.map fun i => 2 ^ i).sum
theorem pure_zs (k : Nat) (l : List Int) : Pure (k + 1) (.list (zs l)) := by
  intro d hd
  obtain ⟨x, _, rfl⟩ := List.mem_map.mp hd
  cases k <;> trivial
theorem zs_flat (k : Nat) (l : List Int) : (List.replicate k (zs l)).flatten = zs (List.replicate k l).flatten := by
  simp [zs, List.map_flatten]

theorem valOf_snoc (l : List Nat) (v : Nat) : valOf (l ++ [v]) = valOf l * 64 + v := by simp [valOf]
theorem valOf_sum (f : Nat → Nat) : ∀ m, (valOf ((List.range m).map f) : Int) = ((List.range m).map fun k => (f k : Int) * 64 ^ (m - 1 - k)).sum
  | 0 => rfl
  | m + 1 => by
    rw [List.range_succ, List.map_append, List.map_append, List.sum_append]
    have e : (List.range m).map (fun k => (f k : Int) * 64 ^ (m + 1 - 1 - k)) = ((List.range m).map fun k => (f k : Int) * 64 ^ (m - 1 - k)).map (· * 64) := by
      rw [List.map_map]
      refine List.map_congr_left fun k hk => ?_
      have := List.mem_range.mp hk
      show (f k : Int) * 64 ^ (m + 1 - 1 - k) = (f k : Int) * 64 ^ (m - 1 - k) * 64
      rw [show m + 1 - 1 - k = (m - 1 - k) + 1 by (first | lia | omega), Int.pow_succ, Int.mul_assoc]
    have hs : ∀ l : List Int, (l.map (· * 64)).sum = l.sum * 64 := fun l => by
      induction l with
      | nil => rfl
      | cons a l ih => simp only [List.map_cons, List.sum_cons, ih, Int.add_mul]
    rw [e, hs, ← valOf_sum f m]
    simp only [List.map_cons, List.map_nil, valOf_snoc, List.sum_cons, List.sum_nil]
    have : m + 1 - 1 - m = 0 := by (first | lia | omega)
    rw [this]
    push_cast
    (first | lia | omega)
/-- the numbers that are summed up -/
noncomputable def sumF (names : List Nat) (size step N i : Nat) : List Int := (List.range size).map fun k => (names.getD ((i + k * step) % N) 0 : Int) * 64 ^ (size - 1 - k)
theorem joined_sum (names : List Nat) (size step i : Nat) : (valOf (digitsOf names size step i) : Int) = (sumF names size step names.length i).sum := valOf_sum _ _

theorem bits_lt (P : Nat → Bool) : ∀ N, bitsOf ((List.range N).filter P) < 2 ^ N ∧ ∀ j, (bitsOf ((List.range N).filter P)).testBit j = (decide (j < N) && P j)
  | 0 => ⟨by simp [bitsOf], fun j => by simp [bitsOf]⟩
  | N + 1 => by
    obtain ⟨h1, h2⟩ := bits_lt P N
    have e : bitsOf ((List.range (N + 1)).filter P) = bitsOf ((List.range N).filter P) + if P N then 2 ^ N else 0 := by
      rw [List.range_succ, List.filter_append, bitsOf, List.map_append, List.sum_append]
      cases h : P N <;> simp [h, bitsOf]
    rw [e]
    cases h : P N with
    | false =>
      refine ⟨by simp; rw [Nat.pow_succ]; (first | lia | omega), fun j => ?_⟩
      simp only [Bool.false_eq_true, if_false, Nat.add_zero, h2]
      by_cases hj : j = N
      · subst hj; simp [h]
      · have : decide (j < N + 1) = decide (j < N) := by simp; (first | lia | omega)
        rw [this]
    | true =>
      refine ⟨by simp; rw [Nat.pow_succ]; (first | lia | omega), fun j => ?_⟩
      simp only [if_true]
      rw [Nat.add_comm]
      by_cases hj : j = N
      · subst hj
        rw [Nat.testBit_two_pow_add_eq, h2]; simp [h]
      · by_cases hlt : j < N
        · rw [Nat.testBit_two_pow_add_gt hlt, h2]
          have : decide (j < N + 1) = decide (j < N) := by simp; (first | lia | omega)
          rw [this]
        · have hb : (2 ^ N + bitsOf ((List.range N).filter P)).testBit j = false := by
            refine Nat.testBit_lt_two_pow ?_
            calc 2 ^ N + bitsOf ((List.range N).filter P) < 2 ^ N + 2 ^ N := by (first | lia | omega)
              _ = 2 ^ (N + 1) := by rw [Nat.pow_succ]; (first | lia | omega)
              _ ≤ 2 ^ j := Nat.pow_le_pow_right (by decide) (by (first | lia | omega))
          rw [hb]; simp; (first | lia | omega)
theorem filter_upto (P : Nat → Bool) (N : Nat) : ∀ M, N ≤ M → (List.range M).filter (fun j => decide (j < N) && P j) = (List.range N).filter P
  | 0, h => by
    have : N = 0 := by (first | lia | omega)
    subst this; rfl
  | M + 1, h => by
    by_cases hM : N = M + 1
    · subst hM
      refine List.filter_congr fun j hj => ?_
      have := List.mem_range.mp hj
      simp [this]
    · rw [List.range_succ, List.filter_append, filter_upto P N M (by (first | lia | omega))]
      have : ¬ M < N := by (first | lia | omega)
      simp [this]
theorem names_bits (P : Nat → Bool) {N : Nat} (hN : N ≤ 12) : namesTo (bitsOf ((List.range N).filter P)) 32 = ((List.range N).filter P).map fun i => wordsL.getD i "" := by
  unfold namesTo
  have : (List.range 32).filter (fun j => (bitsOf ((List.range N).filter P)).testBit j) = (List.range N).filter P := by
    refine Eq.trans ?_ (filter_upto P N 32 (by (first | lia | omega)))
    exact List.filter_congr fun j _ => (bits_lt P N).2 j
  rw [this]
  refine List.map_congr_left fun i hi => flagW_words i ?_
  have := List.mem_range.mp (List.mem_filter.mp hi).1
  (first | lia | omega)

section
variable {G : W0} {n : Nat} {A : Around} {env : Env} {ok : Addr → Prop} {ρ : List (String × D)}
theorem ev_eqI {l r : Expr} {pos : Pos} {a b : Int} (hl : Ev G n A env ok ρ l (.int a)) (hr : Ev G n A env ok ρ r (.int b)) (h : a = b) (hm : behindInMarks .Eq r = false := by rfl) : Ev G n A env ok ρ (.Compare l [.Eq] [r] pos) (.bool true) := by
  have := ev_cmpC (pos := pos) hl hr (cmp_eq (a := a) (b := b)) hm
  rw [h, beq_self_eq_true] at this
  exact this
theorem ev_eqL {l r : Expr} {pos : Pos} {a b : List D} {k : Nat} (hl : Ev G (n + 1) A env ok ρ l (.list a)) (hr : Ev G (n + 1) A env ok ρ r (.list b)) (h : a = b) (hp : ∀ d ∈ a, Pure k d) (hk : k ≤ 10) (hm : behindInMarks .Eq r = false := by rfl) : Ev G (n + 1) A env ok ρ (.Compare l [.Eq] [r] pos) (.bool true) := by
  subst h
  exact ev_cmpC hl hr (cmp_eqT hp hk) hm
theorem ev_eqS {l r : Expr} {pos : Pos} {a b : Str} (hl : Ev G n A env ok ρ l (.str a)) (hr : Ev G n A env ok ρ r (.str b)) (h : a = b) (hm : behindInMarks .Eq r = false := by rfl) : Ev G n A env ok ρ (.Compare l [.Eq] [r] pos) (.bool true) := by
  subst h
  refine ev_cmpC hl hr (fun s x y c ⟨t, hx⟩ ⟨u, hy⟩ => ?_) hm
  subst hx hy
  exact PyProof.Rows.eq_str ⟨c.refl, by simp⟩

noncomputable abbrev histD (sizes : List Nat) (Nm : Nat → List Nat) (K : Nat) : List D := (List.range (K + 1)).map (hD sizes Nm)
noncomputable abbrev readD (sizes : List Nat) (Nm : Nat → List Nat) (K : Nat) : List D := (List.range K).map (rD sizes Nm)
noncomputable abbrev rsF (sizes : List Nat) (K : Nat) : List Int := (List.range (K + 1)).map fun i => (rchF sizes i : Int)
noncomputable abbrev cnF (mx : Nat → Nat) (K : Nat) : List Int := (List.range (K + 1)).map fun i => (mx i : Int) + 1
noncomputable abbrev alD (pls : Nat → List Nat) (T : Nat) : List D := (List.range T).map fun v => .list (zs (nats (pls v)))
noncomputable abbrev enF (sizes : List Nat) : List Int := (List.range (sizes.length + 4)).map fun i => (szF sizes i : Int)
/-- the names at the end -/
noncomputable abbrev rL (xs cs : List Int) (W : Int) (N : Nat) (dg sizes : List Nat) (text : Str) (K T : Nat) (Nm : Nat → List Nat) (mx : Nat → Nat) (pls : Nat → List Nat) : List (String × D) :=
  [("script", .list (zs xs)), ("cells", .list (zs cs)), ("wide", .int W), ("digits", .list (zs (nats dg))), ("count", .int N), ("text", .str text), ("sizes", .list (zs (nats sizes))), ("history", .list (histD sizes Nm K)), ("read", .list (readD sizes Nm K)), ("endless", .list (zs (enF sizes))),
    ("reaches", .list (zs (rsF sizes K))), ("names", .list (zs (nats (Nm K)))), ("counts", .list (zs (cnF mx K))), ("turn", .int T), ("words", .list (wordsL.map .str)), ("alike", .list (alD pls T))]

theorem law_ret {xs cs : List Int} {W : Int} {N : Nat} {dg sizes : List Nat} {text : Str} {K T : Nat} {Nm : Nat → List Nat} {mx : Nat → Nat} {out : Nat → List (List Int × Int)} {pls : Nat → List Nat} {X : Addr → Prop} {s s₀ sT : Shared} {Q : Flow → Shared → Prop} {E : Value → Shared → Prop}
    (q : LawQ N dg sizes text K T Nm mx out pls) (hbm : G.base.BuiltinsAt G.mg 99) (iE : IsComp (scopeOf (stAt 20)) env X)
    (F : Fst G (n + 14) A env ok (rL xs cs W N dg sizes text K T Nm mx pls) s₀ sT s) (h : ∀ s' v, Fst G (n + 14) A env ok (rL xs cs W N dg sizes text K T Nm mx pls) s₀ sT s' → v = .bool true → Q (.ret v) s') :
    wpAny G.M A (execs ((bodyOf (stAt 20)).drop 15) env) Q E s := by
  have gb : ∀ x : String, (scopeOf (stAt 20)).names.lookup (Str.ofString x) = some .globalImplicit → env.kindOf (Str.ofString x) = some .globalImplicit := fun x h => iE.kinds _ _ h (by decide)
  have mHist : ("history", D.list (histD sizes Nm K)) ∈ rL xs cs W N dg sizes text K T Nm mx pls := (.tail _ (.tail _ (.tail _ (.tail _ (.tail _ (.tail _ (.tail _ (.head _))))))))
  have mReach : ("reaches", D.list (zs (rsF sizes K))) ∈ rL xs cs W N dg sizes text K T Nm mx pls := (.tail _ (.tail _ (.tail _ (.tail _ (.tail _ (.tail _ (.tail _ (.tail _ (.tail _ (.tail _ (.head _)))))))))))
  have mCounts : ("counts", D.list (zs (cnF mx K))) ∈ rL xs cs W N dg sizes text K T Nm mx pls := (.tail _ (.tail _ (.tail _ (.tail _ (.tail _ (.tail _ (.tail _ (.tail _ (.tail _ (.tail _ (.tail _ (.tail _ (.head _)))))))))))))
  have mText : ("text", D.str text) ∈ rL xs cs W N dg sizes text K T Nm mx pls := (.tail _ (.tail _ (.tail _ (.tail _ (.tail _ (.head _))))))
  have mDig : ("digits", D.list (zs (nats dg))) ∈ rL xs cs W N dg sizes text K T Nm mx pls := (.tail _ (.tail _ (.tail _ (.head _))))
  have mCount : ("count", D.int N) ∈ rL xs cs W N dg sizes text K T Nm mx pls := (.tail _ (.tail _ (.tail _ (.tail _ (.head _)))))
  have mEnd : ("endless", D.list (zs (enF sizes))) ∈ rL xs cs W N dg sizes text K T Nm mx pls := (.tail _ (.tail _ (.tail _ (.tail _ (.tail _ (.tail _ (.tail _ (.tail _ (.tail _ (.head _))))))))))
  have mTurn : ("turn", D.int T) ∈ rL xs cs W N dg sizes text K T Nm mx pls := (.tail _ (.tail _ (.tail _ (.tail _ (.tail _ (.tail _ (.tail _ (.tail _ (.tail _ (.tail _ (.tail _ (.tail _ (.tail _ (.head _))))))))))))))
  have mRead : ("read", D.list (readD sizes Nm K)) ∈ rL xs cs W N dg sizes text K T Nm mx pls := (.tail _ (.tail _ (.tail _ (.tail _ (.tail _ (.tail _ (.tail _ (.tail _ (.head _)))))))))
  have mWords : ("words", D.list (wordsL.map .str)) ∈ rL xs cs W N dg sizes text K T Nm mx pls := (.tail _ (.tail _ (.tail _ (.tail _ (.tail _ (.tail _ (.tail _ (.tail _ (.tail _ (.tail _ (.tail _ (.tail _ (.tail _ (.tail _ (.head _)))))))))))))))
  have mAlike : ("alike", D.list (alD pls T)) ∈ rL xs cs W N dg sizes text K T Nm mx pls := (.tail _ (.tail _ (.tail _ (.tail _ (.tail _ (.tail _ (.tail _ (.tail _ (.tail _ (.tail _ (.tail _ (.tail _ (.tail _ (.tail _ (.tail _ (.head _))))))))))))))))
  have q1 := q.n1
  have q2 := q.n2
  have qk := q.kk
  have htl : text.length = N := q.tl
  have filt : ∀ {α : Type} (l : List α), l.filter (fun _ => true) = l := fun l => List.filter_eq_self.mpr fun _ _ => rfl
  have hcl : ((zs (cnF mx K)).length : Int) = K + 1 := by simp [cnF]
  have hrl : ((zs (rsF sizes K)).length : Int) = K + 1 := by simp [rsF]
  have hcg : ∀ i, i ≤ K → (zs (cnF mx K))[i]? = some (.int ((mx i : Int) + 1)) := fun i hi => by
    rw [zs, List.getElem?_map, cnF, List.getElem?_map, List.getElem?_range (by (first | lia | omega))]; rfl
  have hrg : ∀ i, i ≤ K → (zs (rsF sizes K))[i]? = some (.int (rchF sizes i)) := fun i hi => by
    rw [zs, List.getElem?_map, rsF, List.getElem?_map, List.getElem?_range (by (first | lia | omega))]; rfl
  have hhg : ∀ i, i ≤ K → (histD sizes Nm K)[i]? = some (hD sizes Nm i) := fun i hi => by
    rw [histD, List.getElem?_map, List.getElem?_range (by (first | lia | omega))]; rfl
  refine st_ret F (ev_conj ?_ (ev_conj ?_ (ev_conj ?_ (ev_conj ?_ (ev_conj ?_ (ev_conj ?_ (ev_conj1 (d := .bool true) ?_))))))) fun s' v F' r => h s' v F' (by simpa only [Rel] using r)
  · -- the reaches
    refine ev_eqL (n := n + 13) (k := 0) (ev_comp (List.range (K + 1)) (hD sizes Nm) (fun _ => true) (fun i => D.int (rchF sizes i)) (fun i => [("reach", .int (rchF sizes i)), ("told", .list (zs (nats (Nm i))))]) (ρc := []) (src_list (ev_name mHist)) rfl (by decide) (freeOk iE (by kernel_rfl)) .nil (.inr ⟨rfl, ⟨_, _, _, rfl⟩, fun x _ => ⟨_, rfl⟩⟩)
      (fun cenv ok' X iC x hx => tgt_pair (tgt_name (iC.atX _ _ (by kernel_rfl) (.inl rfl)) .nil) (tgt_name (iC.atX _ _ (by kernel_rfl) (.inl rfl)) (.tail .nil))) (fun cenv ok' X iC x hx => tests_nil) (fun cenv ok' X iC x hx _ => ev_name (.head _)) (by unfold sizeLine; simp; (first | lia | omega))) (ev_name mReach) ?_ ?_ (by decide)
    · rw [filt, zs, List.map_map]; rfl
    · intro d hd; obtain ⟨x, _, rfl⟩ := List.mem_map.mp hd; trivial
  · -- the last count
    refine ev_eqI (ev_last (ev_name mCounts) (ev_neg ev_int) (d := .int ((mx K : Int) + 1)) ?_) (ev_name mTurn) ?_
    · rw [List.getLast?_eq_getElem?]; simp [cnF]
    · have := q.t4; (first | lia | omega)
  · -- the counts
    have hsrc : ((zs (cnF mx K)).length - 1 : Int).toNat = K := by rw [hcl]; (first | lia | omega)
    refine ev_eqL (n := n + 13) (k := 0) (a := []) (b := []) (by
      have e : (((List.range K).filter fun _ => false).map fun (i : Nat) => D.int (1 + (i : Int) * 1)) = [] := by rw [List.filter_eq_nil_iff.mpr (by simp)]; rfl
      rw [← e]
      refine ev_comp (isL := false) (List.range K) (fun (i : Nat) => D.int (1 + (i : Int) * 1)) (fun _ => false) (fun (i : Nat) => D.int (1 + (i : Int) * 1)) (fun (i : Nat) => [("k", .int (1 + (i : Int) * 1))]) (ρc := [("counts", .list (zs (cnF mx K)))]) ?_ rfl (by decide) (freeOk iE (by kernel_rfl)) (.cell iE mCounts (by kernel_rfl) (by kernel_rfl) .nil) (.inl fun _ _ => rfl)
        (fun cenv ok' X iC x hx => tgt_name (iC.atX _ _ (by kernel_rfl) (.inl rfl)) (.tail .nil)) (fun cenv ok' X iC i hi => ?_) (fun cenv ok' X iC x hx _ => ev_name (.tail _ (.head _))) (by unfold sizeLine; simp; (first | lia | omega))
      · have e : (List.range K).map (fun (i : Nat) => D.int (1 + (i : Int) * 1)) = rng 1 1 (((zs (cnF mx K)).length : Int) - 1).toNat := by rw [hsrc]; rfl
        rw [e]
        exact src_range2 (ev_blt (gb "range" (by kernel_rfl)) (by kernel_rfl) (by kernel_rfl)) ev_int (ev_lenL (ev_blt (gb "len" (by kernel_rfl)) (by kernel_rfl) (by kernel_rfl)) (ev_name mCounts) (by rw [hcl]; (first | lia | omega))) (by decide) (by rw [hcl]; (first | lia | omega))
      · have hiK := List.mem_range.mp hi
        have hm := q.mono i hiK
        have e1 : (1 + (i : Int) * 1 - 1).toNat = i := by (first | lia | omega)
        have e2 : (1 + (i : Int) * 1).toNat = i + 1 := by (first | lia | omega)
        have ek := fun pp => ev_name (G := G) (n := n + 14) (A := A) (env := cenv) (ok := ok') (ρ := [("counts", .list (zs (cnF mx K)))] ++ [("k", .int (1 + (i : Int) * 1))]) (x := "k") (d := .int (1 + (i : Int) * 1)) (pos := pp) (.tail _ (.head _))
        have ec := fun pp => ev_name (G := G) (n := n + 14) (A := A) (env := cenv) (ok := ok') (ρ := [("counts", .list (zs (cnF mx K)))] ++ [("k", .int (1 + (i : Int) * 1))]) (x := "counts") (d := .list (zs (cnF mx K))) (pos := pp) (.head _)
        have hb : (decide ((mx i : Int) + 1 > (mx (i + 1) : Int) + 1) || (((mx i : Int) + 1 == (mx (i + 1) : Int) + 1) && ((mx K : Int) + 1 != (mx (i + 1) : Int) + 1))) = false := by
          have h1 := hm.1
          by_cases h2 : mx i = mx (i + 1)
          · have h3 := hm.2 h2
            simp [h2, h3]
          · have : ¬ ((mx i : Int) + 1 = (mx (i + 1) : Int) + 1) := by (first | lia | omega)
            simp [this]; (first | lia | omega)
        refine tests_one ?_
        show Tst _ _ _ _ _ _ _ false
        rw [← hb]
        refine tst_or (tst_cmp (ev_item (ec _) (ev_sub (ek _) ev_int) (by (first | lia | omega)) (by (first | lia | omega)) (by rw [e1]; exact hcg i (by (first | lia | omega)))) (ev_item (ec _) (ek _) (by (first | lia | omega)) (by (first | lia | omega)) (by rw [e2]; exact hcg (i + 1) (by (first | lia | omega)))) cmp_gt) fun _ =>
          tst_and (tst_cmp (ev_item (ec _) (ev_sub (ek _) ev_int) (by (first | lia | omega)) (by (first | lia | omega)) (by rw [e1]; exact hcg i (by (first | lia | omega)))) (ev_item (ec _) (ek _) (by (first | lia | omega)) (by (first | lia | omega)) (by rw [e2]; exact hcg (i + 1) (by (first | lia | omega)))) cmp_eq) fun _ =>
          tst_cmp (ev_last (ec _) (ev_neg ev_int) ?_) (ev_item (ec _) (ek _) (by (first | lia | omega)) (by (first | lia | omega)) (by rw [e2]; exact hcg (i + 1) (by (first | lia | omega)))) cmp_ne
        rw [List.getLast?_eq_getElem?]; simp [cnF]) (ev_list (ds := []) evs_nil) rfl (fun d hd => by cases hd) (by decide)
  · -- the lines
    have hN : ∀ i, i ≤ K → (nats (Nm i)).length = N := fun i hi => by rw [List.length_map]; exact (q.nm i hi).1
    refine ev_eqL (n := n + 13) (k := 3) (ev_comp (List.range (K + 1)) (hD sizes Nm) (fun _ => true) (fun i => D.tup [.list (zs (lineF (nats (Nm i)))), .list (zs (nats (Nm i)))]) (fun i => [("reach", .int (rchF sizes i)), ("told", .list (zs (nats (Nm i))))]) (ρc := [("text", .str text)]) (src_list (ev_name mHist)) rfl (by decide) (freeOk iE (by kernel_rfl)) (.cell iE mText (by kernel_rfl) (by kernel_rfl) .nil) (.inr ⟨rfl, ⟨_, _, _, rfl⟩, fun x _ => ⟨_, rfl⟩⟩)
      (fun cenv ok' X iC x hx => tgt_pair (tgt_name (iC.atX _ _ (by kernel_rfl) (.inl rfl)) (.tail .nil)) (tgt_name (iC.atX _ _ (by kernel_rfl) (.inl rfl)) (.tail (.tail .nil)))) (fun cenv ok' X iC x hx => tests_nil) (fun cenv ok' X iC i hi _ => ?_) (by unfold sizeLine; simp; (first | lia | omega)))
      (ev_comp (List.range (K + 1)) (fun i => D.int (rchF sizes i)) (fun _ => true) (fun i => D.tup [.list (zs ((out i).map (·.2))), .list (zs (dueAt (out i) N (N - 1)))]) (fun i => [("reach", .int (rchF sizes i))]) (ρc := [("digits", .list (zs (nats dg))), ("count", .int N)]) (by
        have e : (List.range (K + 1)).map (fun i => D.int (rchF sizes i)) = zs (rsF sizes K) := by rw [zs, List.map_map]; rfl
        rw [e]; exact src_list (ev_name mReach)) rfl (by decide) (freeOk iE (by kernel_rfl)) (.cell iE mDig (by kernel_rfl) (by kernel_rfl) (.cell iE mCount (by kernel_rfl) (by kernel_rfl) .nil)) (.inl fun _ _ => rfl)
        (fun cenv ok' X iC x hx => tgt_name (iC.atX _ _ (by kernel_rfl) (.inl rfl)) (.tail (.tail .nil))) (fun cenv ok' X iC x hx => tests_nil) (fun cenv ok' X iC i hi _ => ?_) (by unfold sizeLine; simp; (first | lia | omega))) ?_ ?_ (by decide)
    · have hiK : i ≤ K := by have := List.mem_range.mp hi; (first | lia | omega)
      have hr3 := q.r3 i hiK
      exact ev_tup (evs_cons (ev_call (d := .list (zs (lineF (nats (Nm i))))) (fa := 102) (ds := [.str text, .int (rchF sizes i), .list (zs (nats (Nm i)))]) (kds := []) (names := []) (m := n + 12) (ev_glob (iC.kinds _ _ (by kernel_rfl) (by decide)) (by kernel_rfl)) (evs_cons (ev_name (.head _)) (evs_cons (ev_name (.tail _ (.head _))) (evs_one (ev_name (.tail _ (.tail _ (.head _))))))) ekw_nil (d102 _)
        (spec_collated hbm (by (first | lia | omega)) (by (first | lia | omega)) (by rw [hN i hiK]; (first | lia | omega)) (by rw [hN i hiK]; (first | lia | omega)) (by rw [hN i hiK]; (first | lia | omega)) (fun k hk => q.said i hiK k (by rw [hN i hiK] at hk; exact hk))) (by (first | lia | omega))) (evs_one (ev_name (.tail _ (.tail _ (.head _)))))) (by unfold sizeLine; simp)
    · have hiK : i ≤ K := by have := List.mem_range.mp hi; (first | lia | omega)
      have hr3 := q.r3 i hiK
      have hdl := q.dl
      have hring : (List.replicate 6 (nats dg)).flatten.length = 6 * N := by simp [List.length_flatten, hdl]; (first | lia | omega)
      exact ev_call (fa := 97) (ds := [.list (zs (List.replicate 6 (nats dg)).flatten), .int (rchF sizes i), .int N]) (kds := []) (names := []) (m := n + 5) (ev_glob (iC.kinds _ _ (by kernel_rfl) (by decide)) (by kernel_rfl)) (evs_cons (by rw [← zs_flat]; exact ev_mulL (ev_name (.head _)) ev_int (by simp [hdl]; (first | lia | omega)) (by decide)) (evs_cons (ev_name (.tail _ (.tail _ (.head _)))) (evs_one (ev_name (.tail _ (.head _)))))) ekw_nil (d97 _)
        (spec_due q1 (by (first | lia | omega)) (by rw [hring]; (first | lia | omega)) (by rw [hring]; (first | lia | omega)) (q.due1 i hiK).1 (q.due1 i hiK).2) (by (first | lia | omega))
    · rw [filt]
      refine List.map_congr_left fun i hi => ?_
      have := q.due2 i (by have := List.mem_range.mp hi; (first | lia | omega))
      rw [this.1, this.2]
    · intro d hd
      obtain ⟨x, _, rfl⟩ := List.mem_map.mp hd
      intro e he
      simp only [List.mem_cons, List.not_mem_nil, or_false] at he
      rcases he with rfl | rfl <;> exact pure_zs _ _
  · -- the text as it is
    exact ev_eqS (ev_call (fa := 61) (ds := [.str text]) (kds := []) (names := []) (m := n + 1) (ev_glob (gb "_strxfrm" (by kernel_rfl)) (by kernel_rfl)) (evs_one (ev_name mText)) ekw_nil (d61 _) (spec_strxfrm text) (by (first | lia | omega))) (ev_name mText) rfl
  · -- what was read
    have hN : ∀ i, i ≤ K → (Nm i).length = N := fun i hi => (q.nm i hi).1
    have e0 : (List.range K).map (fun (i : Nat) => D.int (i : Int)) = rng 0 1 K := (rng_nat _).symm
    have e1 : (List.range N).map (fun (i : Nat) => D.int (i : Int)) = rng 0 1 N := (rng_nat _).symm
    have hKr : ((zs (rsF sizes K)).length : Int) - 1 = (K : Int) := by rw [hrl]; (first | lia | omega)
    have heg : ∀ t, t < K → (zs (enF sizes))[t]? = some (.int (szF sizes t)) := fun t ht => by
      rw [zs, List.getElem?_map, enF, List.getElem?_map, List.getElem?_range (by (first | lia | omega))]; rfl
    refine ev_eqL (n := n + 13) (k := 2) (ev_name mRead) (ev_comp (isL := false) (List.range K) (fun (i : Nat) => D.int (i : Int)) (fun _ => true) (fun t => rD sizes Nm t) (fun (i : Nat) => [("t", .int (i : Int))]) (ρc := [("history", .list (histD sizes Nm K)), ("reaches", .list (zs (rsF sizes K))), ("count", .int N), ("endless", .list (zs (enF sizes)))])
      (by rw [e0]; exact src_range1 (ev_blt (gb "range" (by kernel_rfl)) (by kernel_rfl) (by kernel_rfl)) (by rw [← hKr]; exact ev_sub (ev_lenL (ev_blt (gb "len" (by kernel_rfl)) (by kernel_rfl) (by kernel_rfl)) (ev_name mReach) (by rw [hrl]; (first | lia | omega))) ev_int) (by (first | lia | omega))) rfl (by decide) (freeOk iE (by kernel_rfl))
      (.cell iE mHist (by kernel_rfl) (by kernel_rfl) (.cell iE mReach (by kernel_rfl) (by kernel_rfl) (.cell iE mCount (by kernel_rfl) (by kernel_rfl) (.cell iE mEnd (by kernel_rfl) (by kernel_rfl) .nil)))) (.inl fun _ _ => rfl) (fun cenv ok' X iC x hx => tgt_name (iC.atX _ _ (by kernel_rfl) (.inr rfl)) (.tail (.tail (.tail (.tail .nil))))) (fun cenv ok' X iC x hx => tests_nil)
      (fun cenv ok' X iC t ht _ => ?_) (by unfold sizeLine; simp; (first | lia | omega))) ?_ ?_ (by decide)
    · have htK := List.mem_range.mp ht
      have hNt := hN t (by (first | lia | omega))
      have hsz := q.sz1 t
      have hrt := q.r1 t htK
      have e2 : rD sizes Nm t = .list (((List.range N).filter fun _ => true).map fun i => D.int (valOf (digitsOf (Nm t) (szF sizes t) (rchF sizes t) i))) := by
        rw [filt, rD, zs, nats, joinF, List.map_map, List.map_map, hNt]; rfl
      rw [e2]
      refine ev_comp (isL := false) (List.range N) (fun (i : Nat) => D.int (i : Int)) (fun _ => true) _ (fun (i : Nat) => [("i", .int (i : Int))]) (ρc := [("history", .list (histD sizes Nm K)), ("reaches", .list (zs (rsF sizes K))), ("count", .int N), ("endless", .list (zs (enF sizes))), ("t", .int (t : Int))])
        (by rw [e1]; exact src_range1 (ev_blt (iC.kinds _ _ (by kernel_rfl) (by decide)) (by kernel_rfl) (by kernel_rfl)) (ev_name (.tail _ (.tail _ (.head _)))) (by (first | lia | omega))) rfl (by decide) (freeOk iC (by kernel_rfl))
        (.free iC (.head _) (by kernel_rfl) (by kernel_rfl) (.free iC (.tail _ (.head _)) (by kernel_rfl) (by kernel_rfl) (.free iC (.tail _ (.tail _ (.head _))) (by kernel_rfl) (by kernel_rfl) (.free iC (.tail _ (.tail _ (.tail _ (.head _)))) (by kernel_rfl) (by kernel_rfl) (.cell iC (.tail _ (.tail _ (.tail _ (.tail _ (.head _))))) (by kernel_rfl) (by kernel_rfl) .nil)))))
        (.inl fun _ _ => rfl) (fun cenv ok' X iC x hx => tgt_name (iC.atX _ _ (by kernel_rfl) (.inr rfl)) (.tail (.tail (.tail (.tail (.tail .nil)))))) (fun cenv ok' X iC x hx => tests_nil) (fun cenv2 ok2 X2 iD i hi _ => ?_) (by unfold sizeLine; simp; (first | lia | omega))
      have hiN := List.mem_range.mp hi
      rw [joined_sum, hNt]
      refine ev_sumL (ev_blt (iD.kinds _ _ (by kernel_rfl) (by decide)) (by kernel_rfl) (by kernel_rfl)) ?_
      have e3 : (sumF (Nm t) (szF sizes t) (rchF sizes t) N i).map D.int = ((List.range (szF sizes t)).filter fun _ => true).map fun k => D.int (((Nm t).getD ((i + k * rchF sizes t) % N) 0 : Int) * 64 ^ (szF sizes t - 1 - k)) := by
        rw [filt, sumF, List.map_map]; rfl
      rw [e3]
      have e4 : (List.range (szF sizes t)).map (fun (i : Nat) => D.int (i : Int)) = rng 0 1 (szF sizes t) := (rng_nat _).symm
      refine ev_comp (isL := false) (List.range (szF sizes t)) (fun (i : Nat) => D.int (i : Int)) (fun _ => true) _ (fun (i : Nat) => [("k", .int (i : Int))]) (ρc := [("history", .list (histD sizes Nm K)), ("reaches", .list (zs (rsF sizes K))), ("count", .int N), ("endless", .list (zs (enF sizes))), ("t", .int (t : Int)), ("i", .int (i : Int))])
        (by rw [e4]; exact src_range1 (ev_blt (iD.kinds _ _ (by kernel_rfl) (by decide)) (by kernel_rfl) (by kernel_rfl)) (ev_item (ev_name (.tail _ (.tail _ (.tail _ (.head _))))) (ev_name (.tail _ (.tail _ (.tail _ (.tail _ (.head _)))))) (by (first | lia | omega)) (by (first | lia | omega)) (by rw [Int.toNat_natCast]; exact heg t htK)) (by (first | lia | omega))) rfl (by decide) (freeOk iD (by kernel_rfl))
        (.free iD (.head _) (by kernel_rfl) (by kernel_rfl) (.free iD (.tail _ (.head _)) (by kernel_rfl) (by kernel_rfl) (.free iD (.tail _ (.tail _ (.head _))) (by kernel_rfl) (by kernel_rfl) (.free iD (.tail _ (.tail _ (.tail _ (.head _)))) (by kernel_rfl) (by kernel_rfl) (.free iD (.tail _ (.tail _ (.tail _ (.tail _ (.head _))))) (by kernel_rfl) (by kernel_rfl) (.cell iD (.tail _ (.tail _ (.tail _ (.tail _ (.tail _ (.head _)))))) (by kernel_rfl) (by kernel_rfl) .nil))))))
        (.inl fun _ _ => rfl) (fun cenv ok' X iC x hx => tgt_name (iC.atX _ _ (by kernel_rfl) (.inl rfl)) (.tail (.tail (.tail (.tail (.tail (.tail .nil))))))) (fun cenv ok' X iC x hx => tests_nil) (fun cenv3 ok3 X3 iF k hk _ => ?_) (by unfold sizeLine; simp; (first | lia | omega))
      have hkz := List.mem_range.mp hk
      have hmod : (((i : Int) + (k : Int) * (rchF sizes t : Int)) % (N : Int)) = (((i + k * rchF sizes t) % N : Nat) : Int) := by push_cast; rfl
      have hlt : (i + k * rchF sizes t) % N < N := Nat.mod_lt _ (by (first | lia | omega))
      have hexp : (szF sizes t : Int) - 1 - (k : Int) = ((szF sizes t - 1 - k : Nat) : Int) := by (first | lia | omega)
      refine ev_mul (ev_item (k := (((i + k * rchF sizes t) % N : Nat) : Int)) (ev_itemT (k := 1) (ev_item (k := (t : Int)) (ev_name (.head _)) (ev_name (.tail _ (.tail _ (.tail _ (.tail _ (.head _)))))) (by (first | lia | omega)) (by (first | lia | omega)) (by rw [Int.toNat_natCast]; exact hhg t (by (first | lia | omega)))) ev_int (by decide) rfl)
        (by rw [← hmod]; exact ev_mod (ev_add (ev_name (.tail _ (.tail _ (.tail _ (.tail _ (.tail _ (.head _))))))) (ev_mul (ev_name (.tail _ (.tail _ (.tail _ (.tail _ (.tail _ (.tail _ (.head _)))))))) (ev_item (k := (t : Int)) (ev_name (.tail _ (.head _))) (ev_name (.tail _ (.tail _ (.tail _ (.tail _ (.head _)))))) (by (first | lia | omega)) (by (first | lia | omega)) (by rw [Int.toNat_natCast]; exact hrg t (by (first | lia | omega)))) (by (first | lia | omega)))) (ev_name (.tail _ (.tail _ (.head _)))) (by (first | lia | omega))) (by (first | lia | omega)) (by (first | lia | omega)) ?_)
        (ev_pow ev_int (by rw [← hexp]; exact ev_sub (ev_sub (ev_item (k := (t : Int)) (ev_name (.tail _ (.tail _ (.tail _ (.head _))))) (ev_name (.tail _ (.tail _ (.tail _ (.tail _ (.head _)))))) (by (first | lia | omega)) (by (first | lia | omega)) (by rw [Int.toNat_natCast]; exact heg t htK)) ev_int) (ev_name (.tail _ (.tail _ (.tail _ (.tail _ (.tail _ (.tail _ (.head _))))))))) (by (first | lia | omega)) (by decide)) ?_
      · rw [Int.toNat_natCast, zs, nats, List.map_map, List.getElem?_map, List.getElem?_eq_getElem (by (first | lia | omega)), List.getD_eq_getElem?_getD, List.getElem?_eq_getElem (by (first | lia | omega))]
        rfl
      · have : szF sizes t - 1 - k < 4 := by (first | lia | omega)
        have h4 : ∀ w, w < 4 → ((64 : Int) ^ w).natAbs < 2 ^ 64 := by decide
        exact h4 _ this
    · rw [filt]
    · intro d hd
      obtain ⟨x, _, rfl⟩ := List.mem_map.mp hd
      exact pure_zs _ _
  · -- the marks
    have hp0 : ∀ v, v < T → ∃ p r, pls v = p :: r := fun v hv => by
      cases h : pls v with
      | nil => exact absurd h (q.pl1 v hv).1
      | cons p r => exact ⟨p, r, rfl⟩
    have hpm : ∀ v, v < T → ∀ i ∈ pls v, i < N := fun v hv i hi => by
      rw [(q.pl1 v hv).2] at hi
      exact List.mem_range.mp (List.mem_filter.mp hi).1
    have hT := q.t1
    have hbits : ∀ v, v < T → (bitsOf (pls v) ≠ 0 ∧ bitsOf (pls v) < 2 ^ 32) ∧ namesTo (bitsOf (pls v)) 32 = (pls v).map fun i => wordsL.getD i "" := fun v hv => by
      have h1 := (q.pl1 v hv).2
      have h2 := bits_lt (fun i => decide ((Nm K).getD i 0 = v)) N
      have h3 := names_bits (fun i => decide ((Nm K).getD i 0 = v)) q2
      rw [← h1] at h2 h3
      refine ⟨⟨?_, Nat.lt_of_lt_of_le h2.1 (Nat.pow_le_pow_right (by decide) (by (first | lia | omega)))⟩, h3⟩
      obtain ⟨p, r, e⟩ := hp0 v hv
      rw [e]
      have := Nat.two_pow_pos p
      simp only [bitsOf, List.map_cons, List.sum_cons]
      (first | lia | omega)
    have hbi : ∀ l : List Nat, ((l.map fun i => (2 : Int) ^ i).sum) = (bitsOf l : Int) := fun l => by
      induction l with
      | nil => rfl
      | cons a l ih => simp only [List.map_cons, List.sum_cons, ih, bitsOf]; push_cast; rfl
    refine ev_eqL (n := n + 13) (k := 0) (ev_comp (List.range T) (fun v => D.list (zs (nats (pls v)))) (fun _ => true) (fun v => D.str (Txt.join ", " (namesTo (bitsOf (pls v)) 32))) (fun v => [("places", .list (zs (nats (pls v))))]) (ρc := []) (src_list (ev_name mAlike)) rfl (by decide) (freeOk iE (by kernel_rfl)) .nil (.inl fun _ _ => rfl)
      (fun cenv ok' X iC x hx => tgt_name (iC.atX _ _ (by kernel_rfl) (.inl rfl)) .nil) (fun cenv ok' X iC x hx => tests_nil) (fun cenv ok' X iC v hv _ => ?_) (by unfold sizeLine; simp; (first | lia | omega)))
      (ev_comp (List.range T) (fun v => D.list (zs (nats (pls v)))) (fun _ => true) (fun v => D.str (Txt.join ", " ((pls v).map fun i => wordsL.getD i ""))) (fun v => [("places", .list (zs (nats (pls v))))]) (ρc := [("words", .list (wordsL.map .str)), ("turn", .int T), ("count", .int N)]) (src_list (ev_name mAlike)) rfl (by decide) (freeOk iE (by kernel_rfl))
        (.cell iE mWords (by kernel_rfl) (by kernel_rfl) (.cell iE mTurn (by kernel_rfl) (by kernel_rfl) (.cell iE mCount (by kernel_rfl) (by kernel_rfl) .nil))) (.inl fun _ _ => rfl)
        (fun cenv ok' X iC x hx => tgt_name (iC.atX _ _ (by kernel_rfl) (.inl rfl)) (.tail (.tail (.tail .nil)))) (fun cenv ok' X iC x hx => tests_nil) (fun cenv ok' X iC v hv _ => ?_) (by unfold sizeLine; simp; (first | lia | omega))) ?_ ?_ (by decide)
    · have hv' := List.mem_range.mp hv
      obtain ⟨⟨b1, b2⟩, b3⟩ := hbits v hv'
      refine ev_call (fa := 40) (ds := [.int (bitsOf (pls v))]) (kds := []) (names := []) (m := n + 2) (ev_glob (iC.kinds _ _ (by kernel_rfl) (by decide)) (by kernel_rfl)) (evs_one ?_) ekw_nil (d40 _) (spec_flags b1 b2) (by (first | lia | omega))
      rw [← hbi]
      refine ev_sumL (ev_blt (iC.kinds _ _ (by kernel_rfl) (by decide)) (by kernel_rfl) (by kernel_rfl)) ?_
      have e5 : ((pls v).map fun i => (2 : Int) ^ i).map D.int = ((pls v).filter fun _ => true).map fun i => D.int ((2 : Int) ^ i) := by rw [filt, List.map_map]; rfl
      rw [e5]
      refine ev_comp (pls v) (fun (i : Nat) => D.int (i : Int)) (fun _ => true) _ (fun (i : Nat) => [("i", .int (i : Int))]) (ρc := []) (by
        have e6 : (pls v).map (fun (i : Nat) => D.int (i : Int)) = zs (nats (pls v)) := by rw [zs, List.map_map]; rfl
        rw [e6]; exact src_list (ev_name (.head _))) rfl (by decide) (freeOk iC (by kernel_rfl)) .nil (.inl fun _ _ => rfl)
        (fun cenv ok' X iC x hx => tgt_name (iC.atX _ _ (by kernel_rfl) (.inl rfl)) .nil) (fun cenv ok' X iC x hx => tests_nil) (fun cenv ok' X iC i hi _ => ev_pow ev_int (ev_name (.head _)) (by have := hpm v hv' i hi; (first | lia | omega)) (by decide)) ?_
      have := hbits v hv'
      have hl : (pls v).length ≤ N := by
        rw [(q.pl1 v hv').2]
        exact Nat.le_trans (List.length_filter_le _ _) (by simp)
      unfold sizeLine; (first | lia | omega)
    · have hv' := List.mem_range.mp hv
      obtain ⟨M, hM, hM2⟩ := q.pl2 v hv'
      obtain ⟨p, r, hpr⟩ := hp0 v hv'
      have hpN : p < N := hpm v hv' p (by rw [hpr]; exact .head _)
      have hhd : (pls v).headD 0 = p := by rw [hpr]; rfl
      rw [hhd] at hM hM2
      have hl : (pls v).length ≤ N := by
        rw [(q.pl1 v hv').2]
        exact Nat.le_trans (List.length_filter_le _ _) (by simp)
      refine ev_join ev_str ?_ ?_
      · have e7 : ((pls v).map fun i => wordsL.getD i "").map D.str = ((pls v).filter fun _ => true).map fun i => D.str (wordsL.getD i "") := by rw [filt, List.map_map]; rfl
        rw [e7]
        refine ev_comp (pls v) (fun (i : Nat) => D.int (i : Int)) (fun _ => true) _ (fun (i : Nat) => [("i", .int (i : Int))]) (ρc := [("words", .list (wordsL.map .str))]) (by
          have e6 : (pls v).map (fun (i : Nat) => D.int (i : Int)) = zs (marksF p T M) := by rw [← hM, zs, List.map_map]; rfl
          rw [e6]
          exact src_list (ev_call (fa := 109) (ds := [.int p, .int T, .int N]) (kds := []) (names := []) (m := n + 3) (ev_glob (iC.kinds _ _ (by kernel_rfl) (by decide)) (by kernel_rfl)) (evs_cons (ev_item (k := 0) (ev_name (.tail _ (.tail _ (.tail _ (.head _))))) ev_int (by decide) (by decide) (by rw [hpr]; rfl)) (evs_cons (ev_name (.tail _ (.head _))) (evs_one (ev_name (.tail _ (.tail _ (.head _))))))) ekw_nil (d109 _)
            (spec_marks (by (first | lia | omega)) hT.1 (by (first | lia | omega)) (by (first | lia | omega)) hM2) (by (first | lia | omega)))) rfl (by decide) (freeOk iC (by kernel_rfl)) (.free iC (.head _) (by kernel_rfl) (by kernel_rfl) .nil) (.inl fun _ _ => rfl)
          (fun cenv ok' X iC x hx => tgt_name (iC.atX _ _ (by kernel_rfl) (.inl rfl)) (.tail .nil)) (fun cenv ok' X iC x hx => tests_nil) (fun cenv ok' X iC i hi _ => ev_item (k := (i : Int)) (ev_name (.head _)) (ev_name (.tail _ (.head _))) (by (first | lia | omega)) (by have := hpm v hv' i hi; (first | lia | omega)) ?_) (by unfold sizeLine; (first | lia | omega))
        have hiN := hpm v hv' i hi
        rw [Int.toNat_natCast, List.getElem?_map, List.getD_eq_getElem?_getD, List.getElem?_eq_getElem (by show i < 12; (first | lia | omega))]
        rfl
      · have hw : ∀ l : List Nat, (∀ i ∈ l, i < 12) → ((l.map fun i => wordsL.getD i "").map (·.length)).sum ≤ 18 * l.length := fun l => by
          induction l with
          | nil => intro _; simp
          | cons a l ih =>
            intro h
            have h12 : ∀ i, i < 12 → (wordsL.getD i "").length ≤ 18 := by
              have : (List.range 12).all (fun i => decide ((wordsL.getD i "").length ≤ 18)) = true := by decide
              exact fun i hi => of_decide_eq_true (List.all_eq_true.mp this i (List.mem_range.mpr hi))
            have := ih fun i hi => h i (.tail _ hi)
            have := h12 a (h a (.head _))
            simp only [List.map_cons, List.sum_cons, List.length_cons]
            (first | lia | omega)
        have := hw (pls v) fun i hi => by have := hpm v hv' i hi; (first | lia | omega)
        have h2 : (", " : Str).length = 2 := rfl
        rw [h2, List.length_map]
        (first | lia | omega)
    · rw [filt]
      refine List.map_congr_left fun v hv => ?_
      rw [(hbits v (List.mem_range.mp hv)).2]
    · intro d hd
      obtain ⟨x, _, rfl⟩ := List.mem_map.mp hd
      trivial
end
end Mine
/-! B36 -/
namespace Mine

theorem d114 (P : Params) : isDef (hd.heap_1 P) 114 = true := by kernel_rfl
theorem b114 (P : Params) : (fdOf (hd.heap_1 P) 114).body = .stmts (bodyOf (stAt 20)) := by kernel_rfl
theorem s114 (P : Params) : (fdOf (hd.heap_1 P) 114).scope = scopeOf (stAt 20) := by kernel_rfl

/-- the three draws -/
noncomputable def drawsF (xs : List Int) : List Int := cellAt [16, 382154, 64] (xs.take 60) (xs.take 60).length
theorem drawsF_len (xs : List Int) : (drawsF xs).length = 3 := cellAt_len _ _ _
noncomputable def chOf (i : Nat) : Nat := if i = 0 then 45 else if i = 1 then 90 else 97
noncomputable def sgnS (i : Nat) : Str := ⟨#[chOf i]⟩
/-- the ring's text -/
noncomputable def textF (dg : List Nat) : Str := Txt.join "" (dg.map sgnS)

/-- what the draws say -/
structure LawA (cs : List Int) (W R N : Nat) (dg sizes : List Nat) : Prop where
  w : (W : Int) = 1 + cs.getD 0 0 % 12
  w1 : 1 ≤ W ∧ W ≤ 12
  r : (R : Int) = 1 + cs.getD 0 0 / 12 % (12 / (W : Int))
  r1 : 1 ≤ R ∧ R ≤ 12
  d : (List.replicate R ((List.range W).map fun k => cs.getD 1 0 / 3 ^ k % 3)).flatten = nats dg
  n : dg.length = N
  d3 : ∀ i ∈ dg, i < 3
  s : ((List.range (1 + cs.getD 2 0 % 3).toNat).map fun k => 2 + cs.getD 2 0 / 3 / 3 ^ k % 3) = nats sizes
  s1 : sizes ≠ [] ∧ sizes.length ≤ 3

section
variable {G : W0} {n : Nat} {A : Around} {env : Env} {ok : Addr → Prop} {ρ : List (String × D)}

noncomputable abbrev rA (xs : List Int) : List (String × D) := [("script", .list (zs xs)), ("cells", .list (zs (drawsF xs)))]
noncomputable abbrev rB' (xs : List Int) (W N : Nat) (dg : List Nat) : List (String × D) := [("script", .list (zs xs)), ("cells", .list (zs (drawsF xs))), ("wide", .int W), ("digits", .list (zs (nats dg))), ("count", .int N)]

/-- the first half of the law: the ring and the sizes -/
theorem law_draws {xs : List Int} {W R N : Nat} {dg sizes : List Nat} {X : Addr → Prop} {s s₀ sT : Shared} {Q : Flow → Shared → Prop} {E : Value → Shared → Prop} (q : LawA (drawsF xs) W R N dg sizes) (hN : N ≤ 12) (hx : xs.length < 1000) (c₀ : ∃ m A', Cx G m A' s₀) (iE : IsComp (scopeOf (stAt 20)) env X)
    (F : Fst G (n + 14) A env ok [("script", .list (zs xs))] s₀ sT s)
    (h : ∀ s' sT', Fst G (n + 14) A env ok [("script", .list (zs xs)), ("cells", .list (zs (drawsF xs))), ("wide", .int W), ("digits", .list (zs (nats dg))), ("count", .int N), ("text", .str (textF dg)), ("sizes", .list (zs (nats sizes)))] s₀ sT' s' → wpAny G.M A (execs ((bodyOf (stAt 20)).drop 6) env) Q E s') :
    wpAny G.M A (execs (bodyOf (stAt 20)) env) Q E s := by
  have gb : ∀ x : String, (scopeOf (stAt 20)).names.lookup (Str.ofString x) = some .globalImplicit → env.kindOf (Str.ofString x) = some .globalImplicit := fun x h => iE.kinds _ _ h (by decide)
  have filt : ∀ {α : Type} (l : List α), l.filter (fun _ => true) = l := fun l => List.filter_eq_self.mpr fun _ _ => rfl
  have hcl := drawsF_len xs
  have hcg : ∀ i, i < 3 → (zs (drawsF xs))[i]? = some (.int ((drawsF xs).getD i 0)) := fun i hi => zs_get (by (first | lia | omega))
  obtain ⟨w1, w2⟩ := q.w1
  obtain ⟨r1, r2⟩ := q.r1
  refine st_set F (F.ev (ev_call (fa := 75) (ds := [.list (zs [16, 382154, 64]), .list (zs xs)]) (kds := []) (names := []) (m := n + 2) (ev_glob (gb "_law_cells" (by kernel_rfl)) (by kernel_rfl)) (evs_cons (ev_list (evs_cons ev_int (evs_cons ev_int (evs_one ev_int))) (by unfold sizeLine; simp)) (evs_one (ev_name (.head _)))) ekw_nil (d75 _) (spec_cells (by decide) (by decide) hx) (by (first | lia | omega)))) (at_ofC iE (by kernel_rfl)) (ρ' := rA xs) (.tail .nil) fun s₁ F1 _ => ?_
  have i0 : ∀ {ok : Addr → Prop} {r : List (String × D)} {pp p1 p2 : Pos} {kk : Nat} (i : Nat), i < 3 → ("cells", D.list (zs (drawsF xs))) ∈ r → ∀ {env : Env}, Ev G (n + 14) A env ok r (.Subscript (.Name (Str.ofString "cells") p1) (.Constant (.int (i : Int)) kk p2) pp) (.int ((drawsF xs).getD i 0)) := fun i hi hm => by
    intro env
    exact ev_item (k := (i : Int)) (ev_name hm) ev_int (by (first | lia | omega)) (by (first | lia | omega)) (by rw [Int.toNat_natCast]; exact hcg i hi)
  refine st_set F1 (F1.ev (d := .int W) (by rw [q.w]; exact ev_add ev_int (ev_mod (i0 0 (by decide) (.tail _ (.head _))) ev_int (by decide)))) (at_of iE (by kernel_rfl)) (ρ' := rA xs ++ [("wide", .int W)]) (.tail (.tail .nil)) fun s₂ F2 _ => ?_
  have h12 : (0 : Int) < 12 / (W : Int) := Int.lt_of_lt_of_le (by decide) (Int.le_ediv_of_mul_le (a := 1) (by (first | lia | omega)) (by (first | lia | omega)))
  -- digits
  have e0 : (List.range W).map (fun (i : Nat) => D.int (i : Int)) = rng 0 1 W := (rng_nat _).symm
  have e1 : (List.replicate R (((List.range W).filter fun _ => true).map fun (k : Nat) => D.int ((drawsF xs).getD 1 0 / 3 ^ k % 3))).flatten = zs (nats dg) := by
    rw [filt, ← q.d, ← zs_flat, zs, List.map_map]; rfl
  have h3 : ∀ k, k < 13 → ((0 : Int) < 3 ^ k ∧ ((3 : Int) ^ k).natAbs < 2 ^ 64) := by decide
  refine st_set F2 (F2.ev (d := .list (zs (nats dg))) (by
    rw [← e1]
    refine ev_mulL (k := R) (ev_comp (isL := false) (List.range W) (fun (i : Nat) => D.int (i : Int)) (fun _ => true) _ (fun (i : Nat) => [("k", .int (i : Int))]) (ρc := [("cells", .list (zs (drawsF xs)))]) (by rw [e0]; exact src_range1 (ev_blt (gb "range" (by kernel_rfl)) (by kernel_rfl) (by kernel_rfl)) (ev_name (.tail _ (.tail _ (.head _)))) (by (first | lia | omega))) rfl (by decide) (freeOk iE (by kernel_rfl)) (.cell iE (.tail _ (.head _)) (by kernel_rfl) (by kernel_rfl) .nil)
      (.inl fun _ _ => rfl) (fun cenv ok' X iC x hx => tgt_name (iC.atX _ _ (by kernel_rfl) (.inl rfl)) (.tail .nil)) (fun cenv ok' X iC x hx => tests_nil) (fun cenv ok' X iC k hk _ => ?_) (by unfold sizeLine; simp; (first | lia | omega))) ?_ ?_ (by (first | lia | omega))
    · have hk' := List.mem_range.mp hk
      have := h3 k (by (first | lia | omega))
      exact ev_mod (ev_fdiv (i0 1 (by decide) (.head _)) (ev_pow ev_int (ev_name (.tail _ (.head _))) (by (first | lia | omega)) (by decide)) this.1 this.2) ev_int (by decide)
    · rw [q.r]
      exact ev_add ev_int (ev_mod (ev_fdiv (i0 0 (by decide) (.tail _ (.head _))) ev_int (by decide) (by decide)) (ev_fdiv ev_int (ev_name (.tail _ (.tail _ (.head _)))) (by (first | lia | omega)) (by (first | lia | omega))) h12)
    · have : W * R ≤ 12 * 12 := Nat.mul_le_mul w2 r2
      rw [filt, List.length_map, List.length_range]
      (first | lia | omega))) (at_ofC iE (by kernel_rfl)) (ρ' := rA xs ++ [("wide", .int W), ("digits", .list (zs (nats dg)))]) (.tail (.tail (.tail .nil))) fun s₃ F3 _ => ?_
  have hdl : (zs (nats dg)).length = N := by simp [q.n]
  -- count
  refine st_set F3 (F3.ev (d := .int N) (by rw [← hdl]; exact ev_lenL (ev_blt (gb "len" (by kernel_rfl)) (by kernel_rfl) (by kernel_rfl)) (ev_name (.tail _ (.tail _ (.tail _ (.head _))))) (by (first | lia | omega)))) (at_ofC iE (by kernel_rfl)) (ρ' := rA xs ++ [("wide", .int W), ("digits", .list (zs (nats dg))), ("count", .int N)]) (.tail (.tail (.tail (.tail .nil)))) fun s₄ F4 _ => ?_
  -- text
  have e2 : (dg.map sgnS).map D.str = (dg.filter fun _ => true).map fun i => D.str (sgnS i) := by rw [filt, List.map_map]; rfl
  have e3 : dg.map (fun (i : Nat) => D.int (i : Int)) = zs (nats dg) := by rw [zs, List.map_map]; rfl
  refine st_set F4 (F4.ev (d := .str (textF dg)) (ev_join ev_str (by
    rw [e2]
    refine ev_comp dg (fun (i : Nat) => D.int (i : Int)) (fun _ => true) _ (fun (i : Nat) => [("digit", .int (i : Int))]) (ρc := []) (by rw [e3]; exact src_list (ev_name (.tail _ (.tail _ (.tail _ (.head _)))))) rfl (by decide) (freeOk iE (by kernel_rfl)) .nil
      (.inl fun _ _ => rfl) (fun cenv ok' X iC x hx => tgt_name (iC.atX _ _ (by kernel_rfl) (.inl rfl)) .nil) (fun cenv ok' X iC x hx => tests_nil) (fun cenv ok' X iC k hk _ => ?_) (by unfold sizeLine; have := q.n; (first | lia | omega))
    have hk3 := q.d3 k hk
    refine ev_itemS (ch := chOf k) ev_str (ev_name (.head _)) (by (first | lia | omega)) (by (first | lia | omega)) ?_
    rw [Int.toNat_natCast]
    rcases (by (first | lia | omega) : k = 0 ∨ k = 1 ∨ k = 2) with rfl | rfl | rfl <;> rfl) ?_)) (at_ofC iE (by kernel_rfl)) (ρ' := rA xs ++ [("wide", .int W), ("digits", .list (zs (nats dg))), ("count", .int N), ("text", .str (textF dg))]) (.tail (.tail (.tail (.tail (.tail .nil))))) fun s₅ F5 _ => ?_
  · have : ∀ l : List Nat, ((l.map sgnS).map (·.length)).sum = l.length := fun l => by
      induction l with
      | nil => rfl
      | cons a l ih => simp only [List.map_cons, List.sum_cons, ih, List.length_cons]; show 1 + _ = _; (first | lia | omega)
    rw [this, List.length_map, q.n]
    show N + N * 0 ≤ _
    (first | lia | omega)
  -- sizes
  have hc2 : 0 ≤ (drawsF xs).getD 2 0 % 3 ∧ (drawsF xs).getD 2 0 % 3 < 3 := ⟨Int.emod_nonneg _ (by decide), Int.emod_lt_of_pos _ (by decide)⟩
  have e4 : (List.range (1 + (drawsF xs).getD 2 0 % 3).toNat).map (fun (i : Nat) => D.int (i : Int)) = rng 0 1 (1 + (drawsF xs).getD 2 0 % 3).toNat := (rng_nat _).symm
  have e5 : ((List.range (1 + (drawsF xs).getD 2 0 % 3).toNat).filter fun _ => true).map (fun (k : Nat) => D.int (2 + (drawsF xs).getD 2 0 / 3 / 3 ^ k % 3)) = zs (nats sizes) := by
    rw [filt, ← q.s, zs, List.map_map]; rfl
  refine st_comp (isL := false) (y := "sizes") (List.range (1 + (drawsF xs).getD 2 0 % 3).toNat) (fun (i : Nat) => D.int (i : Int)) (fun _ => true) (fun (k : Nat) => D.int (2 + (drawsF xs).getD 2 0 / 3 / 3 ^ k % 3)) (fun (i : Nat) => [("k", .int (i : Int))]) (ρc := [("cells", .list (zs (drawsF xs)))]) F5 c₀
    (by rw [e4]; exact src_range1 (ev_blt (gb "range" (by kernel_rfl)) (by kernel_rfl) (by kernel_rfl)) (by rw [Int.toNat_of_nonneg (by (first | lia | omega))]; exact ev_add ev_int (ev_mod (i0 2 (by decide) (.tail _ (.head _))) ev_int (by decide))) (by (first | lia | omega))) rfl (by decide) (freeOk iE (by kernel_rfl)) (.cell iE (.tail _ (.head _)) (by kernel_rfl) (by kernel_rfl) .nil)
    (.inl fun _ _ => rfl) (fun cenv ok' X iC x hx => tgt_name (iC.atX _ _ (by kernel_rfl) (.inl rfl)) (.tail .nil)) (fun cenv ok' X iC x hx => tests_nil) (fun cenv ok' X iC k hk _ => ?_) (by unfold sizeLine; simp; (first | lia | omega)) (iE.kinds _ _ (by kernel_rfl) (by decide))
    (ρ' := [("script", .list (zs xs)), ("cells", .list (zs (drawsF xs))), ("wide", .int W), ("digits", .list (zs (nats dg))), ("count", .int N), ("text", .str (textF dg)), ("sizes", .list (zs (nats sizes)))]) (e5 ▸ .tail (.tail (.tail (.tail (.tail (.tail .nil)))))) fun s₆ F6 _ => h s₆ _ F6
  have hk' := List.mem_range.mp hk
  have := h3 k (by (first | lia | omega))
  exact ev_add ev_int (ev_mod (ev_fdiv (ev_fdiv (i0 2 (by decide) (.head _)) ev_int (by decide) (by decide)) (ev_pow ev_int (ev_name (.tail _ (.head _))) (by (first | lia | omega)) (by decide)) this.1 this.2) ev_int (by decide))
end
end Mine
/-! B37 -/
namespace Mine

theorem szF_lt {sizes : List Nat} {i : Nat} (h : i < sizes.length) : szF sizes i = sizes[i] := by
  unfold szF
  rw [Nat.min_eq_left (by (first | lia | omega)), List.getD_eq_getElem?_getD, List.getElem?_eq_getElem h]; rfl
theorem szF_ge {sizes : List Nat} {i : Nat} (hne : sizes ≠ []) (h : sizes.length ≤ i) : szF sizes i = sizes[sizes.length - 1]'(by have := List.length_pos_iff.mpr hne; (first | lia | omega)) := by
  have := List.length_pos_iff.mpr hne
  unfold szF
  rw [Nat.min_eq_right (by (first | lia | omega)), List.getD_eq_getElem?_getD, List.getElem?_eq_getElem (by (first | lia | omega))]; rfl

theorem endless_eq {sizes : List Nat} (hne : sizes ≠ []) :
    zs (nats sizes) ++ (List.replicate 4 (((zs (nats sizes)).drop ((some (-1 : Int)).elim 0 (clipAt (zs (nats sizes)).length))).take ((none : Option Int).elim (zs (nats sizes)).length (clipAt (zs (nats sizes)).length) - (some (-1 : Int)).elim 0 (clipAt (zs (nats sizes)).length)))).flatten = zs (enF sizes) := by
  have hp := List.length_pos_iff.mpr hne
  have hl : (zs (nats sizes)).length = sizes.length := by simp
  have hc : clipAt sizes.length (-1) = sizes.length - 1 := clipAt_neg _ 1 (Nat.le_refl _)
  simp only [Option.elim, hl, hc]
  have hd : ((zs (nats sizes)).drop (sizes.length - 1)).take (sizes.length - (sizes.length - 1)) = [.int (szF sizes sizes.length)] := by
    have e : (zs (nats sizes)).drop (sizes.length - 1) = [.int (szF sizes sizes.length)] := by
      rw [List.drop_eq_getElem_cons (by (first | lia | omega)), List.drop_eq_nil_of_le (by (first | lia | omega)), szF_ge hne (Nat.le_refl _)]
      simp [zs, nats]
    rw [e]
    have : sizes.length - (sizes.length - 1) = 1 := by (first | lia | omega)
    rw [this]; rfl
  rw [hd]
  have e1 : zs (nats sizes) = zs ((List.range sizes.length).map fun i => (szF sizes i : Int)) := by
    congr 1
    refine List.ext_getElem (by simp) fun i h1 h2 => ?_
    simp only [List.length_map] at h1
    simp [nats, szF_lt h1]
  have e2 : ∀ j, sizes.length ≤ j → (szF sizes j : Int) = szF sizes sizes.length := fun j hj => by rw [szF_ge hne hj, szF_ge hne (Nat.le_refl _)]
  rw [e1, enF]
  rw [show sizes.length + 4 = sizes.length + 1 + 1 + 1 + 1 by (first | lia | omega), List.range_succ, List.range_succ, List.range_succ, List.range_succ]
  simp only [List.map_append, List.map_cons, List.map_nil, zs]
  rw [e2 (sizes.length + 1) (by (first | lia | omega)), e2 (sizes.length + 1 + 1) (by (first | lia | omega)), e2 (sizes.length + 1 + 1 + 1) (by (first | lia | omega))]
  simp [List.replicate]

section
variable {G : W0} {n : Nat} {A : Around} {env : Env} {ok : Addr → Prop} {ρ : List (String × D)}

theorem law_steps {xs : List Int} {W N : Nat} {dg sizes : List Nat} {K T : Nat} {Nm : Nat → List Nat} {mx : Nat → Nat} {out : Nat → List (List Int × Int)} {pls : Nat → List Nat} {X : Addr → Prop} {s s₀ sT : Shared} {Q : Flow → Shared → Prop} {E : Value → Shared → Prop}
    (q : LawQ N dg sizes (textF dg) K T Nm mx out pls) (hne : sizes ≠ []) (hsl : sizes.length ≤ 3) (hh : A.handled = none) (iE : IsComp (scopeOf (stAt 20)) env X)
    (F : Fst G (n + 14) A env ok [("script", .list (zs xs)), ("cells", .list (zs (drawsF xs))), ("wide", .int W), ("digits", .list (zs (nats dg))), ("count", .int N), ("text", .str (textF dg)), ("sizes", .list (zs (nats sizes)))] s₀ sT s)
    (h : ∀ s' sT', Fst G (n + 14) A env ok [("script", .list (zs xs)), ("cells", .list (zs (drawsF xs))), ("wide", .int W), ("digits", .list (zs (nats dg))), ("count", .int N), ("text", .str (textF dg)), ("sizes", .list (zs (nats sizes))), ("history", .list (histD sizes Nm K)), ("read", .list (readD sizes Nm K)), ("endless", .list (zs (enF sizes))), ("reaches", .list (zs (rsF sizes K)))] s₀ sT' s' → wpAny G.M A (execs ((bodyOf (stAt 20)).drop 10) env) Q E s') :
    wpAny G.M A (execs ((bodyOf (stAt 20)).drop 6) env) Q E s := by
  have gb : ∀ x : String, (scopeOf (stAt 20)).names.lookup (Str.ofString x) = some .globalImplicit → env.kindOf (Str.ofString x) = some .globalImplicit := fun x h => iE.kinds _ _ h (by decide)
  have q1 := q.n1
  have q2 := q.n2
  have qk := q.kk
  have htl := q.tl
  have hsx : ∀ x ∈ sizes, 1 ≤ x ∧ x ≤ 8 := fun x hx => by
    obtain ⟨i, hi, rfl⟩ := List.mem_iff_getElem.mp hx
    have := q.sz1 i
    rw [szF_lt hi] at this
    (first | lia | omega)
  -- history, read
  refine st_pair (x := "history") (y := "read") (K := fun v1 v2 s' => Aft G (n + 14) A s s' ∧ Rel ok s'.heap (.list (histD sizes Nm K)) v1 ∧ Rel ok s'.heap (.list (readD sizes Nm K)) v2) hh (Ev.to (F.ev (ev_call (d := .tup [.list (histD sizes Nm K), .list (readD sizes Nm K)]) (fa := 92) (ds := [.str (textF dg), .list (zs (nats sizes))]) (kds := []) (names := []) (m := n + 12) (ev_glob (gb "_law_history" (by kernel_rfl)) (by kernel_rfl)) (evs_cons (ev_name (.tail _ (.tail _ (.tail _ (.tail _ (.tail _ (.head _))))))) (evs_one (ev_name (.tail _ (.tail _ (.tail _ (.tail _ (.tail _ (.tail _ (.head _)))))))))) ekw_nil (d92 _)
    (spec_history (Nm := Nm) (K := K) (by (first | lia | omega)) hne hsx (by (first | lia | omega)) q.h0 q.hS (fun i hi => by
      obtain ⟨a1, a2⟩ := q.nm i (by (first | lia | omega))
      exact ⟨fun v hv => by have := a2 v hv; (first | lia | omega), by (first | lia | omega), by (first | lia | omega)⟩) (fun i hi => by rw [htl]; exact q.r1 i hi) (by rw [htl]; exact q.r2) (by (first | lia | omega))) (by (first | lia | omega)))) fun v s₁ ⟨x, r⟩ => ?_) ?_ (by rfl)
  · simp only [Rel, RelAll] at r
    obtain ⟨Tp, vsT, kT, rfl, _, hgT, w1, _, rfl, r1, w2, _, rfl, r2, rfl⟩ := r
    exact ⟨w1, w2, Tp, kT, rfl, hgT, x, by simp only [Rel]; exact r1, by simp only [Rel]; exact r2⟩
  rintro w1 w2 s₁ h1 ⟨x, r1, r2⟩ hk1
  have x2 := x.2.keeps (h' := h1) (tk := s₁.toks) hk1
  have F1 := F.aft (x.trans x2)
  refine F1.store (at_ofC iE (by kernel_rfl)) (d := .list (histD sizes Nm K)) (r1.kept x.2.tab x2.1.kept) (ρ' := [("script", .list (zs xs)), ("cells", .list (zs (drawsF xs))), ("wide", .int W), ("digits", .list (zs (nats dg))), ("count", .int N), ("text", .str (textF dg)), ("sizes", .list (zs (nats sizes))), ("history", .list (histD sizes Nm K))]) (.tail (.tail (.tail (.tail (.tail (.tail (.tail .nil))))))) fun s₂ F2 k2 => ?_
  refine F2.store (at_of iE (by kernel_rfl)) (d := .list (readD sizes Nm K)) ((r2.kept x.2.tab x2.1.kept).solid k2) (ρ' := [("script", .list (zs xs)), ("cells", .list (zs (drawsF xs))), ("wide", .int W), ("digits", .list (zs (nats dg))), ("count", .int N), ("text", .str (textF dg)), ("sizes", .list (zs (nats sizes))), ("history", .list (histD sizes Nm K)), ("read", .list (readD sizes Nm K))]) (.tail (.tail (.tail (.tail (.tail (.tail (.tail (.tail .nil)))))))) fun s₃ F3 k3 => ?_
  -- endless
  refine st_set F3 (F3.ev (d := .list (zs (enF sizes))) (by
    rw [← endless_eq hne]
    refine ev_addL (ev_name (.tail _ (.tail _ (.tail _ (.tail _ (.tail _ (.tail _ (.head _)))))))) (ev_mulL (k := 4) (ev_slice (ev_name (.tail _ (.tail _ (.tail _ (.tail _ (.tail _ (.tail _ (.head _)))))))) (part_some (ev_neg ev_int)) part_none (by unfold sizeLine; simp; (first | lia | omega))) ev_int ?_ (by decide)) ?_
    · simp; (first | lia | omega)
    · unfold sizeLine; simp; (first | lia | omega))) (at_ofC iE (by kernel_rfl)) (ρ' := [("script", .list (zs xs)), ("cells", .list (zs (drawsF xs))), ("wide", .int W), ("digits", .list (zs (nats dg))), ("count", .int N), ("text", .str (textF dg)), ("sizes", .list (zs (nats sizes))), ("history", .list (histD sizes Nm K)), ("read", .list (readD sizes Nm K)), ("endless", .list (zs (enF sizes)))]) (.tail (.tail (.tail (.tail (.tail (.tail (.tail (.tail (.tail .nil))))))))) fun s₄ F4 _ => ?_
  -- reaches
  refine st_set F4 (F4.ev (d := .list (zs (rsF sizes 0))) (ev_list (evs_one ev_int) (by unfold sizeLine; simp))) (at_ofC iE (by kernel_rfl)) (ρ' := [("script", .list (zs xs)), ("cells", .list (zs (drawsF xs))), ("wide", .int W), ("digits", .list (zs (nats dg))), ("count", .int N), ("text", .str (textF dg)), ("sizes", .list (zs (nats sizes))), ("history", .list (histD sizes Nm K)), ("read", .list (readD sizes Nm K)), ("endless", .list (zs (enF sizes))), ("reaches", .list (zs (rsF sizes 0)))]) (.tail (.tail (.tail (.tail (.tail (.tail (.tail (.tail (.tail (.tail .nil)))))))))) fun s₅ F5 _ => ?_
  have mR : ∀ i, ("reaches", D.list (zs (rsF sizes i))) ∈ [("script", .list (zs xs)), ("cells", .list (zs (drawsF xs))), ("wide", .int W), ("digits", .list (zs (nats dg))), ("count", .int N), ("text", .str (textF dg)), ("sizes", .list (zs (nats sizes))), ("history", .list (histD sizes Nm K)), ("read", .list (readD sizes Nm K)), ("endless", .list (zs (enF sizes))), ("reaches", .list (zs (rsF sizes i)))] := fun i => .tail _ (.tail _ (.tail _ (.tail _ (.tail _ (.tail _ (.tail _ (.tail _ (.tail _ (.tail _ (.head _))))))))))
  have hlast : ∀ i, (zs (rsF sizes i)).getLast? = some (.int (rchF sizes i)) := fun i => by
    rw [List.getLast?_eq_getElem?]; simp [rsF]
  refine st_while (fun k s' => ∃ i, i ≤ K ∧ k = K - i ∧ Fst G (n + 14) A env ok [("script", .list (zs xs)), ("cells", .list (zs (drawsF xs))), ("wide", .int W), ("digits", .list (zs (nats dg))), ("count", .int N), ("text", .str (textF dg)), ("sizes", .list (zs (nats sizes))), ("history", .list (histD sizes Nm K)), ("read", .list (readD sizes Nm K)), ("endless", .list (zs (enF sizes))), ("reaches", .list (zs (rsF sizes i)))] s₀ sT s') K ⟨0, Nat.zero_le _, rfl, F5⟩ ?_
  rintro k s' ⟨i, hi, rfl, F6⟩
  refine Ev.to (F6.tst (tst_cmp (ev_last (ev_name (mR i)) (ev_neg ev_int) (hlast i)) (ev_name (.tail _ (.tail _ (.tail _ (.tail _ (.head _)))))) cmp_lt)) fun b s₇ h00 => ?_
  obtain ⟨x7, e⟩ := h00
  subst e
  have F7 := F6.aft x7
  by_cases hlt : rchF sizes i < N
  · have hiK : i < K := by
      rcases Nat.lt_or_ge i K with h' | h'
      · exact h'
      · have : i = K := by (first | lia | omega)
        subst this
        have := q.r2
        (first | lia | omega)
    rw [if_pos (by simpa using hlt)]
    have e : zs (rsF sizes (i + 1)) = zs (rsF sizes i) ++ [.int ((rchF sizes i : Int) * (szF sizes i : Int))] := by
      rw [rsF, List.range_succ, List.map_append, zs, List.map_append]
      simp only [List.map_cons, List.map_nil, rchF]
      push_cast; rfl
    have hln : ((zs (rsF sizes i)).length : Int) - 1 = (i : Int) := by simp [rsF]
    refine st_set F7 (F7.ev (d := .list (zs (rsF sizes (i + 1)))) (by
      rw [e]
      refine ev_addL (ev_name (mR i)) (ev_list (evs_one (ev_mul (ev_last (ev_name (mR i)) (ev_neg ev_int) (hlast i)) (ev_item (k := (i : Int)) (ev_name (.tail _ (.tail _ (.tail _ (.tail _ (.tail _ (.tail _ (.tail _ (.tail _ (.tail _ (.head _))))))))))) (by rw [← hln]; exact ev_sub (ev_lenL (ev_blt (gb "len" (by kernel_rfl)) (by kernel_rfl) (by kernel_rfl)) (ev_name (mR i)) (by simp [rsF]; (first | lia | omega))) ev_int) (by (first | lia | omega)) (by (first | lia | omega)) ?_) ?_)) (by unfold sizeLine; simp)) ?_
      · rw [Int.toNat_natCast, zs, List.getElem?_map, enF, List.getElem?_map, List.getElem?_range (by (first | lia | omega))]; rfl
      · have := q.sz1 i; (first | lia | omega)
      · unfold sizeLine; simp [rsF]; (first | lia | omega))) (at_ofC iE (by kernel_rfl)) (ρ' := [("script", .list (zs xs)), ("cells", .list (zs (drawsF xs))), ("wide", .int W), ("digits", .list (zs (nats dg))), ("count", .int N), ("text", .str (textF dg)), ("sizes", .list (zs (nats sizes))), ("history", .list (histD sizes Nm K)), ("read", .list (readD sizes Nm K)), ("endless", .list (zs (enF sizes))), ("reaches", .list (zs (rsF sizes (i + 1))))]) (.tail (.tail (.tail (.tail (.tail (.tail (.tail (.tail (.tail (.tail .head)))))))))) fun s₈ F8 _ => wpAny_execs_nil ⟨K - (i + 1), by (first | lia | omega), i + 1, hiK, rfl, F8⟩
  · rw [if_neg (by simpa using hlt)]
    have hiK : i = K := by
      rcases Nat.lt_or_ge i K with h' | h'
      · exact absurd (q.r1 i h') hlt
      · (first | lia | omega)
    subst hiK
    exact h _ _ F7
end
end Mine
/-! B38 -/
namespace Mine
section
variable {G : W0} {n : Nat} {A : Around} {env : Env} {ok : Addr → Prop} {ρ : List (String × D)}

noncomputable abbrev rS (xs : List Int) (W N : Nat) (dg sizes : List Nat) (K : Nat) (Nm : Nat → List Nat) : List (String × D) :=
  [("script", .list (zs xs)), ("cells", .list (zs (drawsF xs))), ("wide", .int W), ("digits", .list (zs (nats dg))), ("count", .int N), ("text", .str (textF dg)), ("sizes", .list (zs (nats sizes))), ("history", .list (histD sizes Nm K)), ("read", .list (readD sizes Nm K)), ("endless", .list (zs (enF sizes))), ("reaches", .list (zs (rsF sizes K)))]

noncomputable def strOf : Expr → Option Str
  | .Constant (.str x) _ _ => some x
  | _ => none
theorem strOf_some {e : Expr} {x : Str} (h : strOf e = some x) : ∃ k p, e = .Constant (.str x) k p := by
  unfold strOf at h
  split at h
  · cases h; exact ⟨_, _, rfl⟩
  · cases h
noncomputable def isStrsL : List Expr → List Str → Bool
  | [], [] => true
  | e :: es, y :: ys => decide (strOf e = some y) && isStrsL es ys
  | _, _ => false
noncomputable def itemsOf : Expr → List Expr
  | .List es _ => es
  | _ => []
noncomputable def isStrs (e : Expr) (xs : List Str) : Bool := isStrsL (itemsOf e) xs && !(itemsOf e).isEmpty
theorem evs_strs : ∀ {es : List Expr} {xs : List Str}, isStrsL es xs = true → Evs G n A env ok ρ es (xs.map .str)
  | [], [], _ => evs_nil
  | [], _ :: _, h => nomatch h
  | _ :: _, [], h => nomatch h
  | e :: es, y :: ys, h => by
    have h' := Bool.and_eq_true_iff.mp h
    obtain ⟨k, p, e1⟩ := strOf_some (of_decide_eq_true h'.1)
    subst e1
    exact evs_cons ev_str (evs_strs h'.2)
theorem itemsOf_list {e : Expr} (h : (itemsOf e).isEmpty = false) : ∃ p, e = .List (itemsOf e) p := by
  unfold itemsOf at h ⊢
  split
  · exact ⟨_, rfl⟩
  · rename_i q; split at h
    · exact absurd rfl (q _ _)
    · cases h
theorem ev_strs {e : Expr} {xs : List Str} (h : isStrs e xs = true) (hz : (xs.map D.str).length ≤ sizeLine) : Ev G n A env ok ρ e (.list (xs.map .str)) := by
  have h' := Bool.and_eq_true_iff.mp h
  obtain ⟨p, e1⟩ := itemsOf_list ((Bool.not_eq_true' _).mp h'.2)
  rw [e1]
  exact ev_list (evs_strs h'.1) hz
theorem words_ex : ∃ px e pos rest, (bodyOf (stAt 20)).drop 13 = .Assign [.Name (Str.ofString "words") px] e pos :: rest ∧ isStrs e wordsL = true ∧ (∀ t line env, swapsWith e t line env = pure false) ∧ rest = (bodyOf (stAt 20)).drop 14 :=
  ⟨_, _, _, _, rfl, by kernel_rfl, fun _ _ _ => rfl, rfl⟩
theorem law_words {X : Addr → Prop} {s s₀ sT : Shared} {Q : Flow → Shared → Prop} {E : Value → Shared → Prop} {ρ ρ' : List (String × D)} (iE : IsComp (scopeOf (stAt 20)) env X) (F3 : Fst G (n + 14) A env ok ρ s₀ sT s) (U : Upd "words" (.list (wordsL.map .str)) ρ ρ')
    (h : ∀ s', Fst G (n + 14) A env ok ρ' s₀ sT s' → wpAny G.M A (execs ((bodyOf (stAt 20)).drop 14) env) Q E s') :
    wpAny G.M A (execs ((bodyOf (stAt 20)).drop 13) env) Q E s := by
  obtain ⟨px, e, pos, rest, e1, e2, e4, e3⟩ := words_ex
  rw [e1]
  exact st_set F3 (F3.ev (ev_strs e2 (by unfold sizeLine; simp [wordsL]))) (at_ofC iE (by kernel_rfl)) U (fun s' F' _ => e3 ▸ h s' F') (e4 _ _ _)

noncomputable abbrev rW (xs : List Int) (W N : Nat) (dg sizes : List Nat) (K T : Nat) (Nm : Nat → List Nat) (mx : Nat → Nat) : List (String × D) :=
  rS xs W N dg sizes K Nm ++ [("names", .list (zs (nats (Nm K)))), ("counts", .list (zs (cnF mx K))), ("turn", .int T), ("words", .list (wordsL.map .str))]
theorem law_alike {xs : List Int} {W N : Nat} {dg sizes : List Nat} {K T : Nat} {Nm : Nat → List Nat} {mx : Nat → Nat} {out : Nat → List (List Int × Int)} {pls : Nat → List Nat} {X : Addr → Prop} {s s₀ sT : Shared} {Q : Flow → Shared → Prop} {E : Value → Shared → Prop}
    (q : LawQ N dg sizes (textF dg) K T Nm mx out pls) (hbm : G.base.BuiltinsAt G.mg 99) (c₀ : ∃ m A', Cx G m A' s₀) (iE : IsComp (scopeOf (stAt 20)) env X)
    (F4 : Fst G (n + 14) A env ok (rW xs W N dg sizes K T Nm mx) s₀ sT s)
    (h : ∀ s' v sT' ρ', Fst G (n + 14) A env ok ρ' s₀ sT' s' → v = .bool true → Q (.ret v) s') :
    wpAny G.M A (execs ((bodyOf (stAt 20)).drop 14) env) Q E s := by
  have gb : ∀ x : String, (scopeOf (stAt 20)).names.lookup (Str.ofString x) = some .globalImplicit → env.kindOf (Str.ofString x) = some .globalImplicit := fun x h => iE.kinds _ _ h (by decide)
  have filt : ∀ {α : Type} (l : List α), l.filter (fun _ => true) = l := fun l => List.filter_eq_self.mpr fun _ _ => rfl
  have q1 := q.n1
  have q2 := q.n2
  have qk := q.kk
  have hT := q.t1
  -- alike
  have e4 : ((List.range T).filter fun _ => true).map (fun v => D.list (zs (nats (pls v)))) = alD pls T := by rw [filt]
  have e5 : (List.range T).map (fun (i : Nat) => D.int (i : Int)) = rng 0 1 T := (rng_nat _).symm
  have e6 : (List.range N).map (fun (i : Nat) => D.int (i : Int)) = rng 0 1 N := (rng_nat _).symm
  have hNK := q.nm K (Nat.le_refl _)
  refine st_comp (isL := false) (y := "alike") (List.range T) (fun (i : Nat) => D.int (i : Int)) (fun _ => true) (fun v => D.list (zs (nats (pls v)))) (fun (i : Nat) => [("name", .int (i : Int))]) (ρc := [("count", .int N), ("names", .list (zs (nats (Nm K))))]) F4 c₀
    (by rw [e5]; exact src_range1 (ev_blt (gb "range" (by kernel_rfl)) (by kernel_rfl) (by kernel_rfl)) (ev_name (.tail _ (.tail _ (.tail _ (.tail _ (.tail _ (.tail _ (.tail _ (.tail _ (.tail _ (.tail _ (.tail _ (.tail _ (.tail _ (.head _))))))))))))))) (by (first | lia | omega))) rfl (by decide) (freeOk iE (by kernel_rfl)) (.cell iE (.tail _ (.tail _ (.tail _ (.tail _ (.head _))))) (by kernel_rfl) (by kernel_rfl) (.cell iE (.tail _ (.tail _ (.tail _ (.tail _ (.tail _ (.tail _ (.tail _ (.tail _ (.tail _ (.tail _ (.tail _ (.head _)))))))))))) (by kernel_rfl) (by kernel_rfl) .nil))
    (.inl fun _ _ => rfl) (fun cenv ok' X iC x hx => tgt_name (iC.atX _ _ (by kernel_rfl) (.inr rfl)) (.tail (.tail .nil))) (fun cenv ok' X iC x hx => tests_nil) (fun cenv ok' X iC v hv _ => ?_) (by unfold sizeLine; simp; (first | lia | omega)) (iE.kinds _ _ (by kernel_rfl) (by decide))
    (ρ' := rL xs (drawsF xs) W N dg sizes (textF dg) K T Nm mx pls) (e4 ▸ .tail (.tail (.tail (.tail (.tail (.tail (.tail (.tail (.tail (.tail (.tail (.tail (.tail (.tail (.tail .nil))))))))))))))) fun s₅ F5 _ => ?_
  · have hv' := List.mem_range.mp hv
    have e7 : D.list (zs (nats (pls v))) = .list (((List.range N).filter fun i => decide ((Nm K).getD i 0 = v)).map fun (i : Nat) => D.int (i : Int)) := by
      rw [(q.pl1 v hv').2, zs, nats, List.map_map]; rfl
    rw [e7]
    refine ev_comp (isL := false) (List.range N) (fun (i : Nat) => D.int (i : Int)) (fun i => decide ((Nm K).getD i 0 = v)) _ (fun (i : Nat) => [("i", .int (i : Int))]) (ρc := [("names", .list (zs (nats (Nm K)))), ("name", .int (v : Int))]) (by rw [e6]; exact src_range1 (ev_blt (iC.kinds _ _ (by kernel_rfl) (by decide)) (by kernel_rfl) (by kernel_rfl)) (ev_name (.head _)) (by (first | lia | omega))) rfl (by decide) (freeOk iC (by kernel_rfl)) (.free iC (.tail _ (.head _)) (by kernel_rfl) (by kernel_rfl) (.cell iC (.tail _ (.tail _ (.head _))) (by kernel_rfl) (by kernel_rfl) .nil))
      (.inl fun _ _ => rfl) (fun cenv ok' X iC x hx => tgt_name (iC.atX _ _ (by kernel_rfl) (.inl rfl)) (.tail (.tail .nil))) (fun cenv2 ok2 X2 iD i hi => ?_) (fun cenv ok' X iC i hi _ => ev_name (.tail _ (.tail _ (.head _)))) (by unfold sizeLine; simp; (first | lia | omega))
    have hiN := List.mem_range.mp hi
    refine tests_one ?_
    show Tst _ _ _ _ _ _ _ (decide ((Nm K).getD i 0 = v))
    have hb : (((Nm K).getD i 0 : Int) == (v : Int)) = decide ((Nm K).getD i 0 = v) := by
      rw [Bool.eq_iff_iff]; simp; (first | lia | omega)
    rw [← hb]
    refine tst_cmp (ev_item (k := (i : Int)) (ev_name (.head _)) (ev_name (.tail _ (.tail _ (.head _)))) (by (first | lia | omega)) (by (first | lia | omega)) ?_) (ev_name (.tail _ (.head _))) cmp_eq
    rw [Int.toNat_natCast, zs, nats, List.map_map, List.getElem?_map, List.getElem?_eq_getElem (by (first | lia | omega)), List.getD_eq_getElem?_getD, List.getElem?_eq_getElem (by (first | lia | omega))]
    rfl
  exact law_ret q hbm iE F5 fun s' v F' r => h s' v _ _ F' r

theorem law_13 {xs : List Int} {W N : Nat} {dg sizes : List Nat} {K T : Nat} {Nm : Nat → List Nat} {mx : Nat → Nat} {out : Nat → List (List Int × Int)} {pls : Nat → List Nat} {X : Addr → Prop} {s s₀ sT : Shared} {Q : Flow → Shared → Prop} {E : Value → Shared → Prop} {rest : List Stmt} (hr : (bodyOf (stAt 20)).drop 13 = rest)
    (q : LawQ N dg sizes (textF dg) K T Nm mx out pls) (hbm : G.base.BuiltinsAt G.mg 99) (c₀ : ∃ m A', Cx G m A' s₀) (iE : IsComp (scopeOf (stAt 20)) env X)
    (F3 : Fst G (n + 14) A env ok (rS xs W N dg sizes K Nm ++ [("names", .list (zs (nats (Nm K)))), ("counts", .list (zs (cnF mx K))), ("turn", .int T)]) s₀ sT s)
    (h : ∀ s' v sT' ρ', Fst G (n + 14) A env ok ρ' s₀ sT' s' → v = .bool true → Q (.ret v) s') :
    wpAny G.M A (execs rest env) Q E s :=
  Eq.subst (motive := fun r => wpAny G.M A (execs r env) Q E s) hr
    (@law_words G n A env ok X s s₀ sT Q E _ (rW xs W N dg sizes K T Nm mx) iE F3 (.tail (.tail (.tail (.tail (.tail (.tail (.tail (.tail (.tail (.tail (.tail (.tail (.tail (.tail .nil))))))))))))))
      fun s₄ F4 => @law_alike G n A env ok xs W N dg sizes K T Nm mx out pls X s₄ s₀ sT Q E q hbm c₀ iE F4 h)
theorem law_ends {xs : List Int} {W N : Nat} {dg sizes : List Nat} {K T : Nat} {Nm : Nat → List Nat} {mx : Nat → Nat} {out : Nat → List (List Int × Int)} {pls : Nat → List Nat} {X : Addr → Prop} {s s₀ sT : Shared} {Q : Flow → Shared → Prop} {E : Value → Shared → Prop}
    (q : LawQ N dg sizes (textF dg) K T Nm mx out pls) (hbm : G.base.BuiltinsAt G.mg 99) (c₀ : ∃ m A', Cx G m A' s₀) (iE : IsComp (scopeOf (stAt 20)) env X)
    (F : Fst G (n + 14) A env ok (rS xs W N dg sizes K Nm) s₀ sT s)
    (h : ∀ s' v sT' ρ', Fst G (n + 14) A env ok ρ' s₀ sT' s' → v = .bool true → Q (.ret v) s') :
    wpAny G.M A (execs ((bodyOf (stAt 20)).drop 10) env) Q E s := by
  have gb : ∀ x : String, (scopeOf (stAt 20)).names.lookup (Str.ofString x) = some .globalImplicit → env.kindOf (Str.ofString x) = some .globalImplicit := fun x h => iE.kinds _ _ h (by decide)
  have filt : ∀ {α : Type} (l : List α), l.filter (fun _ => true) = l := fun l => List.filter_eq_self.mpr fun _ _ => rfl
  have q1 := q.n1
  have q2 := q.n2
  have qk := q.kk
  have hT := q.t1
  have hlast : (histD sizes Nm K).getLast? = some (hD sizes Nm K) := by
    rw [List.getLast?_eq_getElem?]; simp [histD]
  have ecut : (bodyOf (stAt 20)).drop 10 = ((bodyOf (stAt 20)).drop 10).take 3 ++ (bodyOf (stAt 20)).drop 13 := by
    have := List.take_append_drop 3 ((bodyOf (stAt 20)).drop 10)
    rw [List.drop_drop] at this
    exact this.symm
  rw [ecut]
  generalize hr : (bodyOf (stAt 20)).drop 13 = rest; revert rest; refine hold ?_; intro rest hr
  -- names
  refine st_set F (F.ev (d := .list (zs (nats (Nm K)))) (ev_itemT (k := 1) (ev_last (ev_name (.tail _ (.tail _ (.tail _ (.tail _ (.tail _ (.tail _ (.tail _ (.head _))))))))) (ev_neg ev_int) hlast) ev_int (by decide) rfl)) (at_ofC iE (by kernel_rfl)) (ρ' := rS xs W N dg sizes K Nm ++ [("names", .list (zs (nats (Nm K))))]) (.tail (.tail (.tail (.tail (.tail (.tail (.tail (.tail (.tail (.tail (.tail .nil))))))))))) fun s₁ F1 _ => ?_
  -- counts
  have e1 : ((List.range (K + 1)).filter fun _ => true).map (fun i => D.int ((mx i : Int) + 1)) = zs (cnF mx K) := by rw [filt, zs, cnF, List.map_map]; rfl
  refine st_set F1 (F1.ev (d := .list (zs (cnF mx K))) (by
    rw [← e1]
    refine ev_comp (List.range (K + 1)) (hD sizes Nm) (fun _ => true) (fun i => D.int ((mx i : Int) + 1)) (fun i => [("reach", .int (rchF sizes i)), ("told", .list (zs (nats (Nm i))))]) (ρc := []) (src_list (ev_name (.tail _ (.tail _ (.tail _ (.tail _ (.tail _ (.tail _ (.tail _ (.head _)))))))))) rfl (by decide) (freeOk iE (by kernel_rfl)) .nil (.inr ⟨rfl, ⟨_, _, _, rfl⟩, fun x _ => ⟨_, rfl⟩⟩)
      (fun cenv ok' X iC x hx => tgt_pair (tgt_name (iC.atX _ _ (by kernel_rfl) (.inl rfl)) .nil) (tgt_name (iC.atX _ _ (by kernel_rfl) (.inl rfl)) (.tail .nil))) (fun cenv ok' X iC x hx => tests_nil) (fun cenv ok' X iC i hi _ => ?_) (by unfold sizeLine; simp; omega)
    obtain ⟨m1, m2⟩ := q.mx1 i (by have := List.mem_range.mp hi; omega)
    exact ev_add (ev_maxL (l := nats (Nm i)) (ev_blt (iC.kinds _ _ (by kernel_rfl) (by decide)) (by kernel_rfl) (by kernel_rfl)) (ev_name (.tail _ (.head _))) (List.mem_map.mpr ⟨_, m1, rfl⟩) (fun x hx => by obtain ⟨v, hv, rfl⟩ := List.mem_map.mp hx; have := m2 v hv; omega)) ev_int)) (at_ofC iE (by kernel_rfl)) (ρ' := rS xs W N dg sizes K Nm ++ [("names", .list (zs (nats (Nm K)))), ("counts", .list (zs (cnF mx K)))]) (.tail (.tail (.tail (.tail (.tail (.tail (.tail (.tail (.tail (.tail (.tail (.tail .nil)))))))))))) (fun s₂ F2 _ => ?_) (swaps_cell (iE.kinds _ _ (by kernel_rfl) (by decide)))
  -- turn
  have hdl : (zs (nats dg)).length = N := by simp [q.dl]
  have e2 : (((List.range N).filter fun i => decide (dg.drop (i + 1) ++ dg.take (i + 1) = dg)).map fun (i : Nat) => (1 + (i : Int) * 1)).map D.int = ((List.range N).filter fun i => decide (dg.drop (i + 1) ++ dg.take (i + 1) = dg)).map fun (i : Nat) => D.int (1 + (i : Int) * 1) := by rw [List.map_map]; rfl
  have e3 : (List.range N).map (fun (i : Nat) => D.int (1 + (i : Int) * 1)) = rng 1 1 (((N : Int) + 1) - 1).toNat := by
    rw [show (((N : Int) + 1) - 1).toNat = N by omega]; rfl
  refine st_set F2 (F2.ev (d := .int T) (ev_minL (l := ((List.range N).filter fun i => decide (dg.drop (i + 1) ++ dg.take (i + 1) = dg)).map fun (i : Nat) => (1 + (i : Int) * 1)) (ev_blt (gb "min" (by kernel_rfl)) (by kernel_rfl) (by kernel_rfl)) (by
    rw [e2]
    refine ev_comp (isL := false) (List.range N) (fun (i : Nat) => D.int (1 + (i : Int) * 1)) (fun i => decide (dg.drop (i + 1) ++ dg.take (i + 1) = dg)) _ (fun (i : Nat) => [("k", .int (1 + (i : Int) * 1))]) (ρc := [("digits", .list (zs (nats dg)))]) (by rw [e3]; exact src_range2 (ev_blt (gb "range" (by kernel_rfl)) (by kernel_rfl) (by kernel_rfl)) ev_int (ev_add (ev_name (.tail _ (.tail _ (.tail _ (.tail _ (.head _)))))) ev_int) (by decide) (by omega)) rfl (by decide) (freeOk iE (by kernel_rfl)) (.cell iE (.tail _ (.tail _ (.tail _ (.head _)))) (by kernel_rfl) (by kernel_rfl) .nil)
      (.inl fun _ _ => rfl) (fun cenv ok' X iC x hx => tgt_name (iC.atX _ _ (by kernel_rfl) (.inl rfl)) (.tail .nil)) (fun cenv ok' X iC i hi => ?_) (fun cenv ok' X iC i hi _ => ev_name (.tail _ (.head _))) (by unfold sizeLine; simp; omega)
    have hiN := List.mem_range.mp hi
    have hck : clipAt (zs (nats dg)).length (1 + (i : Int) * 1) = i + 1 := by
      rw [show (1 + (i : Int) * 1) = ((i + 1 : Nat) : Int) by rw [Int.mul_one, Int.add_comm]; rfl, hdl, clipAt_nat]
      exact Nat.min_eq_left hiN
    have ed : (zs (nats dg)).drop (i + 1) = zs (nats (dg.drop (i + 1))) := by rw [zs, nats, ← List.map_drop, ← List.map_drop]
    have et : (zs (nats dg)).take (i + 1) = zs (nats (dg.take (i + 1))) := by rw [zs, nats, ← List.map_take, ← List.map_take]
    have hz : ∀ d ∈ zs (nats dg), Atom true d := fun d hd => by obtain ⟨x, _, rfl⟩ := List.mem_map.mp hd; trivial
    have hb : leq ((((zs (nats dg)).drop ((some (1 + (i : Int) * 1)).elim 0 (clipAt (zs (nats dg)).length))).take ((none : Option Int).elim (zs (nats dg)).length (clipAt (zs (nats dg)).length) - (some (1 + (i : Int) * 1)).elim 0 (clipAt (zs (nats dg)).length))) ++ (((zs (nats dg)).drop ((none : Option Int).elim 0 (clipAt (zs (nats dg)).length))).take ((some (1 + (i : Int) * 1)).elim (zs (nats dg)).length (clipAt (zs (nats dg)).length) - (none : Option Int).elim 0 (clipAt (zs (nats dg)).length)))) (zs (nats dg)) = decide (dg.drop (i + 1) ++ dg.take (i + 1) = dg) := by
      simp only [Option.elim, hck, List.drop_zero, Nat.sub_zero]
      rw [List.take_of_length_le (by rw [List.length_drop]; omega), ed, et, ← zs_app, leq_zs]
      congr 1
      rw [← List.map_append]
      refine propext ⟨fun h => ?_, fun h => by rw [h]⟩
      exact (List.map_inj_right (fun a b h => by exact Int.ofNat.inj h)).mp h
    refine tests_one ?_
    show Tst _ _ _ _ _ _ _ (decide (dg.drop (i + 1) ++ dg.take (i + 1) = dg))
    rw [← hb]
    refine tst_cmp (ev_addL (ev_slice (ev_name (.head _)) (part_some (ev_name (.tail _ (.head _)))) part_none (by unfold sizeLine; rw [hdl]; omega)) (ev_slice (ev_name (.head _)) part_none (part_some (ev_name (.tail _ (.head _)))) (by unfold sizeLine; rw [hdl]; omega)) ?_) (ev_name (.head _)) (cmp_leq (b := true) (fun d hd => ?_) hz)
    · rw [List.length_take, List.length_take, List.length_drop, List.length_drop, hdl]
      exact Nat.le_trans (Nat.add_le_add (Nat.le_trans (Nat.min_le_right _ _) (Nat.sub_le _ _)) (Nat.le_trans (Nat.min_le_right _ _) (Nat.sub_le _ _))) (Nat.le_trans (Nat.add_le_add q2 q2) (by decide : 12 + 12 ≤ sizeLine))
    · rcases List.mem_append.mp hd with hd | hd
      · exact hz d (List.mem_of_mem_drop (List.mem_of_mem_take hd))
      · exact hz d (List.mem_of_mem_drop (List.mem_of_mem_take hd))) ?_ ?_)) (at_ofC iE (by kernel_rfl)) (ρ' := rS xs W N dg sizes K Nm ++ [("names", .list (zs (nats (Nm K)))), ("counts", .list (zs (cnF mx K))), ("turn", .int T)]) (.tail (.tail (.tail (.tail (.tail (.tail (.tail (.tail (.tail (.tail (.tail (.tail (.tail .nil))))))))))))) fun s₃ F3 _ => ?_
  · refine List.mem_map.mpr ⟨T - 1, List.mem_filter.mpr ⟨List.mem_range.mpr (by omega), ?_⟩, by omega⟩
    rw [show T - 1 + 1 = T by omega]; exact decide_eq_true q.t2
  · intro x hx
    obtain ⟨i, hi, rfl⟩ := List.mem_map.mp hx
    obtain ⟨hi1, hi2⟩ := List.mem_filter.mp hi
    have := q.t3 (i + 1) (by omega) (by have := List.mem_range.mp hi1; omega) (of_decide_eq_true hi2)
    omega
  exact law_13 hr q hbm c₀ iE F3 h

/-- the law's answer -/
theorem spec_law {xs : List Int} {W R N : Nat} {dg sizes : List Nat} {K T : Nat} {Nm : Nat → List Nat} {mx : Nat → Nat} {out : Nat → List (List Int × Int)} {pls : Nat → List Nat} (hbm : G.base.BuiltinsAt G.mg 99) (hx : xs.length < 1000)
    (qa : LawA (drawsF xs) W R N dg sizes) (q : LawQ N dg sizes (textF dg) K T Nm mx out pls) : Spec G (n + 15) 114 [.list (zs xs)] [] [] (.bool true) := fun A s vs us c r1 r2 => by
  obtain ⟨v1, _, rfl, ra, rfl⟩ := r1
  obtain rfl := r2
  refine enter (n := n + 14) c (d114 _) (b114 _) (s114 _) (by kernel_rfl) (binds := [(Str.ofString "script", v1)]) (fun S => by kernel_rfl) (by simp) (by kernel_rfl)
    (.cons ra .nil) fun env s₁ iE hfr F _ _ => ?_
  refine law_draws qa q.n2 hx ⟨_, _, c⟩ iE F fun s₂ sT₂ F2 => ?_
  refine law_steps q qa.s1.1 qa.s1.2 c.hh iE F2 fun s₃ sT₃ F3 => ?_
  refine law_ends q hbm ⟨_, _, c⟩ iE F3 fun s' v sT' ρ' F' hv => ⟨v, rfl, F'.done c, by simp only [Rel]; exact hv⟩
end
end Mine
/-! B39 -/
namespace Mine

/-- the plain law -/
noncomputable def LawOk (xs : List Int) : Prop := ∃ W R N dg sizes K T Nm mx out pls, LawA (drawsF xs) W R N dg sizes ∧ LawQ N dg sizes (textF dg) K T Nm mx out pls

theorem not99 (P : Params) : (hd.heap_1 P).lookup 99 = none := by kernel_rfl
theorem law114 (P : Params) : nsIn (hd.heap_1 P) mainGlobals (Str.ofString "law") = some (some (.ref 114)) := by kernel_rfl

theorem top_ok {w : World} {s₁ : Shared} {mg mb : Str → Option Value} {a : Addr} {vs : List Value} {xs : List Int} (KX : (hd.heap_1 w.params).In s₁.heap) (h99 : s₁.heap.get? 99 = some (tabObj #[]))
    (hG : s₁.heap.Ns mainGlobals mg) (hB : s₁.heap.Ns builtinsNs mb) (hbi : ∀ x : Str, x ≠ "__name__" → mb x = bootBuiltins x) (hlim : s₁.heap.NoLimit) (hdig : ∃ mc, s₁.heap.Ns cStatics mc ∧ mc "sys.int_max_str_digits" = none)
    (hbm : ∃ bm ob, mg "__builtins__" = some (.ref bm) ∧ bm ≠ builtinsNs ∧ s₁.heap.get? bm = some ob ∧ ob.cls = .type "module" ∧ ob.dict = some builtinsNs ∧ ob.data = .plain) (hg : s₁.gens = #[])
    (ha : s₁.heap.get? a = some { cls := .type "list", data := .seq vs.toArray }) (hI : IntsAre vs xs) (hx : xs.length < 1000) (hok : LawOk xs) :
    wpAny (model prg w) callerA (call (.ref 114) [.ref a]) (fun v s' => v = .bool true ∧ OldK s₁.heap s'.heap ∧ s'.os = s₁.os ∧ AllBare s'.gens) (fun _ _ => False) s₁ := by
  obtain ⟨W, R, N, dg, sizes, K, T, Nm, mx, out, pls, qa, q⟩ := hok
  have hk : ∀ b o, b ≠ 99 → s₁.heap.get? b = some o → (s₁.heap.hide 99).get? b = some o := fun b o hb e => by rw [Heap.hide_ne _ hb]; exact e
  have nsk : ∀ {x : Addr} {m : Str → Option Value}, s₁.heap.Ns x m → (s₁.heap.hide 99).Ns x m := fun {x m} n => by
    obtain ⟨o, es, ep, e, hd, r⟩ := n
    exact ⟨o, es, ep, hk x o (fun q => by subst q; rw [h99] at e; cases e; cases hd) e, hd, r⟩
  obtain ⟨bm, ob, b1, b2, b3, b4, b5, b6⟩ := hbm
  have hbm9 : bm ≠ 99 := fun q => by subst q; rw [h99] at b3; cases b3; cases b4
  let G : W0 := {
    w := w
    base := s₁.heap.hide 99
    mg := mg
    mb := mb
    kin := fun b o e => hk b o (fun q => by subst q; rw [not99] at e; cases e) (KX b o e)
    g := nsk hG
    b := nsk hB
    bi := hbi
    nolim := by obtain ⟨mc, h1, h2⟩ := hlim; exact ⟨mc, nsk h1, h2⟩
    nodig := by obtain ⟨mc, h1, h2⟩ := hdig; exact ⟨mc, nsk h1, h2⟩
    notab := Heap.hide_self _ _ }
  have hbg : bm ≠ mainGlobals := fun q => by
    obtain ⟨o, es, ep, e, hd, _⟩ := hG
    rw [← q, b3] at e; cases e; rw [b6] at hd; cases hd
  have hBM : G.base.BuiltinsAt G.mg 99 := ⟨bm, ob, b1, b2, hbg, hbm9, hk _ _ hbm9 b3, b4, b5, b6⟩
  have c : Cx G 15 callerA s₁ := ⟨fun b o e => Heap.of_hide e, .inl h99, ⟨[], rfl, trivial⟩, rfl, by decide, by decide, by rw [hg]; exact AllBare.empty⟩
  have hr : RelAll (fun _ => True) s₁.heap [.list (zs xs)] [.ref a] := by
    refine RelAll.cons' ?_ RelAll.nil'
    simp only [Rel]
    refine ⟨a, vs, 0, rfl, trivial, ha, ?_⟩
    have key : ∀ {vs : List Value} {xs : List Int}, IntsAre vs xs → RelAll (fun _ => True) s₁.heap (zs xs) vs := by
      intro vs xs h
      induction h with
      | nil => exact RelAll.nil'
      | cons i t _ ih => exact RelAll.cons' ⟨_, rfl⟩ ih
    exact key hI
  have hs := spec_law (G := G) (n := 0) hBM hx qa q callerA s₁ [.ref a] [] c hr RelAll.nil'
  refine wpAny_call (codeAny_mono hs fun r s' h00 => ?_)
  obtain ⟨v, e, ⟨ex, cx⟩, rr⟩ := h00
  subst e
  refine ⟨rr, ⟨fun b o e => ?_, fun b o e => ?_⟩, ex.os, cx.bare⟩
  · by_cases hb : b = 99
    · subst hb
      rw [h99] at e; cases e
      obtain ⟨oc, vsc, f, tf, fl, tg, inF, tx, tt, e1, e2, e3, e4, _⟩ := hd101 KX
      refine .inr (.inl ⟨⟨101, oc, vsc, e1, e2, e3, e4⟩, rfl, #[], ?_⟩)
      rcases cx.tab with ht | ⟨cc, ht, _⟩
      · exact ⟨#[], rfl, ht⟩
      · exact ⟨#[rawInt lamPos.line, rawInt lamPos.col, .ref cc], rfl, by rw [ht]; simp⟩
    · exact .inl (cx.stays b o (hk b o hb e))
  · by_cases hb : b = 99
    · subst hb
      obtain ⟨vs', e'⟩ := cx.tab.fields
      exact ⟨_, e'⟩
    · exact ⟨o, cx.stays b o (hk b o hb e)⟩
end Mine
/-! P1 -/
namespace Mine

/-! the plain law: names -/

theorem bis_at {p : Nat → Bool} {m : Nat} : ∀ (f lo hi : Nat), hi - lo ≤ f → lo ≤ m → m ≤ hi → (∀ q, lo ≤ q → q < hi → (p q = true ↔ q < m)) → bis p f lo hi = m
  | 0, lo, hi, hf, h1, h2, h => by unfold bis; (first | lia | omega)
  | f + 1, lo, hi, hf, h1, h2, h => by
    unfold bis
    by_cases hlt : lo < hi
    · rw [if_pos hlt]
      have hm := h ((lo + hi) / 2) (by (first | lia | omega)) (by (first | lia | omega))
      cases hp : p ((lo + hi) / 2) with
      | true =>
        have := hm.mp hp
        simp only [if_true]
        exact bis_at f _ _ (by (first | lia | omega)) (by (first | lia | omega)) h2 fun q q1 q2 => h q (by (first | lia | omega)) q2
      | false =>
        have : ¬ (lo + hi) / 2 < m := fun hlt' => by rw [hm.mpr hlt'] at hp; cases hp
        simp only [Bool.false_eq_true, if_false]
        exact bis_at f _ _ (by (first | lia | omega)) h1 (by (first | lia | omega)) fun q q1 q2 => h q q1 (by (first | lia | omega))
    · rw [if_neg hlt]; (first | lia | omega)

/-- in a row that goes up, those that are less stand ahead -/
theorem up_cut {α : Type} (key : α → Nat) (v : Nat) : ∀ {l : List α}, l.Pairwise (fun a b => key a < key b) →
    (∀ q (hq : q < l.length), (key l[q] < v ↔ q < (l.filter fun a => decide (key a < v)).length))
  | [], _ => fun q hq => by cases hq
  | a :: r, h => fun q hq => by
    have h' := List.pairwise_cons.mp h
    by_cases ha : key a < v
    · rw [List.filter_cons_of_pos (by simpa using ha)]
      cases q with
      | zero => simp [ha]
      | succ q =>
        have := up_cut key v h'.2 q (by simpa using hq)
        simp only [List.getElem_cons_succ, List.length_cons]
        omega
    · have hall : ∀ b ∈ r, ¬ key b < v := fun b hb => by have := h'.1 b hb; omega
      have e : (a :: r).filter (fun a => decide (key a < v)) = [] := by
        refine List.filter_eq_nil_iff.mpr fun b hb => ?_
        rcases List.mem_cons.mp hb with rfl | hb
        · simpa using ha
        · simpa using hall b hb
      rw [e]
      have : ¬ key ((a :: r)[q]) < v := by
        rcases List.mem_cons.mp (List.getElem_mem hq) with e | e
        · rw [e]; exact ha
        · exact hall _ e
      simp only [List.length_nil, Nat.not_lt_zero, iff_false]
      exact this

/-- the first place of its kind -/
noncomputable def fstP (f : Nat → Nat) (j : Nat) : Bool := (List.range j).all fun i => decide (f i ≠ f j)
theorem fstP_iff {f : Nat → Nat} {j : Nat} : fstP f j = true ↔ ∀ i, i < j → f i ≠ f j := by
  simp [fstP]
/-- the first places of all kinds -/
noncomputable def firsts (N : Nat) (f : Nat → Nat) : List Nat := (List.range N).filter (fstP f)
/-- how many kinds are less -/
noncomputable def cnt (N : Nat) (f : Nat → Nat) (v : Nat) : Nat := ((firsts N f).filter fun j => decide (f j < v)).length

theorem firsts_succ (N : Nat) (f : Nat → Nat) : firsts (N + 1) f = firsts N f ++ if fstP f N then [N] else [] := by
  unfold firsts
  rw [List.range_succ, List.filter_append]
  cases h : fstP f N <;> simp [h]

/-- a thing's number -/
structure Mk (mk : Nat → D) : Prop where
  lt : ∀ a b, dlt (mk a) (mk b) = decide (a < b)
  eq : ∀ a b, deq (mk a) (mk b) = decide (a = b)
theorem mk_int : Mk fun a => .int (a : Int) where
  lt := fun a b => by simp [dlt]
  eq := fun a b => by simp only [deq]; rw [Bool.eq_iff_iff]; simp; (first | lia | omega)
theorem mk_str : Mk fun a => .str ⟨#[a]⟩ where
  lt := fun a b => by
    simp only [dlt]
    rw [Bool.eq_iff_iff]
    simp [List.cons_lt_cons_iff]
  eq := fun a b => by
    simp only [deq]
    rw [Bool.eq_iff_iff]
    simp

theorem row_shape {mk : Nat → D} (M : Mk mk) (f : Nat → Nat) (N : Nat) : ∀ i, i ≤ N → ∃ J : List Nat, rowAt ((List.range N).map fun j => mk (f j)) i = ((List.range N).map fun j => mk (f j)) ++ J.map (fun j => mk (f j)) ∧ J.Perm (firsts i f) ∧ J.Pairwise (fun a b => f a < f b)
  | 0, _ => ⟨[], by simp [rowAt], by simp [firsts], List.Pairwise.nil⟩
  | i + 1, hi => by
    obtain ⟨J, e, p, s⟩ := row_shape M f N i (by (first | lia | omega))
    have hNl : ((List.range N).map fun j => mk (f j)).length = N := by simp
    have hget : ((List.range N).map fun j => mk (f j)).getD i .none = mk (f i) := by
      rw [List.getD_eq_getElem?_getD, List.getElem?_map, List.getElem?_range (by (first | lia | omega))]; rfl
    have hins : insAt (rowAt ((List.range N).map fun j => mk (f j)) i) (mk (f i)) id N = N + (J.filter fun a => decide (f a < f i)).length := by
      rw [e]
      have hle : (J.filter fun a => decide (f a < f i)).length ≤ J.length := List.length_filter_le _ _
      refine bis_at _ _ _ (by (first | lia | omega)) (by (first | lia | omega)) (by rw [List.length_append, hNl, List.length_map]; (first | lia | omega)) fun q q1 q2 => ?_
      rw [List.length_append, hNl, List.length_map] at q2
      have hq : q - N < J.length := by (first | lia | omega)
      have eg : (((List.range N).map fun j => mk (f j)) ++ J.map (fun j => mk (f j))).getD q .none = mk (f J[q - N]) := by
        rw [List.getD_eq_getElem?_getD, List.getElem?_append_right (by rw [hNl]; (first | lia | omega)), hNl, List.getElem?_map, List.getElem?_eq_getElem hq]; rfl
      show dlt (id _) (id _) = true ↔ _
      rw [eg]
      simp only [id]
      rw [M.lt]
      have := up_cut f (f i) s (q - N) hq
      rw [decide_eq_true_iff, this]
      exact ar_shift q1
    generalize hm : (J.filter fun a => decide (f a < f i)).length = m at hins
    have hmJ : m ≤ J.length := by rw [← hm]; exact List.length_filter_le _ _
    have hrow : ((rowAt ((List.range N).map fun j => mk (f j)) i).drop (N + m)).take 1 = ((J.drop m).take 1).map fun j => mk (f j) := by
      rw [e, List.drop_append, hNl]
      rw [List.drop_eq_nil_of_le (by rw [hNl]; (first | lia | omega)), List.nil_append, List.map_take, List.map_drop]
      congr 2; (first | lia | omega)
    have hcut := up_cut f (f i) s
    rw [hm] at hcut
    by_cases hex : ∃ a ∈ J, f a = f i
    · -- it is there
      obtain ⟨a, ha, hfa⟩ := hex
      have hfst : fstP f i = false := by
        cases h : fstP f i with
        | false => rfl
        | true =>
          exfalso
          have hai := List.mem_range.mp (List.mem_filter.mp (p.mem_iff.mp ha)).1
          exact fstP_iff.mp h a hai hfa
      have hat : (J.drop m).take 1 = [J[m]'(by
          obtain ⟨q, hq, rfl⟩ := List.mem_iff_getElem.mp ha
          have := hcut q hq
          have : ¬ q < m := fun h => by have := this.mpr h; (first | lia | omega)
          (first | lia | omega))] := by
        have hmlt : m < J.length := by
          obtain ⟨q, hq, rfl⟩ := List.mem_iff_getElem.mp ha
          have := hcut q hq
          have : ¬ q < m := fun h => by have := this.mpr h; (first | lia | omega)
          (first | lia | omega)
        rw [List.drop_eq_getElem_cons hmlt]; rfl
      have hmv : f (J[m]'(by
          obtain ⟨q, hq, rfl⟩ := List.mem_iff_getElem.mp ha
          have := hcut q hq
          have : ¬ q < m := fun h => by have := this.mpr h; (first | lia | omega)
          (first | lia | omega))) = f i := by
        obtain ⟨q, hq, rfl⟩ := List.mem_iff_getElem.mp ha
        have h1 := hcut q hq
        have hqm : ¬ q < m := fun h => by have := h1.mpr h; (first | lia | omega)
        have hmlt : m < J.length := by (first | lia | omega)
        have h2 := hcut m hmlt
        have h3 : ¬ f J[m] < f i := fun h => by have := h2.mp h; (first | lia | omega)
        rcases Nat.lt_or_ge m q with h | h
        · have := List.pairwise_iff_getElem.mp s m q hmlt hq h
          (first | lia | omega)
        · have : q = m := by (first | lia | omega)
          subst this; exact hfa
      refine ⟨J, ?_, ?_, s⟩
      · rw [rowAt, hget, hNl, hins, hrow, hat]
        simp only [List.map_cons, List.map_nil, leq, hmv, M.eq]
        simp [e]
      · rw [firsts_succ, hfst]; simpa using p
    · -- it is new
      have hno : ∀ a ∈ J, f a ≠ f i := fun a ha h => hex ⟨a, ha, h⟩
      have hfst : fstP f i = true := by
        refine fstP_iff.mpr fun j hj hfj => ?_
        -- the first of j's kind is in J
        have key : ∀ k, k < i → f k = f i → ∃ a ∈ J, f a = f i := by
          intro k
          induction k using Nat.strongRecOn with
          | _ k ih =>
            intro hk hfk
            by_cases h : fstP f k = true
            · exact ⟨k, p.mem_iff.mpr (List.mem_filter.mpr ⟨List.mem_range.mpr hk, h⟩), hfk⟩
            · have : ∃ k', k' < k ∧ f k' = f k := by
                refine Classical.byContradiction fun hc => h (fstP_iff.mpr fun k' hk' e => hc ⟨k', hk', e⟩)
              obtain ⟨k', h1, h2⟩ := this
              exact ih k' h1 (by (first | lia | omega)) (by (first | lia | omega))
        obtain ⟨a, ha, e⟩ := key j hj hfj
        exact hno a ha e
      have hleq : leq (((J.drop m).take 1).map fun j => mk (f j)) [mk (f i)] = false := by
        cases hd : (J.drop m).take 1 with
        | nil => rfl
        | cons a r =>
          have ha : a ∈ J := List.mem_of_mem_drop (List.mem_of_mem_take (by rw [hd]; exact .head _))
          simp only [List.map_cons, leq, M.eq]
          have := hno a ha
          simp [this]
      refine ⟨J.take m ++ i :: J.drop m, ?_, ?_, ?_⟩
      · rw [rowAt, hget, hNl, hins, hrow, hleq]
        simp only [Bool.false_eq_true, if_false]
        rw [e, List.take_append, List.drop_append, hNl, List.take_of_length_le (by rw [hNl]; (first | lia | omega)), List.drop_eq_nil_of_le (by rw [hNl]; (first | lia | omega))]
        rw [show N + m - N = m by (first | lia | omega)]
        simp [List.map_take, List.map_drop]
      · rw [firsts_succ, hfst, if_pos rfl]
        refine List.Perm.trans List.perm_middle ?_
        rw [List.take_append_drop]
        exact (List.perm_append_singleton i J).symm.trans (p.append_right [i]) |>.trans (List.Perm.refl _)
      · have hp := List.pairwise_iff_getElem.mp s
        refine List.pairwise_append.mpr ⟨s.sublist (List.take_sublist _ _), List.pairwise_cons.mpr ⟨fun b hb => ?_, s.sublist (List.drop_sublist _ _)⟩, fun a ha b hb => ?_⟩
        · obtain ⟨q, hq, rfl⟩ := List.mem_iff_getElem.mp hb
          rw [List.length_drop] at hq
          rw [List.getElem_drop]
          have h1 := hcut (m + q) (by (first | lia | omega))
          have h2 := hno _ (List.getElem_mem (show m + q < J.length by (first | lia | omega)))
          have : ¬ f J[m + q] < f i := fun h => by have := h1.mp h; (first | lia | omega)
          (first | lia | omega)
        · obtain ⟨q, hq, rfl⟩ := List.mem_iff_getElem.mp ha
          rw [List.length_take] at hq
          rw [List.getElem_take]
          have h1 := (hcut q (by (first | lia | omega))).mpr (by (first | lia | omega))
          rcases List.mem_cons.mp hb with rfl | hb
          · exact h1
          · obtain ⟨q', hq', rfl⟩ := List.mem_iff_getElem.mp hb
            rw [List.length_drop] at hq'
            rw [List.getElem_drop]
            exact hp q (m + q') (by (first | lia | omega)) (by (first | lia | omega)) (by (first | lia | omega))
end Mine
/-! P2 -/
namespace Mine

theorem ranks_cnt {mk : Nat → D} (M : Mk mk) (f : Nat → Nat) (N : Nat) : ranksF ((List.range N).map fun j => mk (f j)) = (List.range N).map fun i => ((cnt N f (f i) : Nat) : Int) := by
  obtain ⟨J, e, p, s⟩ := row_shape M f N N (Nat.le_refl _)
  have hNl : ((List.range N).map fun j => mk (f j)).length = N := by simp
  rw [ranksF, List.map_map]
  refine List.map_congr_left fun i hi => ?_
  have hiN := List.mem_range.mp hi
  show rankOf _ (mk (f i)) = _
  unfold rankOf
  rw [hNl, e]
  have hins : insAt (((List.range N).map fun j => mk (f j)) ++ J.map (fun j => mk (f j))) (mk (f i)) id N = N + (J.filter fun a => decide (f a < f i)).length := by
    have hle : (J.filter fun a => decide (f a < f i)).length ≤ J.length := List.length_filter_le _ _
    refine bis_at _ _ _ (by (first | lia | omega)) (by (first | lia | omega)) (by rw [List.length_append, hNl, List.length_map]; (first | lia | omega)) fun q q1 q2 => ?_
    rw [List.length_append, hNl, List.length_map] at q2
    have hq : q - N < J.length := by (first | lia | omega)
    have eg : (((List.range N).map fun j => mk (f j)) ++ J.map (fun j => mk (f j))).getD q .none = mk (f J[q - N]) := by
      rw [List.getD_eq_getElem?_getD, List.getElem?_append_right (by rw [hNl]; (first | lia | omega)), hNl, List.getElem?_map, List.getElem?_eq_getElem hq]; rfl
    show dlt (id _) (id _) = true ↔ _
    rw [eg]
    simp only [id]
    rw [M.lt]
    have := up_cut f (f i) s (q - N) hq
    rw [decide_eq_true_iff, this]
    exact ar_shift q1
  rw [hins]
  have : (J.filter fun a => decide (f a < f i)).length = cnt N f (f i) := (p.filter _).length_eq
  rw [this]
  push_cast
  (first | lia | omega)

/-- the first places, put up by their kinds -/
theorem firsts_up (f : Nat → Nat) (N : Nat) : ∃ J : List Nat, J.Perm (firsts N f) ∧ J.Pairwise (fun a b => f a < f b) := by
  obtain ⟨J, _, p, s⟩ := row_shape mk_int f N N (Nat.le_refl _)
  exact ⟨J, p, s⟩

theorem filter_less {α : Type} {p q : α → Bool} : ∀ {l : List α}, (∀ x ∈ l, p x = true → q x = true) → (l.filter p).length ≤ (l.filter q).length ∧ ((∃ x ∈ l, q x = true ∧ p x = false) → (l.filter p).length < (l.filter q).length)
  | [], _ => ⟨Nat.le_refl _, fun ⟨x, hx, _⟩ => by cases hx⟩
  | a :: r, h => by
    obtain ⟨h1, h2⟩ := filter_less (l := r) fun x hx => h x (.tail _ hx)
    have ha := h a (.head _)
    cases hp : p a with
    | true =>
      have hq := ha hp
      rw [List.filter_cons_of_pos hp, List.filter_cons_of_pos hq]
      refine ⟨by simpa using h1, fun h00 => ?_⟩
      obtain ⟨x, hx, hx1, hx2⟩ := h00
      rcases List.mem_cons.mp hx with rfl | hx
      · rw [hp] at hx2; cases hx2
      · simpa using h2 ⟨x, hx, hx1, hx2⟩
    | false =>
      rw [List.filter_cons_of_neg (by simp [hp])]
      cases hq : q a with
      | true =>
        rw [List.filter_cons_of_pos hq]
        exact ⟨by simp; (first | lia | omega), fun _ => by simp; (first | lia | omega)⟩
      | false =>
        rw [List.filter_cons_of_neg (by simp [hq])]
        refine ⟨h1, fun h00 => ?_⟩
        obtain ⟨x, hx, hx1, hx2⟩ := h00
        rcases List.mem_cons.mp hx with rfl | hx
        · rw [hq] at hx1; cases hx1
        · exact h2 ⟨x, hx, hx1, hx2⟩

/-- each place's kind has a first place -/
theorem first_of (f : Nat → Nat) {N : Nat} : ∀ i, i < N → ∃ j ∈ firsts N f, f j = f i ∧ j ≤ i := by
  intro i
  induction i using Nat.strongRecOn with
  | _ i ih =>
    intro hi
    by_cases h : fstP f i = true
    · exact ⟨i, List.mem_filter.mpr ⟨List.mem_range.mpr hi, h⟩, rfl, Nat.le_refl _⟩
    · have : ∃ k, k < i ∧ f k = f i := Classical.byContradiction fun hc => h (fstP_iff.mpr fun k hk e => hc ⟨k, hk, e⟩)
      obtain ⟨k, h1, h2⟩ := this
      obtain ⟨j, a, b, c⟩ := ih k h1 (by (first | lia | omega))
      exact ⟨j, a, b.trans h2, by (first | lia | omega)⟩

theorem cnt_lt {f : Nat → Nat} {N i w : Nat} (hi : i < N) (h : f i < w) : cnt N f (f i) < cnt N f w := by
  obtain ⟨j, hj, e, _⟩ := first_of f i hi
  refine (filter_less fun x _ hx => ?_).2 ⟨j, hj, ?_, ?_⟩
  · have := of_decide_eq_true hx
    exact decide_eq_true (by (first | lia | omega))
  · exact decide_eq_true (by (first | lia | omega))
  · exact decide_eq_false (by (first | lia | omega))
theorem cnt_iff {f : Nat → Nat} {N i j : Nat} (hi : i < N) (hj : j < N) : (cnt N f (f i) < cnt N f (f j) ↔ f i < f j) ∧ (cnt N f (f i) = cnt N f (f j) ↔ f i = f j) := by
  rcases Nat.lt_trichotomy (f i) (f j) with h | h | h
  · have := cnt_lt (N := N) hi h
    exact ⟨⟨fun _ => h, fun _ => this⟩, ⟨fun e => by (first | lia | omega), fun e => by (first | lia | omega)⟩⟩
  · rw [h]; exact ⟨⟨fun h => by (first | lia | omega), fun h => by (first | lia | omega)⟩, ⟨fun _ => rfl, fun _ => rfl⟩⟩
  · have := cnt_lt (N := N) hj h
    exact ⟨⟨fun _ => by (first | lia | omega), fun _ => by (first | lia | omega)⟩, ⟨fun e => by (first | lia | omega), fun e => by (first | lia | omega)⟩⟩
theorem firsts_le (N : Nat) (f : Nat → Nat) : (firsts N f).length ≤ N := Nat.le_trans (List.length_filter_le _ _) (by simp)
theorem cnt_bound {f : Nat → Nat} {N i : Nat} (hi : i < N) : cnt N f (f i) < (firsts N f).length := by
  obtain ⟨j, hj, e, _⟩ := first_of f i hi
  have := (filter_less (l := firsts N f) (p := fun j => decide (f j < f i)) (q := fun _ => true) fun _ _ _ => rfl).2 ⟨j, hj, rfl, decide_eq_false (by (first | lia | omega))⟩
  rw [List.filter_eq_self.mpr (fun _ _ => rfl)] at this
  exact this

/-! stretches -/
theorem zlt_append : ∀ {a a' : List Int} {b b' : List Int}, a.length = a'.length → zlt (a ++ b) (a' ++ b') = if a = a' then zlt b b' else zlt a a'
  | [], [], b, b', _ => by simp
  | [], _ :: _, _, _, h => by cases h
  | _ :: _, [], _, _, h => by cases h
  | x :: a, y :: a', b, b', h => by
    have ih := zlt_append (a := a) (a' := a') (b := b) (b' := b') (by simpa using h)
    simp only [List.cons_append, zlt]
    by_cases hxy : x = y
    · subst hxy
      rw [if_pos rfl, ih]
      by_cases ha : a = a'
      · rw [if_pos ha, if_pos (by rw [ha])]
      · rw [if_neg ha, if_neg (by simpa using ha), if_pos rfl]
    · rw [if_neg hxy, if_neg (by simp [hxy]), if_neg hxy]

/-- the sign at a place of the ring -/
noncomputable def rg (dg : List Nat) (j : Nat) : Nat := dg.getD (j % dg.length) 0
/-- r signs from place i on -/
noncomputable def stI (dg : List Nat) (r i : Nat) : List Int := (List.range r).map fun k => (rg dg (i + k) : Int)
theorem stI_len (dg : List Nat) (r i : Nat) : (stI dg r i).length = r := by simp [stI]
theorem rg_add (dg : List Nat) (i k : Nat) : rg dg (i % dg.length + k) = rg dg (i + k) := by simp [rg, Nat.mod_add_mod]
theorem stI_mod (dg : List Nat) (r i : Nat) : stI dg r (i % dg.length) = stI dg r i := by
  unfold stI
  refine List.map_congr_left fun k _ => ?_
  rw [rg_add]
theorem stI_add (dg : List Nat) (r q i : Nat) : stI dg (r + q) i = stI dg r i ++ stI dg q (i + r) := by
  unfold stI
  rw [List.range_add, List.map_append, List.map_map]
  congr 1
  refine List.map_congr_left fun k _ => ?_
  simp [Nat.add_assoc]
theorem stI_eq {dg : List Nat} {r i j : Nat} : stI dg r i = stI dg r j ↔ ∀ k, k < r → rg dg (i + k) = rg dg (j + k) := by
  unfold stI
  constructor
  · intro h k hk
    have := congrArg (fun l : List Int => l[k]?) h
    simp only [List.getElem?_map, List.getElem?_range hk, Option.map_some, Option.some.injEq] at this
    (first | lia | omega)
  · intro h
    exact List.map_congr_left fun k hk => by rw [h k (List.mem_range.mp hk)]

/-- names that stand for stretches -/
structure Stands (dg : List Nat) (r : Nat) (g : Nat → Nat) : Prop where
  lt : ∀ i j, i < dg.length → j < dg.length → (g i < g j ↔ zlt (stI dg r i) (stI dg r j) = true)
  eq : ∀ i j, i < dg.length → j < dg.length → (g i = g j ↔ stI dg r i = stI dg r j)

theorem Stands.cnt {dg : List Nat} {r : Nat} {g : Nat → Nat} (S : Stands dg r g) : Stands dg r fun i => cnt dg.length g (g i) where
  lt := fun i j hi hj => (cnt_iff hi hj).1.trans (S.lt i j hi hj)
  eq := fun i j hi hj => (cnt_iff hi hj).2.trans (S.eq i j hi hj)

/-- joined: sz names, one behind the other -/
theorem Stands.join {dg : List Nat} {r : Nat} {g : Nat → Nat} (S : Stands dg r g) (hn : 0 < dg.length) (hg : ∀ i, i < dg.length → g i < 64) (m : Nat) : ∀ i j,
    (valOf ((List.range m).map fun k => g ((i + k * r) % dg.length)) < valOf ((List.range m).map fun k => g ((j + k * r) % dg.length)) ↔ zlt (stI dg (m * r) i) (stI dg (m * r) j) = true) ∧
    (valOf ((List.range m).map fun k => g ((i + k * r) % dg.length)) = valOf ((List.range m).map fun k => g ((j + k * r) % dg.length)) ↔ stI dg (m * r) i = stI dg (m * r) j) := by
  induction m with
  | zero => intro i j; simp [stI, valOf, zlt]
  | succ m ih =>
    intro i j
    obtain ⟨h1, h2⟩ := ih i j
    rw [List.range_succ, List.map_append, List.map_append]
    simp only [List.map_cons, List.map_nil, valOf_snoc]
    have ei : stI dg ((m + 1) * r) i = stI dg (m * r) i ++ stI dg r ((i + m * r) % dg.length) := by rw [Nat.succ_mul, stI_add, stI_mod]
    have ej : stI dg ((m + 1) * r) j = stI dg (m * r) j ++ stI dg r ((j + m * r) % dg.length) := by rw [Nat.succ_mul, stI_add, stI_mod]
    have l1 : (i + m * r) % dg.length < dg.length := Nat.mod_lt _ hn
    have l2 : (j + m * r) % dg.length < dg.length := Nat.mod_lt _ hn
    have b1 := hg _ l1
    have b2 := hg _ l2
    have s1 := S.lt _ _ l1 l2
    have s2 := S.eq _ _ l1 l2
    rw [ei, ej, zlt_append (by rw [stI_len, stI_len])]
    generalize valOf ((List.range m).map fun k => g ((i + k * r) % dg.length)) = A at *
    generalize valOf ((List.range m).map fun k => g ((j + k * r) % dg.length)) = B at *
    constructor
    · by_cases he : stI dg (m * r) i = stI dg (m * r) j
      · rw [if_pos he, ← s1]
        have := h2.mpr he
        (first | lia | omega)
      · rw [if_neg he, ← h1]
        have : A ≠ B := fun e => he (h2.mp e)
        (first | lia | omega)
    · constructor
      · intro h
        have hAB : A = B := by (first | lia | omega)
        have hgg : g ((i + m * r) % dg.length) = g ((j + m * r) % dg.length) := by (first | lia | omega)
        rw [h2.mp hAB, s2.mp hgg]
      · intro h
        obtain ⟨a, b⟩ := List.append_inj h (by rw [stI_len, stI_len])
        have := h2.mpr a
        have := s2.mpr b
        (first | lia | omega)
end Mine
/-! P3 -/
namespace Mine

/-- the numbers that are read at a time -/
noncomputable def vOf (N : Nat) (g : Nat → Nat) (sz r : Nat) (i : Nat) : Nat := valOf ((List.range sz).map fun k => g ((i + k * r) % N))
/-- the names -/
noncomputable def nmF (dg sizes : List Nat) : Nat → Nat → Nat
  | 0 => fun i => cnt dg.length (fun j => chOf (dg.getD j 0)) (chOf (dg.getD i 0))
  | t + 1 => fun i => cnt dg.length (vOf dg.length (nmF dg sizes t) (szF sizes t) (rchF sizes t)) (vOf dg.length (nmF dg sizes t) (szF sizes t) (rchF sizes t) i)
noncomputable def NmF (dg sizes : List Nat) (t : Nat) : List Nat := (List.range dg.length).map (nmF dg sizes t)

theorem chOf_lt {a b : Nat} (ha : a < 3) (hb : b < 3) : (chOf a < chOf b ↔ a < b) ∧ (chOf a = chOf b ↔ a = b) := by
  have : ∀ a, a < 3 → ∀ b, b < 3 → (chOf a < chOf b ↔ a < b) ∧ (chOf a = chOf b ↔ a = b) := by decide
  exact this a ha b hb

theorem stands0 {dg : List Nat} (h3 : ∀ i ∈ dg, i < 3) : Stands dg 1 fun j => chOf (dg.getD j 0) := by
  have hr : ∀ i, i < dg.length → rg dg i = dg.getD i 0 ∧ dg.getD i 0 < 3 := fun i hi => by
    refine ⟨by rw [rg, Nat.mod_eq_of_lt hi], ?_⟩
    rw [List.getD_eq_getElem?_getD, List.getElem?_eq_getElem hi]
    exact h3 _ (List.getElem_mem hi)
  have hs : ∀ i, i < dg.length → stI dg 1 i = [(dg.getD i 0 : Int)] := fun i hi => by
    simp only [stI, List.range_one, List.map_cons, List.map_nil, Nat.add_zero, (hr i hi).1]
  refine ⟨fun i j hi hj => ?_, fun i j hi hj => ?_⟩
  · rw [hs i hi, hs j hj, (chOf_lt (hr i hi).2 (hr j hj).2).1]
    simp only [zlt]
    by_cases h : (dg.getD i 0 : Int) = dg.getD j 0
    · rw [if_pos h]
      have : ¬ dg.getD i 0 < dg.getD j 0 := by omega
      simp only [this]
      decide
    · rw [if_neg h, decide_eq_true_iff]
      omega
  · rw [hs i hi, hs j hj, (chOf_lt (hr i hi).2 (hr j hj).2).2]
    simp only [List.cons.injEq, and_true]
    omega

theorem stands {dg sizes : List Nat} (hn : 0 < dg.length) (hN : dg.length ≤ 12) (h3 : ∀ i ∈ dg, i < 3) : ∀ t, Stands dg (rchF sizes t) (nmF dg sizes t) ∧ ∀ i, i < dg.length → nmF dg sizes t i < dg.length
  | 0 => ⟨(stands0 h3).cnt, fun i hi => Nat.lt_of_lt_of_le (cnt_bound hi) (firsts_le _ _)⟩
  | t + 1 => by
    obtain ⟨S, b⟩ := stands (sizes := sizes) hn hN h3 t
    refine ⟨?_, fun i hi => Nat.lt_of_lt_of_le (cnt_bound hi) (firsts_le _ _)⟩
    have hj := S.join hn (fun i hi => by have := b i hi; (first | lia | omega)) (szF sizes t)
    have : Stands dg (rchF sizes (t + 1)) (vOf dg.length (nmF dg sizes t) (szF sizes t) (rchF sizes t)) := by
      rw [rchF, Nat.mul_comm]
      exact ⟨fun i j _ _ => (hj i j).1, fun i j _ _ => (hj i j).2⟩
    exact this.cnt

theorem NmF_get {dg sizes : List Nat} {t i : Nat} (hi : i < dg.length) : (NmF dg sizes t).getD i 0 = nmF dg sizes t i := by
  rw [NmF, List.getD_eq_getElem?_getD, List.getElem?_map, List.getElem?_range hi]; rfl
theorem NmF_len {dg sizes : List Nat} {t : Nat} : (NmF dg sizes t).length = dg.length := by simp [NmF]

theorem joinF_eq {dg sizes : List Nat} (hn : 0 < dg.length) (t : Nat) : joinF (NmF dg sizes t) (szF sizes t) (rchF sizes t) = (List.range dg.length).map (vOf dg.length (nmF dg sizes t) (szF sizes t) (rchF sizes t)) := by
  rw [joinF, NmF_len]
  refine List.map_congr_left fun i _ => ?_
  unfold digitsOf vOf
  congr 1
  refine List.map_congr_left fun k _ => ?_
  rw [NmF_len, NmF_get (Nat.mod_lt _ hn)]

theorem hS_of {dg sizes : List Nat} (hn : 0 < dg.length) (t : Nat) : ranksF (zs (nats (joinF (NmF dg sizes t) (szF sizes t) (rchF sizes t)))) = nats (NmF dg sizes (t + 1)) := by
  rw [joinF_eq hn]
  have e : zs (nats ((List.range dg.length).map (vOf dg.length (nmF dg sizes t) (szF sizes t) (rchF sizes t)))) = (List.range dg.length).map fun j => (fun a : Nat => D.int (a : Int)) (vOf dg.length (nmF dg sizes t) (szF sizes t) (rchF sizes t) j) := by
    rw [zs, nats, List.map_map, List.map_map]; rfl
  rw [e, ranks_cnt mk_int, NmF, nats, List.map_map]
  rfl

theorem join_cps (l : List Str) : (Txt.join "" l).cps.toList = (l.map fun s => s.cps.toList).flatten := by
  have key : ∀ (r : List Str) (acc : Array Nat), (r.foldl (fun acc p => acc ++ ("" : Str).cps ++ p.cps) acc).toList = acc.toList ++ (r.map fun s => s.cps.toList).flatten := by
    intro r
    induction r with
    | nil => intro acc; simp
    | cons a r ih =>
      intro acc
      rw [List.foldl_cons, ih]
      have : (("" : Str).cps) = #[] := rfl
      simp [this]
  show ((l.drop 1).foldl (fun acc p => acc ++ ("" : Str).cps ++ p.cps) (l.headD Str.empty).cps).toList = _
  rw [key]
  cases l with
  | nil => rfl
  | cons a r => simp
theorem text_cps (dg : List Nat) : (textF dg).cps.toList = dg.map chOf := by
  rw [textF, join_cps]
  induction dg with
  | nil => rfl
  | cons a r ih => simp only [List.map_cons, List.flatten_cons, ih]; rfl

theorem h0_of {dg sizes : List Nat} : ranksF (signsD (textF dg)) = nats (NmF dg sizes 0) := by
  have e : signsD (textF dg) = (List.range dg.length).map fun j => (fun a : Nat => D.str ⟨#[a]⟩) (chOf (dg.getD j 0)) := by
    unfold signsD
    rw [text_cps, List.map_map]
    refine List.ext_getElem (by simp) fun i h1 h2 => ?_
    simp only [List.length_map] at h1
    simp [List.getD_eq_getElem?_getD, h1]
  rw [e, ranks_cnt mk_str, NmF, nats, List.map_map]
  rfl

/-! kinds -/
/-- a family that is its own numbering -/
noncomputable def Nrm (N : Nat) (g : Nat → Nat) : Prop := ∀ i, i < N → cnt N g (g i) = g i
theorem firsts_cnt (N : Nat) (f : Nat → Nat) : firsts N (fun i => cnt N f (f i)) = firsts N f := by
  unfold firsts
  refine List.filter_congr fun j hj => ?_
  have hjN := List.mem_range.mp hj
  rw [Bool.eq_iff_iff, fstP_iff, fstP_iff]
  constructor
  · intro h i hi e; exact h i hi ((cnt_iff (by (first | lia | omega)) hjN).2.mpr e)
  · intro h i hi e; exact h i hi ((cnt_iff (by (first | lia | omega)) hjN).2.mp e)
theorem nrm_cnt (N : Nat) (f : Nat → Nat) : Nrm N fun i => cnt N f (f i) := fun i hi => by
  show ((firsts N fun i => cnt N f (f i)).filter fun j => decide (cnt N f (f j) < cnt N f (f i))).length = cnt N f (f i)
  rw [firsts_cnt]
  have : (firsts N f).filter (fun j => decide (cnt N f (f j) < cnt N f (f i))) = (firsts N f).filter fun j => decide (f j < f i) := by
    refine List.filter_congr fun j hj => ?_
    have hjN := List.mem_range.mp (List.mem_filter.mp hj).1
    rw [Bool.eq_iff_iff, decide_eq_true_iff, decide_eq_true_iff]
    exact (cnt_iff hjN hi).1
  rw [this]; rfl
theorem nmF_nrm (dg sizes : List Nat) : ∀ t, Nrm dg.length (nmF dg sizes t)
  | 0 => nrm_cnt _ _
  | t + 1 => nrm_cnt _ _

/-- each number below the count of kinds is a name -/
theorem nrm_all {N : Nat} {g : Nat → Nat} (h : Nrm N g) {k : Nat} (hk : k < (firsts N g).length) : ∃ p ∈ firsts N g, g p = k := by
  obtain ⟨J, p, s⟩ := firsts_up g N
  have hl := p.length_eq
  have hkJ : k < J.length := by (first | lia | omega)
  have hm : J[k] ∈ firsts N g := p.mem_iff.mp (List.getElem_mem hkJ)
  have hN := List.mem_range.mp (List.mem_filter.mp hm).1
  refine ⟨_, hm, ?_⟩
  rw [← h _ hN]
  have e : cnt N g (g J[k]) = (J.filter fun a => decide (g a < g J[k])).length := ((p.filter _).length_eq).symm
  have hc := up_cut g (g J[k]) s
  have h1 := hc k hkJ
  have hle : (J.filter fun a => decide (g a < g J[k])).length ≤ J.length := List.length_filter_le _ _
  rw [e]
  have h2 : ¬ k < (J.filter fun a => decide (g a < g J[k])).length := fun h => by have := h1.mpr h; (first | lia | omega)
  rcases Nat.lt_or_ge (J.filter fun a => decide (g a < g J[k])).length k with hlt | hge
  · exfalso
    have h3 := hc _ (show (J.filter fun a => decide (g a < g J[k])).length < J.length by (first | lia | omega))
    have h4 := List.pairwise_iff_getElem.mp s _ k (show (J.filter fun a => decide (g a < g J[k])).length < J.length by (first | lia | omega)) hkJ hlt
    have := h3.mp h4
    (first | lia | omega)
  · (first | lia | omega)
theorem nrm_lt {N : Nat} {g : Nat → Nat} (h : Nrm N g) {i : Nat} (hi : i < N) : g i < (firsts N g).length := by
  rw [← h i hi]; exact cnt_bound hi
theorem firsts_pos {N : Nat} (hN : 0 < N) (g : Nat → Nat) : 0 < (firsts N g).length := by
  obtain ⟨j, hj, _⟩ := first_of g 0 hN
  exact List.length_pos_of_mem hj
end Mine
/-! P4 -/
namespace Mine

theorem rchF_pos {sizes : List Nat} (hs : ∀ i, 2 ≤ szF sizes i) : ∀ t, 1 ≤ rchF sizes t
  | 0 => Nat.le_refl _
  | t + 1 => by
    have h1 := rchF_pos hs t
    have h2 := hs t
    rw [rchF]
    exact Nat.le_trans h1 (Nat.le_mul_of_pos_right _ (by (first | lia | omega)))
theorem rchF_lt {sizes : List Nat} (hs : ∀ i, 2 ≤ szF sizes i) (t : Nat) : rchF sizes t < rchF sizes (t + 1) := by
  have h1 := rchF_pos hs t
  have h2 := hs t
  rw [rchF]
  calc rchF sizes t < rchF sizes t * 2 := by (first | lia | omega)
    _ ≤ rchF sizes t * szF sizes t := Nat.mul_le_mul_left _ h2

theorem stI_le {dg : List Nat} {r q i j : Nat} (h : r ≤ q) (e : stI dg q i = stI dg q j) : stI dg r i = stI dg r j :=
  stI_eq.mpr fun k hk => stI_eq.mp e k (by (first | lia | omega))

/-- if r signs tell r + 1 signs, they tell all -/
theorem all_of {dg : List Nat} {r : Nat} (h : ∀ i j, stI dg r i = stI dg r j → stI dg (r + 1) i = stI dg (r + 1) j) : ∀ k i j, stI dg r i = stI dg r j → rg dg (i + k) = rg dg (j + k) := by
  have hr : ∀ i j, stI dg r i = stI dg r j → rg dg i = rg dg j ∧ stI dg r (i + 1) = stI dg r (j + 1) := fun i j e => by
    have e1 := stI_eq.mp (h i j e)
    refine ⟨by simpa using e1 0 (by (first | lia | omega)), stI_eq.mpr fun k hk => ?_⟩
    have := e1 (k + 1) (by (first | lia | omega))
    rw [show i + 1 + k = i + (k + 1) by (first | lia | omega), show j + 1 + k = j + (k + 1) by (first | lia | omega)]
    exact this
  intro k
  induction k with
  | zero => intro i j e; exact (hr i j e).1
  | succ k ih =>
    intro i j e
    have := ih (i + 1) (j + 1) (hr i j e).2
    rw [show i + (k + 1) = i + 1 + k by (first | lia | omega), show j + (k + 1) = j + 1 + k by (first | lia | omega)]
    exact this

section
variable {dg : List Nat} {r q : Nat} {g g' : Nat → Nat}

/-- a longer view tells no fewer kinds -/
theorem kinds_le (S : Stands dg r g) (S' : Stands dg q g') (h : r ≤ q) : (firsts dg.length g).length ≤ (firsts dg.length g').length ∧
    ((firsts dg.length g).length = (firsts dg.length g').length → ∀ i j, i < dg.length → j < dg.length → stI dg r i = stI dg r j → stI dg q i = stI dg q j) := by
  have hp : ∀ x ∈ List.range dg.length, fstP g x = true → fstP g' x = true := fun x hx hf => by
    have hxN := List.mem_range.mp hx
    refine fstP_iff.mpr fun i hi e => fstP_iff.mp hf i hi ?_
    exact (S.eq i x (by (first | lia | omega)) hxN).mpr (stI_le h ((S'.eq i x (by (first | lia | omega)) hxN).mp e))
  have hl := filter_less hp
  refine ⟨hl.1, fun he i j hi hj e => ?_⟩
  have hsame : ∀ x, x < dg.length → fstP g' x = true → fstP g x = true := fun x hx h' => by
    cases hf : fstP g x with
    | true => rfl
    | false =>
      have := hl.2 ⟨x, List.mem_range.mpr hx, h', hf⟩
      unfold firsts at he
      (first | lia | omega)
  obtain ⟨i0, hi0, ei, _⟩ := first_of g' i hi
  obtain ⟨j0, hj0, ej, _⟩ := first_of g' j hj
  have hi0' := List.mem_filter.mp hi0
  have hj0' := List.mem_filter.mp hj0
  have hiN := List.mem_range.mp hi0'.1
  have hjN := List.mem_range.mp hj0'.1
  have si := (S'.eq i0 i hiN hi).mp ei
  have sj := (S'.eq j0 j hjN hj).mp ej
  have fi := hsame i0 hiN hi0'.2
  have fj := hsame j0 hjN hj0'.2
  have eg : g i0 = g j0 := (S.eq i0 j0 hiN hjN).mpr (((stI_le h si).trans e).trans (stI_le h sj).symm)
  have : i0 = j0 := by
    rcases Nat.lt_trichotomy i0 j0 with h' | h' | h'
    · exact absurd eg (fstP_iff.mp fj i0 h')
    · exact h'
    · exact absurd eg.symm (fstP_iff.mp fi j0 h')
  subst this
  exact si.symm.trans sj

/-- if two views tell as many kinds, all longer ones do -/
theorem kinds_stay {q2 : Nat} {g2 : Nat → Nat} (hn : 0 < dg.length) (S : Stands dg r g) (S' : Stands dg q g') (S2 : Stands dg q2 g2) (h : r < q) (h2 : r ≤ q2) (he : (firsts dg.length g).length = (firsts dg.length g').length) :
    (firsts dg.length g2).length = (firsts dg.length g).length := by
  have h1 := (kinds_le S S' (by (first | lia | omega))).2 he
  have hall : ∀ i j, stI dg r i = stI dg r j → stI dg (r + 1) i = stI dg (r + 1) j := fun i j e => by
    have := h1 (i % dg.length) (j % dg.length) (Nat.mod_lt _ hn) (Nat.mod_lt _ hn) (by rw [stI_mod, stI_mod]; exact e)
    rw [stI_mod, stI_mod] at this
    exact stI_le (by (first | lia | omega)) this
  have hk := all_of hall
  unfold firsts
  congr 1
  refine List.filter_congr fun x hx => ?_
  have hxN := List.mem_range.mp hx
  rw [Bool.eq_iff_iff, fstP_iff, fstP_iff]
  constructor
  · intro hf i hi e
    have := (S.eq i x (by (first | lia | omega)) hxN).mp e
    exact hf i hi ((S2.eq i x (by (first | lia | omega)) hxN).mpr (stI_eq.mpr fun k _ => hk k i x this))
  · intro hf i hi e
    have := (S2.eq i x (by (first | lia | omega)) hxN).mp e
    exact hf i hi ((S.eq i x (by (first | lia | omega)) hxN).mpr (stI_le h2 this))
end

/-! the period -/
theorem rot_iff {dg : List Nat} {k : Nat} (hk : k ≤ dg.length) (hn : 0 < dg.length) : dg.drop k ++ dg.take k = dg ↔ ∀ i, rg dg (i + k) = rg dg i := by
  have hget : ∀ i, i < dg.length → (dg.drop k ++ dg.take k)[i]? = some (rg dg (i + k)) := fun i hi => by
    by_cases h : i < dg.length - k
    · rw [List.getElem?_append_left (by rw [List.length_drop]; omega), List.getElem?_drop, Nat.add_comm k i, rg, Nat.mod_eq_of_lt (by omega), List.getD_eq_getElem?_getD, List.getElem?_eq_getElem (by omega)]; rfl
    · rw [List.getElem?_append_right (by rw [List.length_drop]; omega), List.length_drop, List.getElem?_take_of_lt (by omega), rg]
      have : (i + k) % dg.length = i - (dg.length - k) := by
        rw [show i + k = i - (dg.length - k) + dg.length by omega, Nat.add_mod_right, Nat.mod_eq_of_lt (by omega)]
      rw [this, List.getD_eq_getElem?_getD, List.getElem?_eq_getElem (by omega)]; rfl
  constructor
  · intro h i
    have h1 := hget (i % dg.length) (Nat.mod_lt _ hn)
    rw [h, List.getElem?_eq_getElem (Nat.mod_lt _ hn)] at h1
    have h2 : rg dg (i + k) = rg dg (i % dg.length + k) := (rg_add dg i k).symm
    rw [h2]
    simp only [Option.some.injEq] at h1
    rw [← h1, rg, List.getD_eq_getElem?_getD, List.getElem?_eq_getElem (Nat.mod_lt _ hn)]; rfl
  · intro h
    refine List.ext_getElem? fun i => ?_
    by_cases hi : i < dg.length
    · rw [hget i hi, h i, List.getElem?_eq_getElem hi, rg, Nat.mod_eq_of_lt hi, List.getD_eq_getElem?_getD, List.getElem?_eq_getElem hi]; rfl
    · rw [List.getElem?_eq_none (by simp; omega), List.getElem?_eq_none (by omega)]

theorem least {P : Nat → Prop} : ∀ n, P n → ∃ m, m ≤ n ∧ P m ∧ ∀ k, k < m → ¬ P k := by
  intro n
  induction n using Nat.strongRecOn with
  | _ n ih =>
    intro h
    by_cases hk : ∃ k, k < n ∧ P k
    · obtain ⟨k, h1, h2⟩ := hk
      obtain ⟨m, a, b, c⟩ := ih k h1 h2
      exact ⟨m, by (first | lia | omega), b, c⟩
    · exact ⟨n, Nat.le_refl _, h, fun k hk' hp => hk ⟨k, hk', hp⟩⟩

/-- the least turn that gives the ring back -/
structure IsTurn (dg : List Nat) (T : Nat) : Prop where
  pos : 1 ≤ T
  le : T ≤ dg.length
  per : ∀ i, rg dg (i + T) = rg dg i
  min : ∀ k, 1 ≤ k → k < T → ¬ ∀ i, rg dg (i + k) = rg dg i

theorem turn_ex {dg : List Nat} (hn : 0 < dg.length) : ∃ T, IsTurn dg T := by
  obtain ⟨T, h1, ⟨h2, h3⟩, h4⟩ := least (P := fun k => 1 ≤ k ∧ ∀ i, rg dg (i + k) = rg dg i) dg.length ⟨hn, fun i => by simp [rg]⟩
  exact ⟨T, h2, h1, h3, fun k hk hlt h => h4 k hlt ⟨hk, h⟩⟩

section
variable {dg : List Nat} {T : Nat}
theorem IsTurn.mul (t : IsTurn dg T) : ∀ q i, rg dg (i + T * q) = rg dg i
  | 0, i => rfl
  | q + 1, i => by rw [Nat.mul_succ, ← Nat.add_assoc, t.per, t.mul q i]
theorem IsTurn.dvd (t : IsTurn dg T) {d : Nat} (h : ∀ i, rg dg (i + d) = rg dg i) : d % T = 0 := by
  refine Classical.byContradiction fun hne => ?_
  refine t.min (d % T) (by (first | lia | omega)) (Nat.mod_lt _ t.pos) fun i => ?_
  have := t.mul (d / T) (i + d % T)
  rw [← this, Nat.add_assoc, Nat.mod_add_div]
  exact h i
/-- what a view as long as the ring tells -/
theorem IsTurn.same (t : IsTurn dg T) (hn : 0 < dg.length) {r i j : Nat} (hr : dg.length ≤ r) : stI dg r i = stI dg r j ↔ i % T = j % T := by
  have key : ∀ i j, i ≤ j → (stI dg r i = stI dg r j ↔ i % T = j % T) := by
    intro i j hij
    constructor
    · intro e
      have h1 := stI_eq.mp e
      have hd : (j - i) % T = 0 := t.dvd fun x => by
        have hk : (x + dg.length * (i + 1) - i) % dg.length < r := Nat.lt_of_lt_of_le (Nat.mod_lt _ hn) hr
        have h2 := h1 _ hk
        have hge : i ≤ dg.length * (i + 1) := Nat.le_trans (Nat.le_succ i) (Nat.le_mul_of_pos_left _ hn)
        have e1 : ∀ y, rg dg (y + (x + dg.length * (i + 1) - i) % dg.length) = rg dg (y + (x + dg.length * (i + 1) - i)) := fun y => by
          unfold rg; rw [Nat.add_mod_mod]
        rw [e1, e1] at h2
        rw [show i + (x + dg.length * (i + 1) - i) = x + dg.length * (i + 1) by (first | lia | omega), show j + (x + dg.length * (i + 1) - i) = x + (j - i) + dg.length * (i + 1) by (first | lia | omega)] at h2
        unfold rg at h2 ⊢
        rw [Nat.add_mul_mod_self_left, Nat.add_mul_mod_self_left] at h2
        exact h2.symm
      have : j = i + T * ((j - i) / T) := by
        have := Nat.div_add_mod (j - i) T
        (first | lia | omega)
      rw [this, Nat.add_mul_mod_self_left]
    · intro e
      have : j = i + T * ((j - i) / T) := by
        have hd : (j - i) % T = 0 := by
          have h1 := Nat.div_add_mod i T
          have h2 := Nat.div_add_mod j T
          have : j - i = T * (j / T) - T * (i / T) := by (first | lia | omega)
          rw [this, ← Nat.mul_sub]
          exact Nat.mul_mod_right _ _
        have := Nat.div_add_mod (j - i) T
        (first | lia | omega)
      refine stI_eq.mpr fun k _ => ?_
      rw [this, show i + T * ((j - i) / T) + k = (i + k) + T * ((j - i) / T) by (first | lia | omega), t.mul]
  rcases Nat.le_total i j with h | h
  · exact key i j h
  · exact ⟨fun e => ((key j i h).mp e.symm).symm, fun e => ((key j i h).mpr e.symm).symm⟩
theorem IsTurn.ring (t : IsTurn dg T) : dg.length % T = 0 := t.dvd fun i => by simp [rg]

/-- in the end there are as many kinds as the turn is long -/
theorem IsTurn.kinds (t : IsTurn dg T) (hn : 0 < dg.length) {r : Nat} {g : Nat → Nat} (S : Stands dg r g) (hr : dg.length ≤ r) : firsts dg.length g = List.range T := by
  have hf : ∀ j, j < dg.length → fstP g j = decide (j < T) := fun j hj => by
    rw [Bool.eq_iff_iff, fstP_iff, decide_eq_true_iff]
    constructor
    · intro h
      rcases Nat.lt_or_ge j T with h' | h'
      · exact h'
      · exfalso
        have hp := t.pos
        refine h (j - T) (by (first | lia | omega)) ((S.eq _ _ (by (first | lia | omega)) hj).mpr ((t.same hn hr).mpr ?_))
        rw [Nat.mod_eq_sub_mod h']
    · intro h i hi e
      have := (t.same hn hr).mp ((S.eq i j (by (first | lia | omega)) hj).mp e)
      rw [Nat.mod_eq_of_lt h, Nat.mod_eq_of_lt (by (first | lia | omega))] at this
      (first | lia | omega)
  unfold firsts
  rw [List.filter_congr (q := fun j => decide (j < T) && true) fun j hj => by rw [hf j (List.mem_range.mp hj), Bool.and_true], filter_upto _ T _ t.le]
  exact List.filter_eq_self.mpr fun _ _ => rfl

/-- places that are alike, and the ruler's marks -/
theorem marks_eq {p : Nat} (hp : p < T) : ∀ M, (List.range (M * T)).filter (fun i => decide (i % T = p)) = (List.range M).map fun j => p + j * T
  | 0 => by simp
  | M + 1 => by
    rw [Nat.succ_mul, List.range_add, List.filter_append, marks_eq hp M, List.range_succ, List.map_append]
    congr 1
    rw [List.filter_map]
    have : (List.range T).filter ((fun i => decide (i % T = p)) ∘ fun x => M * T + x) = [p] := by
      have e : (List.range T).filter ((fun i => decide (i % T = p)) ∘ fun x => M * T + x) = (List.range T).filter fun x => decide (x = p) := by
        refine List.filter_congr fun x hx => ?_
        have hx' := List.mem_range.mp hx
        show decide ((M * T + x) % T = p) = _
        rw [Nat.mul_comm, Nat.mul_add_mod, Nat.mod_eq_of_lt hx']
      rw [e]
      have key : ∀ n, p < n → (List.range n).filter (fun x => decide (x = p)) = [p] := by
        intro n
        induction n with
        | zero => intro h; (first | lia | omega)
        | succ n ih =>
          intro h
          rw [List.range_succ, List.filter_append]
          by_cases hn : p = n
          · subst hn
            rw [List.filter_eq_nil_iff.mpr (fun x hx => by have := List.mem_range.mp hx; simp; (first | lia | omega))]
            simp
          · rw [ih (by (first | lia | omega))]
            have : ¬ n = p := fun h => hn h.symm
            simp [this]
      exact key T hp
    rw [this]
    simp; (first | lia | omega)
end
end Mine
/-! P5 -/
namespace Mine

theorem wk_cut {α : Type} (key : α → Nat) (v : Nat) : ∀ {l : List α}, l.Pairwise (fun a b => key a ≤ key b) →
    (∀ q (hq : q < l.length), (key l[q] < v ↔ q < (l.filter fun a => decide (key a < v)).length))
  | [], _ => fun q hq => by cases hq
  | a :: r, h => fun q hq => by
    have h' := List.pairwise_cons.mp h
    by_cases ha : key a < v
    · rw [List.filter_cons_of_pos (by simpa using ha)]
      cases q with
      | zero => simp [ha]
      | succ q =>
        have := wk_cut key v h'.2 q (by simpa using hq)
        simp only [List.getElem_cons_succ, List.length_cons]
        omega
    · have hall : ∀ b ∈ r, ¬ key b < v := fun b hb => by have := h'.1 b hb; omega
      have e : (a :: r).filter (fun a => decide (key a < v)) = [] := by
        refine List.filter_eq_nil_iff.mpr fun b hb => ?_
        rcases List.mem_cons.mp hb with rfl | hb
        · simpa using ha
        · simpa using hall b hb
      rw [e]
      have : ¬ key ((a :: r)[q]) < v := by
        rcases List.mem_cons.mp (List.getElem_mem hq) with e | e
        · rw [e]; exact ha
        · exact hall _ e
      simp only [List.length_nil, Nat.not_lt_zero, iff_false]
      exact this

theorem back_perm : ∀ N, ((List.range N).map fun k => N - 1 - k).Perm (List.range N)
  | 0 => List.Perm.refl _
  | N + 1 => by
    rw [List.range_succ_eq_map, List.map_cons, List.map_map]
    have e : (List.range N).map ((fun k => N + 1 - 1 - k) ∘ Nat.succ) = (List.range N).map fun k => N - 1 - k := by
      refine List.map_congr_left fun k _ => ?_
      show N + 1 - 1 - (k + 1) = N - 1 - k
      (first | lia | omega)
    rw [e]
    show ((N + 1 - 1 - 0) :: ((List.range N).map fun k => N - 1 - k)).Perm (0 :: (List.range N).map Nat.succ)
    rw [← List.range_succ_eq_map, List.range_succ]
    exact ((back_perm N).cons _).trans (List.perm_append_singleton _ _).symm

/-- by name, like ones as they stand -/
noncomputable def Before (g : Nat → Nat) (a b : Nat) : Prop := g a < g b ∨ (g a = g b ∧ a < b)

theorem line_shape (g : Nat → Nat) (N : Nat) : ∀ i, i ≤ N → ∃ L : List Nat, lineAt (nats ((List.range N).map g)) i = nats L ∧ L.Perm ((List.range i).map fun k => N - 1 - k) ∧ L.Pairwise (Before g)
  | 0, _ => ⟨[], rfl, by simp, List.Pairwise.nil⟩
  | i + 1, hi => by
    obtain ⟨L, e, p, s⟩ := line_shape g N i (by (first | lia | omega))
    have hxl : (nats ((List.range N).map g)).length = N := by simp
    have hxg : ∀ a, a < N → (nats ((List.range N).map g)).getD a 0 = (g a : Int) := fun a ha => by
      rw [List.getD_eq_getElem?_getD, List.getElem?_map, List.getElem?_map, List.getElem?_range ha]; rfl
    have hmem : ∀ a ∈ L, a < N ∧ N - 1 - i < a := fun a ha => by
      obtain ⟨k, hk, rfl⟩ := List.mem_map.mp (p.mem_iff.mp ha)
      exact ar_back hi (List.mem_range.mp hk)
    have sw : L.Pairwise fun a b => g a ≤ g b := s.imp fun h => by rcases h with h | h <;> (first | lia | omega)
    generalize hj : N - 1 - i = j at *
    have hjN : j < N := by (first | lia | omega)
    have hcut := wk_cut g (g j) sw
    generalize hm : (L.filter fun a => decide (g a < g j)).length = m at *
    have hmL : m ≤ L.length := by rw [← hm]; exact List.length_filter_le _ _
    have hins : insAt (zs (nats L)) (.int (j : Int)) (lookD (nats ((List.range N).map g))) 0 = m := by
      refine bis_at _ _ _ (by (first | lia | omega)) (by (first | lia | omega)) (by simpa using hmL) fun q _ q2 => ?_
      have hq : q < L.length := by simpa using q2
      have eg : (zs (nats L)).getD q .none = .int (L[q] : Int) := by
        rw [List.getD_eq_getElem?_getD, List.getElem?_map, List.getElem?_map, List.getElem?_eq_getElem hq]; rfl
      show dlt (lookD _ _) (lookD _ _) = true ↔ _
      rw [eg]
      simp only [lookD, Int.toNat_natCast]
      rw [hxg _ (hmem _ (List.getElem_mem hq)).1, hxg _ hjN]
      simp only [dlt, decide_eq_true_iff]
      have := hcut q hq
      (first | lia | omega)
    refine ⟨L.take m ++ j :: L.drop m, ?_, ?_, ?_⟩
    · rw [lineAt, hxl, hj, e, hins]
      simp [nats, List.map_take, List.map_drop]
    · rw [List.range_succ, List.map_append]
      simp only [List.map_cons, List.map_nil, hj]
      refine List.Perm.trans List.perm_middle ?_
      rw [List.take_append_drop]
      exact (List.perm_append_singleton j L).symm.trans (p.append_right [j])
    · refine List.pairwise_append.mpr ⟨s.sublist (List.take_sublist _ _), List.pairwise_cons.mpr ⟨fun b hb => ?_, s.sublist (List.drop_sublist _ _)⟩, fun a ha b hb => ?_⟩
      · obtain ⟨q, hq, rfl⟩ := List.mem_iff_getElem.mp hb
        rw [List.length_drop] at hq
        rw [List.getElem_drop]
        have h1 := hcut (m + q) (by (first | lia | omega))
        have h2 := (hmem _ (List.getElem_mem (show m + q < L.length by (first | lia | omega)))).2
        have : ¬ g L[m + q] < g j := fun h => by have := h1.mp h; (first | lia | omega)
        unfold Before; (first | lia | omega)
      · obtain ⟨q, hq, rfl⟩ := List.mem_iff_getElem.mp ha
        rw [List.length_take] at hq
        rw [List.getElem_take]
        have h1 := (hcut q (by (first | lia | omega))).mpr (by (first | lia | omega))
        rcases List.mem_cons.mp hb with rfl | hb
        · exact .inl h1
        · obtain ⟨q', hq', rfl⟩ := List.mem_iff_getElem.mp hb
          rw [List.length_drop] at hq'
          rw [List.getElem_drop]
          exact List.pairwise_iff_getElem.mp s q (m + q') (by (first | lia | omega)) (by (first | lia | omega)) (by (first | lia | omega))

theorem line_all (g : Nat → Nat) (N : Nat) : ∃ L : List Nat, lineF (nats ((List.range N).map g)) = nats L ∧ L.Perm (List.range N) ∧ L.Pairwise (Before g) := by
  obtain ⟨L, e, p, s⟩ := line_shape g N N (Nat.le_refl _)
  refine ⟨L, ?_, p.trans (back_perm N), s⟩
  rw [lineF]
  have : (nats ((List.range N).map g)).length = N := by simp
  rw [this, e]

section
variable {N : Nat} {g : Nat → Nat} {L : List Nat}
theorem line_zero (h : Nrm N g) (p : L.Perm (List.range N)) (s : L.Pairwise (Before g)) (hN : 0 < N) (hl : 0 < L.length) : g L[0] = 0 := by
  obtain ⟨x, hx, e⟩ := nrm_all h (k := 0) (firsts_pos hN g)
  have hxN := (List.mem_filter.mp hx).1
  obtain ⟨q, hq, rfl⟩ := List.mem_iff_getElem.mp (p.mem_iff.mpr hxN)
  cases q with
  | zero => exact e
  | succ q =>
    have := List.pairwise_iff_getElem.mp s 0 (q + 1) hl hq (by (first | lia | omega))
    unfold Before at this
    (first | lia | omega)
theorem line_step (h : Nrm N g) (p : L.Perm (List.range N)) (s : L.Pairwise (Before g)) {k : Nat} (hk : k + 1 < L.length) : g L[k + 1] = g L[k] + if g L[k + 1] = g L[k] then 0 else 1 := by
  have hp := List.pairwise_iff_getElem.mp s
  have h1 := hp k (k + 1) (by (first | lia | omega)) hk (by (first | lia | omega))
  have hbN := List.mem_range.mp (p.mem_iff.mp (List.getElem_mem hk))
  by_cases he : g L[k + 1] = g L[k]
  · rw [if_pos he]; (first | lia | omega)
  · rw [if_neg he]
    have hlt : g L[k] < g L[k + 1] := by unfold Before at h1; (first | lia | omega)
    refine Classical.byContradiction fun hne => ?_
    obtain ⟨x, hx, e⟩ := nrm_all h (k := g L[k] + 1) (by have := nrm_lt h hbN; (first | lia | omega))
    have hxN := (List.mem_filter.mp hx).1
    obtain ⟨q, hq, rfl⟩ := List.mem_iff_getElem.mp (p.mem_iff.mpr hxN)
    have hle : ∀ a b (ha : a < L.length) (hb : b < L.length), a ≤ b → g L[a] ≤ g L[b] := fun a b ha hb hab => by
      rcases Nat.lt_or_ge a b with h' | h'
      · have := hp a b ha hb h'
        unfold Before at this; (first | lia | omega)
      · have : a = b := by (first | lia | omega)
        subst this; exact Nat.le_refl _
    rcases Nat.lt_or_ge k q with h' | h'
    · have := hle (k + 1) q hk hq h'
      (first | lia | omega)
    · have := hle q k hq (by (first | lia | omega)) h'
      (first | lia | omega)
end

/-! the ring told six times -/
theorem rep_get {α : Type} (l : List α) (hl : 0 < l.length) : ∀ n x, x < n * l.length → (List.replicate n l).flatten[x]? = l[x % l.length]?
  | 0, x, h => by (first | lia | omega)
  | n + 1, x, h => by
    rw [List.replicate_succ, List.flatten_cons]
    by_cases hx : x < l.length
    · rw [List.getElem?_append_left hx, Nat.mod_eq_of_lt hx]
    · rw [List.getElem?_append_right (by (first | lia | omega)), rep_get l hl n _ (by rw [Nat.succ_mul] at h; (first | lia | omega)), Nat.mod_eq_sub_mod (show x ≥ l.length by (first | lia | omega))]
theorem rep_cut {α : Type} (l : List α) (hl : 0 < l.length) (n i r : Nat) (h : i + r ≤ n * l.length) (f : Nat → α) (hf : ∀ x, l[x % l.length]? = some (f x)) : (((List.replicate n l).flatten.drop i).take r) = (List.range r).map fun k => f (i + k) := by
  refine List.ext_getElem? fun k => ?_
  by_cases hk : k < r
  · rw [List.getElem?_take_of_lt hk, List.getElem?_drop, rep_get l hl n _ (by (first | lia | omega)), hf, List.getElem?_map, List.getElem?_range hk]; rfl
  · rw [List.getElem?_take, if_neg hk, List.getElem?_map, List.getElem?_eq_none (by simpa using hk)]; rfl
theorem ring_cut {dg : List Nat} (hn : 0 < dg.length) {i r : Nat} (h : i + r ≤ 6 * dg.length) : (((List.replicate 6 (nats dg)).flatten.drop i).take r) = stI dg r i := by
  have hl : (nats dg).length = dg.length := by simp
  refine rep_cut (nats dg) (by (first | lia | omega)) 6 i r (by (first | lia | omega)) (fun x => (rg dg x : Int)) fun x => ?_
  rw [hl, nats, List.getElem?_map, List.getElem?_eq_getElem (Nat.mod_lt _ hn), rg, List.getD_eq_getElem?_getD, List.getElem?_eq_getElem (Nat.mod_lt _ hn)]; rfl
theorem turn_cut {dg : List Nat} (hn : 0 < dg.length) {i r : Nat} (h : i + r ≤ 6 * dg.length) : (turnS (textF dg) r i).cps.toList = (List.range r).map fun k => chOf (rg dg (i + k)) := by
  unfold turnS
  rw [text_cps]
  have hl : (dg.map chOf).length = dg.length := by simp
  show ((List.replicate 6 (dg.map chOf)).flatten.drop i).take r = _
  refine rep_cut (dg.map chOf) (by (first | lia | omega)) 6 i r (by (first | lia | omega)) (fun x => chOf (rg dg x)) fun x => ?_
  rw [hl, List.getElem?_map, List.getElem?_eq_getElem (Nat.mod_lt _ hn), rg, List.getD_eq_getElem?_getD, List.getElem?_eq_getElem (Nat.mod_lt _ hn)]; rfl

theorem ch_lt : ∀ {u v : List Nat}, (∀ a ∈ u, a < 3) → (∀ a ∈ v, a < 3) → u.length = v.length → ((u.map chOf < v.map chOf ↔ zlt (nats u) (nats v) = true) ∧ (u.map chOf = v.map chOf ↔ nats u = nats v))
  | [], [], _, _, _ => by simp [zlt]
  | [], _ :: _, _, _, h => by cases h
  | _ :: _, [], _, _, h => by cases h
  | a :: u, b :: v, hu, hv, h => by
    obtain ⟨i1, i2⟩ := ch_lt (u := u) (v := v) (fun x hx => hu x (.tail _ hx)) (fun x hx => hv x (.tail _ hx)) (by simpa using h)
    have hc := chOf_lt (hu a (.head _)) (hv b (.head _))
    simp only [List.map_cons, nats, List.cons_lt_cons_iff, zlt, List.cons.injEq] at *
    constructor
    · rw [i1, hc.1, hc.2]
      by_cases hab : (a : Int) = b
      · rw [if_pos hab]
        have : a = b := by omega
        subst this
        simp
      · rw [if_neg hab, decide_eq_true_iff]
        have : a ≠ b := by omega
        constructor
        · rintro (h | ⟨h, _⟩)
          · omega
          · exact absurd h this
        · intro h; exact .inl (by omega)
    · rw [hc.2, i2]
      constructor
      · rintro ⟨rfl, hh⟩; exact ⟨rfl, hh⟩
      · rintro ⟨h1, h2⟩; exact ⟨by omega, h2⟩

theorem rg_three {dg : List Nat} (h3 : ∀ i ∈ dg, i < 3) (hn : 0 < dg.length) (x : Nat) : rg dg x < 3 := by
  rw [rg, List.getD_eq_getElem?_getD, List.getElem?_eq_getElem (Nat.mod_lt _ hn)]
  exact h3 _ (List.getElem_mem _)

/-- what _strcoll says of two stretches -/
theorem sgn_turn {dg : List Nat} (h3 : ∀ i ∈ dg, i < 3) (hn : 0 < dg.length) {r i j : Nat} (hi : i + r ≤ 6 * dg.length) (hj : j + r ≤ 6 * dg.length) :
    sgn (turnS (textF dg) r i) (turnS (textF dg) r j) = (if zlt (stI dg r j) (stI dg r i) = true then 1 else 0) - (if zlt (stI dg r i) (stI dg r j) = true then 1 else 0) := by
  have key : ∀ i j, ((List.range r).map fun k => chOf (rg dg (i + k))) < ((List.range r).map fun k => chOf (rg dg (j + k))) ↔ zlt (stI dg r i) (stI dg r j) = true := fun i j => by
    have := (ch_lt (u := (List.range r).map fun k => rg dg (i + k)) (v := (List.range r).map fun k => rg dg (j + k)) (fun a ha => by obtain ⟨k, _, rfl⟩ := List.mem_map.mp ha; exact rg_three h3 hn _) (fun a ha => by obtain ⟨k, _, rfl⟩ := List.mem_map.mp ha; exact rg_three h3 hn _) (by simp)).1
    rw [List.map_map, List.map_map, nats, nats, List.map_map, List.map_map] at this
    exact this
  unfold sgn
  rw [turn_cut hn hi, turn_cut hn hj]
  simp only [decide_eq_true_iff, key]
end Mine
/-! P6 -/
namespace Mine

/-- the rows, as the line has them -/
noncomputable def outF (dg : List Nat) (r : Nat) (L : List Nat) : List (List Int × Int) := L.map fun j => (((List.replicate 6 (nats dg)).flatten.drop j).take r, (j : Int))

section
variable {dg : List Nat} {r : Nat} {g : Nat → Nat} {L : List Nat}

theorem out_perm (p : L.Perm (List.range dg.length)) : (outF dg r L).Perm (dueRows (List.replicate 6 (nats dg)).flatten r dg.length) := p.map _

theorem out_up (S : Stands dg r g) (hn : 0 < dg.length) (hr : dg.length + r ≤ 6 * dg.length) (p : L.Perm (List.range dg.length)) (s : L.Pairwise (Before g)) : (outF dg r L).Pairwise fun x y => rowLt x y = true := by
  rw [outF, List.pairwise_map]
  refine s.imp_of_mem fun {a b} ha hb h => ?_
  have haN := List.mem_range.mp (p.mem_iff.mp ha)
  have hbN := List.mem_range.mp (p.mem_iff.mp hb)
  unfold rowLt
  simp only []
  rw [ring_cut hn (by (first | lia | omega)), ring_cut hn (by (first | lia | omega))]
  rcases h with h | ⟨h1, h2⟩
  · have hz := (S.lt a b haN hbN).mp h
    rw [if_neg, hz]
    intro e
    rw [e, zlt_irr] at hz; cases hz
  · rw [if_pos ((S.eq a b haN hbN).mp h1)]
    exact decide_eq_true (by (first | lia | omega))

theorem due_at (S : Stands dg r g) (h : Nrm dg.length g) (hn : 0 < dg.length) (hr : dg.length + r ≤ 6 * dg.length) (p : L.Perm (List.range dg.length)) (s : L.Pairwise (Before g)) :
    ∀ i, i < dg.length → dueAt (outF dg r L) dg.length i = (List.range dg.length).map fun x => if x ∈ L.take (i + 1) then (g x : Int) else 0 := by
  have hl : L.length = dg.length := by have := p.length_eq; simpa using this
  have hget : ∀ k (hk : k < L.length), (outF dg r L).getD k ([], 0) = (stI dg r L[k], (L[k] : Int)) := fun k hk => by
    have hN := List.mem_range.mp (p.mem_iff.mp (List.getElem_mem hk))
    rw [List.getD_eq_getElem?_getD, outF, List.getElem?_map, List.getElem?_eq_getElem hk]
    show (((List.replicate 6 (nats dg)).flatten.drop L[k]).take r, (L[k] : Int)) = _
    rw [ring_cut hn (by (first | lia | omega))]
  intro i
  induction i with
  | zero =>
    intro _
    have hl0 : 0 < L.length := by (first | lia | omega)
    have h0 := line_zero h p s hn hl0
    rw [dueAt]
    refine List.ext_getElem (by simp) fun x h1 h2 => ?_
    simp only [List.getElem_replicate, List.getElem_map, List.getElem_range]
    by_cases hx : x ∈ L.take 1
    · rw [if_pos hx]
      have : L.take 1 = [L[0]] := by
        rw [List.take_add_one, List.take_zero, List.nil_append, List.getElem?_eq_getElem hl0]; rfl
      rw [this, List.mem_singleton] at hx
      subst hx
      (first | lia | omega)
    · rw [if_neg hx]
  | succ i ih =>
    intro hi
    have ih := ih (by (first | lia | omega))
    have ha : i < L.length := by (first | lia | omega)
    have hb : i + 1 < L.length := by (first | lia | omega)
    have haN := List.mem_range.mp (p.mem_iff.mp (List.getElem_mem ha))
    have hbN := List.mem_range.mp (p.mem_iff.mp (List.getElem_mem hb))
    have hst := line_step h p s hb
    rw [dueAt, hget (i + 1) hb, hget i ha, ih]
    simp only [Int.toNat_natCast]
    have hga : ((List.range dg.length).map fun x => if x ∈ L.take (i + 1) then (g x : Int) else 0).getD L[i] 0 = (g L[i] : Int) := by
      rw [List.getD_eq_getElem?_getD, List.getElem?_map, List.getElem?_range haN]
      show (if L[i] ∈ L.take (i + 1) then (g L[i] : Int) else 0) = _
      rw [if_pos]
      exact List.mem_iff_getElem.mpr ⟨i, by rw [List.length_take]; (first | lia | omega), by rw [List.getElem_take]⟩
    rw [hga]
    have hv : (g L[i] : Int) + (if stI dg r L[i + 1] = stI dg r L[i] then 0 else 1) = (g L[i + 1] : Int) := by
      have he := S.eq L[i + 1] L[i] hbN haN
      by_cases hq : g L[i + 1] = g L[i]
      · rw [if_pos (he.mp hq)]; (first | lia | omega)
      · rw [if_neg fun h' => hq (he.mpr h')]
        rw [if_neg hq] at hst
        (first | lia | omega)
    rw [hv]
    have htk : L.take (i + 1 + 1) = L.take (i + 1) ++ [L[i + 1]] := by
      rw [List.take_add_one, List.getElem?_eq_getElem hb]; rfl
    refine List.ext_getElem (by simp) fun x h1 h2 => ?_
    simp only [List.length_set, List.length_map, List.length_range] at h1
    rw [List.getElem_set]
    simp only [List.getElem_map, List.getElem_range, htk, List.mem_append, List.mem_singleton]
    by_cases hx : L[i + 1] = x
    · rw [if_pos hx, if_pos (.inr hx.symm), hx]
    · rw [if_neg hx]
      by_cases hx2 : x ∈ L.take (i + 1)
      · rw [if_pos hx2, if_pos (.inl hx2)]
      · rw [if_neg hx2, if_neg]
        rintro (h' | h')
        · exact hx2 h'
        · exact hx h'.symm

theorem due_end (S : Stands dg r g) (h : Nrm dg.length g) (hn : 0 < dg.length) (hr : dg.length + r ≤ 6 * dg.length) (p : L.Perm (List.range dg.length)) (s : L.Pairwise (Before g)) :
    dueAt (outF dg r L) dg.length (dg.length - 1) = nats ((List.range dg.length).map g) := by
  have hl : L.length = dg.length := by have := p.length_eq; simpa using this
  rw [due_at S h hn hr p s _ (by (first | lia | omega)), nats, List.map_map]
  refine List.map_congr_left fun x hx => ?_
  rw [if_pos]
  · rfl
  · rw [List.take_of_length_le (by (first | lia | omega))]
    exact p.mem_iff.mpr hx

theorem said_of (S : Stands dg r g) (h3 : ∀ i ∈ dg, i < 3) (hn : 0 < dg.length) (hr : dg.length + r ≤ 6 * dg.length) (p : L.Perm (List.range dg.length)) (s : L.Pairwise (Before g)) {k : Nat} (hk : k + 1 < dg.length) :
    strN (sgn (turnS (textF dg) r ((nats L).getD k 0).toNat) (turnS (textF dg) r ((nats L).getD (k + 1) 0).toNat)) ++ strN (sgn (turnS (textF dg) r ((nats L).getD (k + 1) 0).toNat) (turnS (textF dg) r ((nats L).getD k 0).toNat)) =
      if (nats ((List.range dg.length).map g)).getD ((nats L).getD k 0).toNat 0 = (nats ((List.range dg.length).map g)).getD ((nats L).getD (k + 1) 0).toNat 0 then ("00" : Str) else ("-11" : Str) := by
  have hl : L.length = dg.length := by have := p.length_eq; simpa using this
  have hg : ∀ k (hk : k < L.length), ((nats L).getD k 0).toNat = L[k] := fun k hk => by
    rw [List.getD_eq_getElem?_getD, List.getElem?_map, List.getElem?_eq_getElem hk]; rfl
  have hx : ∀ a, a < dg.length → (nats ((List.range dg.length).map g)).getD a 0 = (g a : Int) := fun a ha => by
    rw [List.getD_eq_getElem?_getD, List.getElem?_map, List.getElem?_map, List.getElem?_range ha]; rfl
  have ha : k < L.length := by (first | lia | omega)
  have hb : k + 1 < L.length := by (first | lia | omega)
  have haN := List.mem_range.mp (p.mem_iff.mp (List.getElem_mem ha))
  have hbN := List.mem_range.mp (p.mem_iff.mp (List.getElem_mem hb))
  rw [hg k ha, hg (k + 1) hb, hx _ haN, hx _ hbN, sgn_turn h3 hn (by (first | lia | omega)) (by (first | lia | omega)), sgn_turn h3 hn (by (first | lia | omega)) (by (first | lia | omega))]
  have s1 := S.lt L[k] L[k + 1] haN hbN
  have s2 := S.lt L[k + 1] L[k] hbN haN
  have hbf := List.pairwise_iff_getElem.mp s k (k + 1) ha hb (by (first | lia | omega))
  rcases hbf with h | ⟨h, _⟩
  · have this : ¬ g L[k + 1] < g L[k] := by (first | lia | omega)
    have e : ¬ ((g L[k] : Int) = g L[k + 1]) := by (first | lia | omega)
    have z1 := s1.mp h
    have z2 : zlt (stI dg r L[k + 1]) (stI dg r L[k]) = false := Bool.eq_false_iff.mpr fun h' => this (s2.mpr h')
    rw [z1, z2, if_neg e]
    rfl
  · have h1 : ¬ g L[k + 1] < g L[k] := by (first | lia | omega)
    have h2 : ¬ g L[k] < g L[k + 1] := by (first | lia | omega)
    have e : (g L[k] : Int) = g L[k + 1] := by (first | lia | omega)
    have z1 : zlt (stI dg r L[k]) (stI dg r L[k + 1]) = false := Bool.eq_false_iff.mpr fun h' => h2 (s1.mpr h')
    have z2 : zlt (stI dg r L[k + 1]) (stI dg r L[k]) = false := Bool.eq_false_iff.mpr fun h' => h1 (s2.mpr h')
    rw [z1, z2, if_pos e]
    rfl
end
end Mine
/-! P7 -/
namespace Mine

theorem rch_two {sizes : List Nat} (hs : ∀ i, 2 ≤ szF sizes i) : ∀ t, 2 ^ t ≤ rchF sizes t
  | 0 => Nat.le_refl _
  | t + 1 => by
    have h1 := rch_two hs t
    have h2 := hs t
    rw [rchF, Nat.pow_succ]
    exact Nat.mul_le_mul h1 h2

noncomputable def mxF (dg sizes : List Nat) (t : Nat) : Nat := (firsts dg.length (nmF dg sizes t)).length - 1
noncomputable def plF (dg sizes : List Nat) (K v : Nat) : List Nat := (List.range dg.length).filter fun i => decide ((NmF dg sizes K).getD i 0 = v)

theorem lawQ_ex {dg sizes : List Nat} (hn : 0 < dg.length) (hN : dg.length ≤ 12) (h3 : ∀ i ∈ dg, i < 3) (hs : ∀ i, 2 ≤ szF sizes i ∧ szF sizes i ≤ 4) :
    ∃ K T out, LawQ dg.length dg sizes (textF dg) K T (NmF dg sizes) (mxF dg sizes) out (plF dg sizes K) := by
  have hs2 : ∀ i, 2 ≤ szF sizes i := fun i => (hs i).1
  obtain ⟨K, hK4, hK, hKm⟩ := least (P := fun t => dg.length ≤ rchF sizes t) 4 (by have := rch_two hs2 4; have : (2 : Nat) ^ 4 = 16 := rfl; (first | lia | omega))
  obtain ⟨T, tT⟩ := turn_ex hn
  have hst := fun t => (stands (sizes := sizes) hn hN h3 t).1
  have hbd := fun t => (stands (sizes := sizes) hn hN h3 t).2
  have hnr := nmF_nrm dg sizes
  have hfp := fun t => firsts_pos hn (nmF dg sizes t)
  have hline : ∀ t, ∃ L : List Nat, lineF (nats (NmF dg sizes t)) = nats L ∧ L.Perm (List.range dg.length) ∧ L.Pairwise (Before (nmF dg sizes t)) := fun t => line_all _ _
  have hkin := tT.kinds hn (hst K) hK
  have hfT : (firsts dg.length (nmF dg sizes K)).length = T := by rw [hkin, List.length_range]
  have hr3 : ∀ i, i ≤ K → rchF sizes i ≤ 4 * dg.length := fun i hi => by
    cases i with
    | zero => rw [rchF]; (first | lia | omega)
    | succ i =>
      have h1 : ¬ dg.length ≤ rchF sizes i := hKm i (by (first | lia | omega))
      have h2 := (hs i).2
      rw [rchF]
      calc rchF sizes i * szF sizes i ≤ dg.length * 4 := Nat.mul_le_mul (by (first | lia | omega)) h2
        _ = 4 * dg.length := Nat.mul_comm _ _
  obtain ⟨Lf, hL⟩ : ∃ Lf : Nat → List Nat, ∀ t, lineF (nats (NmF dg sizes t)) = nats (Lf t) ∧ (Lf t).Perm (List.range dg.length) ∧ (Lf t).Pairwise (Before (nmF dg sizes t)) := ⟨fun t => Classical.choose (hline t), fun t => Classical.choose_spec (hline t)⟩
  refine ⟨K, T, fun t => outF dg (rchF sizes t) (Lf t), ?_⟩
  refine {
    n1 := hn
    n2 := hN
    dl := rfl
    tl := by rw [← Array.length_toList, text_cps, List.length_map]
    sz1 := hs
    kk := hK4
    r1 := fun i hi => by have := hKm i hi; (first | lia | omega)
    r2 := hK
    r3 := hr3
    nm := fun i _ => ⟨NmF_len, fun v hv => by obtain ⟨x, hx, rfl⟩ := List.mem_map.mp hv; exact hbd i x (List.mem_range.mp hx)⟩
    h0 := h0_of
    hS := fun i _ => hS_of hn i
    mx1 := fun i _ => ?_
    t1 := ⟨tT.pos, tT.le⟩
    t2 := (rot_iff tT.le hn).mpr tT.per
    t3 := fun k k1 k2 h => ?_
    t4 := ?_
    mono := fun k hk => ?_
    due1 := fun i hi => ⟨out_perm (hL i).2.1, out_up (hst i) hn (by have := hr3 i hi; (first | lia | omega)) (hL i).2.1 (hL i).2.2⟩
    due2 := fun i hi => ⟨?_, due_end (hst i) (hnr i) hn (by have := hr3 i hi; (first | lia | omega)) (hL i).2.1 (hL i).2.2⟩
    said := fun i hi k hk => ?_
    pl1 := fun v hv => ⟨?_, rfl⟩
    pl2 := fun v hv => ?_ }
  · refine ⟨?_, fun v hv => ?_⟩
    · obtain ⟨p, hp, e⟩ := nrm_all (hnr i) (k := mxF dg sizes i) (by have := hfp i; unfold mxF; (first | lia | omega))
      exact List.mem_map.mpr ⟨p, (List.mem_filter.mp hp).1, e⟩
    · obtain ⟨x, hx, rfl⟩ := List.mem_map.mp hv
      have := nrm_lt (hnr i) (List.mem_range.mp hx)
      unfold mxF; (first | lia | omega)
  · rcases Nat.lt_or_ge k T with h' | h'
    · exact absurd ((rot_iff k2 hn).mp h) (tT.min k k1 h')
    · exact h'
  · unfold mxF; have := tT.pos; (first | lia | omega)
  · have hlt := rchF_lt hs2 k
    have hmono : ∀ a b, a ≤ b → rchF sizes a ≤ rchF sizes b := fun a b hab => by
      induction hab with
      | refl => exact Nat.le_refl _
      | step _ ih => exact Nat.le_trans ih (Nat.le_of_lt (rchF_lt hs2 _))
    have hle := (kinds_le (hst k) (hst (k + 1)) (by (first | lia | omega))).1
    have f1 := hfp k
    have f2 := hfp (k + 1)
    refine ⟨by unfold mxF; (first | lia | omega), fun he => ?_⟩
    have he' : (firsts dg.length (nmF dg sizes k)).length = (firsts dg.length (nmF dg sizes (k + 1))).length := by unfold mxF at he; (first | lia | omega)
    have := kinds_stay hn (hst k) (hst (k + 1)) (hst K) hlt (hmono k K (by (first | lia | omega))) he'
    unfold mxF; (first | lia | omega)
  · rw [(hL i).1, outF, List.map_map]; rfl
  · rw [(hL i).1]
    exact said_of (hst i) h3 hn (by have := hr3 i hi; (first | lia | omega)) (hL i).2.1 (hL i).2.2 hk
  · obtain ⟨p, hp, e⟩ := nrm_all (hnr K) (k := v) (by (first | lia | omega))
    have hpN := (List.mem_filter.mp hp).1
    intro h
    have : p ∈ plF dg sizes K v := List.mem_filter.mpr ⟨hpN, decide_eq_true (by rw [NmF_get (List.mem_range.mp hpN)]; exact e)⟩
    rw [h] at this; cases this
  · obtain ⟨p, hp, e⟩ := nrm_all (hnr K) (k := v) (by (first | lia | omega))
    have hpN := List.mem_range.mp (List.mem_filter.mp hp).1
    have hpT : p < T := by rw [hkin] at hp; exact List.mem_range.mp hp
    have hMT : dg.length = dg.length / T * T := by
      have h1 := Nat.div_add_mod dg.length T
      have h2 := tT.ring
      rw [Nat.mul_comm]; (first | lia | omega)
    have hpl : plF dg sizes K v = (List.range (dg.length / T)).map fun j => p + j * T := by
      rw [← marks_eq hpT, ← hMT]
      refine List.filter_congr fun i hi => ?_
      have hiN := List.mem_range.mp hi
      rw [Bool.eq_iff_iff, decide_eq_true_iff, decide_eq_true_iff, NmF_get hiN, ← e, (hst K).eq i p hiN hpN, tT.same hn hK, Nat.mod_eq_of_lt hpT]
    have hM : 0 < dg.length / T := Nat.div_pos tT.le tT.pos
    have hhd : (plF dg sizes K v).headD 0 = p := by
      rw [hpl]
      obtain ⟨m, hm⟩ : ∃ m, dg.length / T = m + 1 := ⟨dg.length / T - 1, by (first | lia | omega)⟩
      rw [hm, List.range_succ_eq_map]
      simp
    refine ⟨dg.length / T, ?_, fun j => ?_⟩
    · rw [hhd, hpl, marksF, nats, List.map_map]
      refine List.map_congr_left fun j _ => ?_
      show ((p + j * T : Nat) : Int) = _
      push_cast; rfl
    · rw [hhd]
      constructor
      · intro h
        refine Nat.lt_of_mul_lt_mul_right (a := T) ?_
        (first | lia | omega)
      · intro h
        have : (j + 1) * T ≤ dg.length / T * T := Nat.mul_le_mul_right _ h
        rw [Nat.succ_mul] at this
        (first | lia | omega)

theorem lawA_ex (cs : List Int) : ∃ W R dg sizes, LawA cs W R dg.length dg sizes ∧ 0 < dg.length ∧ dg.length ≤ 12 ∧ ∀ i, 2 ≤ szF sizes i ∧ szF sizes i ≤ 4 := by
  obtain ⟨a0, a1⟩ : 0 ≤ cs.getD 0 0 % 12 ∧ cs.getD 0 0 % 12 < 12 := ⟨Int.emod_nonneg _ (by decide), Int.emod_lt_of_pos _ (by decide)⟩
  obtain ⟨W, hW⟩ : ∃ W : Nat, (W : Int) = 1 + cs.getD 0 0 % 12 := ⟨(1 + cs.getD 0 0 % 12).toNat, by (first | lia | omega)⟩
  have h12 : (0 : Int) < 12 / (W : Int) := Int.lt_of_lt_of_le (by decide) (Int.le_ediv_of_mul_le (a := 1) (by (first | lia | omega)) (by (first | lia | omega)))
  obtain ⟨b0, b1⟩ : 0 ≤ cs.getD 0 0 / 12 % (12 / (W : Int)) ∧ cs.getD 0 0 / 12 % (12 / (W : Int)) < 12 / (W : Int) := ⟨Int.emod_nonneg _ (by (first | lia | omega)), Int.emod_lt_of_pos _ h12⟩
  obtain ⟨R, hR⟩ : ∃ R : Nat, (R : Int) = 1 + cs.getD 0 0 / 12 % (12 / (W : Int)) := ⟨(1 + cs.getD 0 0 / 12 % (12 / (W : Int))).toNat, by (first | lia | omega)⟩
  have hRW : (W : Int) * R ≤ 12 := by
    have h1 : (R : Int) ≤ 12 / (W : Int) := by (first | lia | omega)
    have h2 : (W : Int) * (12 / (W : Int)) ≤ 12 := Int.mul_ediv_self_le (by (first | lia | omega))
    exact Int.le_trans (Int.mul_le_mul_of_nonneg_left h1 (by (first | lia | omega))) h2
  have hRW' : W * R ≤ 12 := by exact_mod_cast hRW
  have hd : ∀ k : Nat, 0 ≤ cs.getD 1 0 / 3 ^ k % 3 ∧ cs.getD 1 0 / 3 ^ k % 3 < 3 := fun k => ⟨Int.emod_nonneg _ (by decide), Int.emod_lt_of_pos _ (by decide)⟩
  have hdz : ∀ k : Nat, 0 ≤ cs.getD 2 0 / 3 / 3 ^ k % 3 ∧ cs.getD 2 0 / 3 / 3 ^ k % 3 < 3 := fun k => ⟨Int.emod_nonneg _ (by decide), Int.emod_lt_of_pos _ (by decide)⟩
  obtain ⟨e0, e1⟩ : 0 ≤ cs.getD 2 0 % 3 ∧ cs.getD 2 0 % 3 < 3 := ⟨Int.emod_nonneg _ (by decide), Int.emod_lt_of_pos _ (by decide)⟩
  have hlen : ((List.replicate R ((List.range W).map fun k => (cs.getD 1 0 / 3 ^ k % 3).toNat)).flatten).length = W * R := by
    rw [List.length_flatten, List.map_replicate, List.sum_replicate_nat]
    simp [Nat.mul_comm]
  have hW1 : 1 ≤ W ∧ W ≤ 12 := by (first | lia | omega)
  have hR1 : 1 ≤ R := by (first | lia | omega)
  have hR2 : R ≤ 12 := by
    have : 1 * R ≤ W * R := Nat.mul_le_mul_right _ hW1.1
    (first | lia | omega)
  refine ⟨W, R, (List.replicate R ((List.range W).map fun k => (cs.getD 1 0 / 3 ^ k % 3).toNat)).flatten, (List.range (1 + cs.getD 2 0 % 3).toNat).map fun k => (2 + cs.getD 2 0 / 3 / 3 ^ k % 3).toNat, ⟨hW, hW1, hR, ⟨hR1, hR2⟩, ?_, rfl, ?_, ?_, ?_⟩, ?_, ?_, ?_⟩
  · rw [nats, List.map_flatten, List.map_replicate, List.map_map]
    congr 2
    refine List.map_congr_left fun k _ => ?_
    show _ = (((cs.getD 1 0 / 3 ^ k % 3).toNat : Nat) : Int)
    exact (Int.toNat_of_nonneg (hd k).1).symm
  · intro i hi
    obtain ⟨l, hl, hi⟩ := List.mem_flatten.mp hi
    have := List.eq_of_mem_replicate hl
    subst this
    obtain ⟨k, _, rfl⟩ := List.mem_map.mp hi
    have := hd k
    (first | lia | omega)
  · rw [nats, List.map_map]
    refine List.map_congr_left fun k _ => ?_
    show _ = (((2 + cs.getD 2 0 / 3 / 3 ^ k % 3).toNat : Nat) : Int)
    exact ar_cast (hdz k).1
  · refine ⟨fun h => ?_, by simp; (first | lia | omega)⟩
    have := congrArg List.length h
    simp at this
    (first | lia | omega)
  · rw [hlen]; exact Nat.mul_pos hW1.1 hR1
  · rw [hlen]; exact hRW'
  · intro i
    have hl : ((List.range (1 + cs.getD 2 0 % 3).toNat).map fun k => (2 + cs.getD 2 0 / 3 / 3 ^ k % 3).toNat).length = (1 + cs.getD 2 0 % 3).toNat := by simp
    unfold szF
    rw [hl, List.getD_eq_getElem?_getD, List.getElem?_map, List.getElem?_range (Nat.lt_of_le_of_lt (Nat.min_le_right _ _) (Nat.sub_lt ar_pos Nat.one_pos))]
    show 2 ≤ (2 + cs.getD 2 0 / 3 / 3 ^ _ % 3).toNat ∧ (2 + cs.getD 2 0 / 3 / 3 ^ _ % 3).toNat ≤ 4
    exact ar_two (hdz (min i ((1 + cs.getD 2 0 % 3).toNat - 1)))

/-- the plain law, for every script -/
theorem law_ok (xs : List Int) : LawOk xs := by
  obtain ⟨W, R, dg, sizes, qa, h1, h2, h3⟩ := lawA_ex (drawsF xs)
  obtain ⟨K, T, out, q⟩ := lawQ_ex h1 h2 qa.d3 h3
  exact ⟨W, R, dg.length, dg, sizes, K, T, _, _, out, _, qa, q⟩
end Mine
/-! the whole -/
open Mine
theorem Mine.well_obj {P : Params} {h : Heap} {a : Addr} {xs : List Int} {vs : List Value} (w1 : Well P h (.ref a) (ofPy (PyData.list (List.map PyData.int xs)))) (hL : h.IsList a vs.toArray) : h.get? a = some { cls := .type "list", data := .seq vs.toArray } := by
  obtain ⟨o, ho, hc, n, hd⟩ := hL
  generalize hw : ofPy (PyData.list (List.map PyData.int xs)) = d at w1
  have hl : ∃ l, d = .list l := ⟨_, hw.symm⟩
  obtain ⟨l, rfl⟩ := hl
  cases w1 with
  | list hg _ =>
    rw [ho] at hg
    cases hg
    cases hd
    exact ho
set_option maxHeartbeats 8000000 in
theorem PySem.Challenge.cw_uy0002_01_holds : PySem.Challenge.rw_uy0002_01.Holds := by
  refine hd ?_
  k_fill
  intro w s₀ s₁ mg mb G Y fa o pm cd doc dV kV ho hd hcd hD hmg hg args vals as hpre hlay hrd hwl hlo
  have KX := km_in_of Y
  km_tabs Y
  have X := (Ground.X G).1
  have V := (Ground.X G).2
  refine Ground.open G ?_
  intro T B D TE TW
  try (refine guard_noD D (by decide +kernel) ?_; clear D)
  have hfa : fa = 114 := by
    have h1 := mg_of KX T.g (law114 w.params)
    have h2 : mg (Str.ofString "law") = some (.ref fa) := hmg
    rw [h1] at h2
    cases h2
    rfl
  clear hmg ho hd hcd hD
  wrow_args hpre hlay hrd hwl hlo
  rename_i xs hs hlay0 hL1 hr1 hl2 as4 as3 a vs as0 hL ra w1 r0 hI hr hc1 hc2
  subst hfa
  have hx : xs.length < 1000 := by omega
  refine wpAny_mono (top_ok KX (hT8 99 (.head _)) T.g T.b T.builtins T.nolimit T.nodigits T.bmain hg (well_obj w1 hL) hI hx (law_ok xs)) (fun v s' h => ?_) fun _ _ h => h.elim
  obtain ⟨rfl, h1, h2, h3⟩ := h
  exact ⟨.inl ⟨_, .bool true, [], rfl, fun cls => rfl, .bool true, (by first | kernel_rfl | with_unfolding_all rfl | decide +kernel), fun _ => ⟨List.nodup_nil, fun a ha => by cases ha⟩⟩, h1, h2, h3⟩
