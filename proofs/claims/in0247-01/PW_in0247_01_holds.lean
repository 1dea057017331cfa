import PyProof.Rows.All
import Wide.All
import OpenK.AllK
import Wide.FinOn
import PySem.Challenge.RW_in0247_01
set_option Elab.async false
set_option compiler.extract_closed false
set_option linter.unusedVariables false
set_option maxRecDepth 10000
namespace Mine
open PySem PySem.W PyProof.Rows PySem.Calls
noncomputable abbrev Fl (h h' : Heap) : Prop := ∀ b o, h.get? b = some o → h'.get? b = some o
theorem Fl.refl (h : Heap) : Fl h h := fun _ _ e => e
theorem Fl.trans {h h' h'' : Heap} (x : Fl h h') (y : Fl h' h'') : Fl h h'' := fun b o e => y b o (x b o e)
theorem fl_push (h : Heap) (o : Obj) : Fl h (h.push o) := fun _ _ e => Heap.get?_push_of_some _ e
noncomputable def Tab (ν : Nat) (h : Heap) : Prop := ∃ ps, h.get? 57 = some (tabObj ps) ∧ (ps = #[] ∨ ∃ c', ps = #[rawInt (63 : Nat), rawInt (46 : Nat), .ref c']) ∧ ∃ o, h.get? ν = some o
noncomputable def Off (ν : Nat) (a : Addr) : Prop := a ≠ 57 ∧ a ≠ ν
structure Le (ν : Nat) (h h' : Heap) : Prop where
  keep : ∀ b o, Off ν b → h.get? b = some o → h'.get? b = some o
  frm : ∀ b o, b ≠ 57 → h.get? b = some o → ∃ sl, h'.get? b = some { o with slots := sl }
  tab : Tab ν h → Tab ν h'
theorem Fl.le {h h' : Heap} (x : Fl h h') : Le ν h h' := ⟨fun b o _ e => x b o e, fun b o _ e => ⟨o.slots, x b o e⟩, fun ⟨ps, e, r, o, n⟩ => ⟨ps, x _ _ e, r, o, x _ _ n⟩⟩
theorem Le.refl (h : Heap) : Le ν h h := (Fl.refl h).le
theorem Le.trans {h h' h'' : Heap} (x : Le ν h h') (y : Le ν h' h'') : Le ν h h'' :=
  ⟨fun b o n e => y.keep b o n (x.keep b o n e), fun b o n e => by
    obtain ⟨sl, e1⟩ := x.frm b o n e
    obtain ⟨sl', e2⟩ := y.frm b _ n e1
    exact ⟨sl', e2⟩, fun t => y.tab (x.tab t)⟩
noncomputable def vis (ν : Nat) (M : List Addr) (h : Heap) : Heap := ⟨h.objs.mapIdx fun i o => if i ∈ M ∨ i = 57 ∨ i = ν then { cls := .none, data := .freed } else o, h.life⟩
theorem vis_iff {M : List Addr} {h : Heap} {b : Addr} {o : Obj} : (vis ν M h).get? b = some o ↔ h.get? b = some o ∧ b ∉ M ∧ Off ν b := by
  rw [Heap.get?_some_iff, Heap.get?_some_iff]
  unfold vis Off
  simp only [Array.getElem?_mapIdx]
  cases e : h.objs[b]? with
  | none => simp
  | some x =>
    simp only [Option.map_some, Option.some.injEq]
    constructor
    · rintro ⟨a, f⟩
      split at a
      · subst a; cases f
      · rename_i n
        subst a
        simp only [not_or] at n
        exact ⟨⟨rfl, f⟩, n.1, n.2.1, n.2.2⟩
    · rintro ⟨⟨rfl, f⟩, n1, n2, n3⟩
      rw [if_neg (by simp only [not_or]; exact ⟨n1, n2, n3⟩)]
      exact ⟨rfl, f⟩
theorem vis_le {M : List Addr} {h : Heap} : Fl (vis ν M h) h := fun _ _ e => (vis_iff.mp e).1
theorem vis_get {M : List Addr} {h : Heap} {b : Addr} {o : Obj} (e : h.get? b = some o) (n : b ∉ M) (n' : Off ν b) : (vis ν M h).get? b = some o := vis_iff.mpr ⟨e, n, n'⟩
theorem vis_mono {M : List Addr} {h h' : Heap} (x : Le ν h h') : Fl (vis ν M h) (vis ν M h') := fun b o e =>
  let ⟨e, n, n'⟩ := vis_iff.mp e; vis_iff.mpr ⟨x.keep b o n' e, n, n'⟩
theorem vis_sub {M M' : List Addr} {h : Heap} (x : ∀ a ∈ M, a ∈ M') : Fl (vis ν M' h) (vis ν M h) := fun b o e =>
  let ⟨e, n, n'⟩ := vis_iff.mp e; vis_iff.mpr ⟨e, fun hm => n (x b hm), n'⟩
theorem vis_change {M : List Addr} {h h' : Heap} {a : Addr} (hs : Heap.SameBut a h h') (ha : a ∈ M) : Fl (vis ν M h) (vis ν M h') := fun b o e =>
  let ⟨e, n, n'⟩ := vis_iff.mp e; vis_iff.mpr ⟨(hs.2 b fun q => n (q ▸ ha)).trans e, n, n'⟩
theorem vis_more {Mut N : List Addr} {h h' : Heap} (k : Le ν h h') (n : ∀ a ∈ N, h.get? a = none) : Fl (vis ν Mut h) (vis ν (N ++ Mut) h') := fun b o e => by
  obtain ⟨e, m, n'⟩ := vis_iff.mp e
  refine vis_iff.mpr ⟨k.keep b o n' e, fun hm => ?_, n'⟩
  rcases List.mem_append.mp hm with q | q
  · rw [n b q] at e
    cases e
  · exact m q
structure VP where
  on : Heap → Value → Prop
  mono : ∀ {h h' : Heap} {v : Value}, Fl h h' → on h v → on h' v
noncomputable def vI (i : Int) : VP := ⟨fun _ v => ∃ t, v = .int i t, fun _ x => x⟩
noncomputable def vS (x : Str) : VP := ⟨fun _ v => ∃ t, v = .str x t, fun _ x => x⟩
noncomputable def vB (b : Bool) : VP := ⟨fun _ v => v = .bool b, fun _ x => x⟩
noncomputable def vN : VP := ⟨fun _ v => v = .none, fun _ x => x⟩
noncomputable def vV (u : Value) : VP := ⟨fun _ v => v = u, fun _ x => x⟩
noncomputable def All2 : List VP → Heap → List Value → Prop
  | [], _, vs => vs = []
  | P :: Ps, h, vs => ∃ v r, vs = v :: r ∧ P.on h v ∧ All2 Ps h r
theorem All2.mono {h h' : Heap} (x : Fl h h') : ∀ {Ps : List VP} {vs : List Value}, All2 Ps h vs → All2 Ps h' vs
  | [], _, e => e
  | P :: _, _, ⟨v, r, e, p, q⟩ => ⟨v, r, e, P.mono x p, q.mono x⟩
theorem All2.length {h : Heap} : ∀ {Ps : List VP} {vs : List Value}, All2 Ps h vs → vs.length = Ps.length
  | [], _, e => by cases e; rfl
  | _ :: _, _, ⟨_, _, e, _, q⟩ => by subst e; simp [q.length]
theorem list_le {h h' : Heap} {a : Addr} {vs : Array Value} (x : h.IsList a vs) (k : Fl h h') : h'.IsList a vs := let ⟨o, e, r⟩ := x; ⟨o, k _ _ e, r⟩
noncomputable def PlainTup (h : Heap) (a : Addr) (items : Array Value) : Prop := ∃ n, h.get? a = some { cls := .type "tuple", data := .seq items n }
theorem PlainTup.isTup {h : Heap} {a : Addr} {items : Array Value} (x : PlainTup h a items) : IsTup h a items := let ⟨n, e⟩ := x; ⟨_, e, rfl, n, rfl⟩
theorem plist_le {h h' : Heap} {a : Addr} {vs : Array Value} (x : h.PlainList a vs) (k : Fl h h') : h'.PlainList a vs := let ⟨o, e⟩ := x; ⟨o, k _ _ e⟩
theorem ptup_le {h h' : Heap} {a : Addr} {vs : Array Value} (x : PlainTup h a vs) (k : Fl h h') : PlainTup h' a vs := let ⟨o, e⟩ := x; ⟨o, k _ _ e⟩
noncomputable def vL (Ps : List VP) : VP := ⟨fun h v => ∃ a vs, v = .ref a ∧ h.PlainList a vs.toArray ∧ All2 Ps h vs, fun x ⟨a, vs, e, l, q⟩ => ⟨a, vs, e, plist_le l x, q.mono x⟩⟩
noncomputable def vT (Ps : List VP) : VP := ⟨fun h v => ∃ a vs, v = .ref a ∧ PlainTup h a vs.toArray ∧ All2 Ps h vs, fun x ⟨a, vs, e, l, q⟩ => ⟨a, vs, e, ptup_le l x, q.mono x⟩⟩
structure Kp (ν : Nat) (s s' : Shared) : Prop where
  ex : ∃ h' tk, s' = { s with heap := h', toks := tk } ∧ Le ν s.heap h' ∧ s.toks ≤ tk
theorem Kp.refl (s : Shared) : Kp ν s s := ⟨s.heap, s.toks, rfl, Le.refl _, Nat.le_refl _⟩
theorem Kp.le {s s' : Shared} (x : Kp ν s s') : Le ν s.heap s'.heap := by obtain ⟨h, t, rfl, k, _⟩ := x; exact k
theorem Kp.tk {s s' : Shared} (x : Kp ν s s') : s.toks ≤ s'.toks := by obtain ⟨h, t, rfl, _, k⟩ := x; exact k
theorem Kp.trans {s s' s'' : Shared} (x : Kp ν s s') (y : Kp ν s' s'') : Kp ν s s'' := by
  obtain ⟨h, t, rfl, k, q⟩ := x
  obtain ⟨h', t', rfl, k', q'⟩ := y
  exact ⟨h', t', rfl, k.trans k', Nat.le_trans q q'⟩
theorem Kp.both {s : Shared} {h : Heap} {t : Nat} (k : Le ν s.heap h) (q : s.toks ≤ t) : Kp ν s { s with heap := h, toks := t } := ⟨h, t, rfl, k, q⟩
theorem Kp.tok {s : Shared} {t : Nat} (q : s.toks ≤ t := by first | exact Nat.le_succ _ | exact Nat.le_refl _ | lia) : Kp ν s { s with toks := t } := ⟨s.heap, t, rfl, Le.refl _, q⟩
theorem Kp.heap {s : Shared} {h : Heap} (k : Le ν s.heap h) : Kp ν s { s with heap := h } := ⟨h, s.toks, rfl, k, Nat.le_refl _⟩
theorem Kp.to {s s' : Shared} (x : Kp ν s s') {h : Heap} {t : Nat} (k : Le ν s.heap h) (q : s.toks ≤ t) : Kp ν s { s' with heap := h, toks := t } := by
  obtain ⟨h', t', rfl, _, _⟩ := x
  exact ⟨h, t, rfl, k, q⟩
theorem Kp.vis {s s' : Shared} (x : Kp ν s s') (M : List Addr) : Fl (vis ν M s.heap) (vis ν M s'.heap) := vis_mono x.le
theorem ns_le {h h' : Heap} {a : Addr} {m : Str → Option Value} (x : h.Ns a m) (k : Le ν h h') (n : a ≠ 57) : h'.Ns a m := by
  obtain ⟨o, es, ep, e, d, r⟩ := x
  obtain ⟨sl, e'⟩ := k.frm _ _ n e
  exact ⟨_, es, ep, e', d, r⟩
theorem cell_le {h h' : Heap} {a : Addr} {v : Option Value} (x : h.IsCell a v) (k : Le ν h h') (n : a ≠ 57) : h'.IsCell a v := by
  obtain ⟨o, e, d⟩ := x
  obtain ⟨sl, e'⟩ := k.frm _ _ n e
  exact ⟨_, e', d⟩
section
variable (ν : Nat) (prog : Program) (w : World) (A : Around) (Mut : List Addr) (s₁ : Shared)
structure Ev (t : Sem Value) (P : VP) : Prop where
  go : ∀ s E, Kp ν s₁ s → wpAny (model prog w) A t (fun v s' => Kp ν s s' ∧ P.on (vis ν Mut s'.heap) v) E s
structure Eb (t : Sem Bool) (b : Bool) : Prop where
  go : ∀ s E, Kp ν s₁ s → wpAny (model prog w) A t (fun x s' => Kp ν s s' ∧ x = b) E s
structure Es (t : Sem (List Value)) (Ps : List VP) : Prop where
  go : ∀ s E, Kp ν s₁ s → wpAny (model prog w) A t (fun vs s' => Kp ν s s' ∧ All2 Ps (vis ν Mut s'.heap) vs) E s
end
section
variable {prog : Program} {w : World} {A : Around} {Mut : List Addr} {s₁ : Shared} {env : Env}
theorem Ev.at {t : Sem Value} {P : VP} (x : Ev ν prog w A Mut s₁ t P) {s₂ : Shared} (k : Kp ν s₁ s₂) : Ev ν prog w A Mut s₂ t P := .mk fun s E k' => x.go s E (k.trans k')
theorem Ev.imp {t : Sem Value} {P P' : VP} (x : Ev ν prog w A Mut s₁ t P) (i : ∀ h v, P.on h v → P'.on h v) : Ev ν prog w A Mut s₁ t P' :=
  .mk fun s E k => wpAny_mono (x.go s E k) (fun _ _ y => ⟨y.1, i _ _ y.2⟩) fun _ _ y => y
theorem Ev.use {t : Sem Value} {P : VP} (x : Ev ν prog w A Mut s₁ t P) {E : Value → Shared → Prop} {Q : Value → Shared → Prop} {s : Shared} (k : Kp ν s₁ s)
    (h : ∀ v s', Kp ν s s' → P.on (vis ν Mut s'.heap) v → Q v s') : wpAny (model prog w) A t Q E s := wpAny_mono (x.go s E k) (fun v s' y => h v s' y.1 y.2) fun _ _ y => y
theorem Eb.use {t : Sem Bool} {b : Bool} (x : Eb ν prog w A s₁ t b) {E : Value → Shared → Prop} {Q : Bool → Shared → Prop} {s : Shared} (k : Kp ν s₁ s)
    (h : ∀ s', Kp ν s s' → Q b s') : wpAny (model prog w) A t Q E s := wpAny_mono (x.go s E k) (fun v s' y => y.2 ▸ h s' y.1) fun _ _ y => y
theorem Ev.cInt {i : Int} {k : Nat} {pos : Pos} : Ev ν prog w A Mut s₁ (eval (.Constant (.int i) k pos) env) (vI i) :=
  .mk fun _ _ _ => wpAny_Constant_int ⟨Kp.tok, _, rfl⟩
theorem Ev.cStr {x : Str} {k : Nat} {pos : Pos} : Ev ν prog w A Mut s₁ (eval (.Constant (.str x) k pos) env) (vS x) :=
  .mk fun _ _ _ => Constant_str ⟨Kp.tok, _, rfl⟩
theorem Ev.cBool {b : Bool} {k : Nat} {pos : Pos} : Ev ν prog w A Mut s₁ (eval (.Constant (.bool b) k pos) env) (vB b) :=
  .mk fun _ _ _ => wpAny_Constant_bool ⟨Kp.refl _, rfl⟩
theorem Ev.cNone {k : Nat} {pos : Pos} : Ev ν prog w A Mut s₁ (eval (.Constant .none k pos) env) vN :=
  .mk fun _ _ _ => wpAny_Constant_none ⟨Kp.refl _, rfl⟩
noncomputable def Var (env : Env) (h : Heap) (x : Str) (v : Value) : Prop :=
  (env.kindOf x = some .local ∧ env.locals ≠ 57 ∧ ∃ m, h.Ns env.locals m ∧ m x = some v) ∨
  (env.kindOf x = some .cell ∧ ∃ c, env.cells.lookup x = some c ∧ c ≠ 57 ∧ h.IsCell c (some v))
theorem Var.keeps {h h' : Heap} {x : Str} {v : Value} (X : Var env h x v) (k : Le ν h h') : Var env h' x v := by
  rcases X with ⟨e, d, m, n, q⟩ | ⟨e, c, l, d, n⟩
  · exact .inl ⟨e, d, m, ns_le n k d, q⟩
  · exact .inr ⟨e, c, l, d, cell_le n k d⟩
theorem Var.load {M : Model} {E : Value → Shared → Prop} {Q : Value → Shared → Prop} {s : Shared} {x : Str} {v : Value} (X : Var env s.heap x v) (hk : env.scope.kind = .function) (h : Q v s) : wpAny M A (loadName env x) Q E s := by
  rcases X with ⟨e, d, m, n, q⟩ | ⟨e, c, l, d, n⟩
  · exact wpAny_loadName_local hk e n q h
  · exact wpAny_loadName_cell hk e l n h
theorem Ev.name {x : Str} {pos : Pos} {v : Value} {P : VP} (X : Var env s₁.heap x v) (p : P.on (vis ν Mut s₁.heap) v) (hk : env.scope.kind = .function := by rfl) (hd : (x == ("__debug__" : Str)) = false := by decide) :
    Ev ν prog w A Mut s₁ (eval (.Name x pos) env) P :=
  .mk fun _ _ k => wpAny_Name ((X.keeps k.le).load hk ⟨Kp.refl _, P.mono (k.vis _) p⟩) hd
theorem Ev.global {x : Str} {pos : Pos} {v : Value} {mg : Str → Option Value} {P : VP} (G : (vis ν Mut s₁.heap).Ns mainGlobals mg) (e : mg x = some v) (p : P.on (vis ν Mut s₁.heap) v)
    (hk : env.scope.kind = .function := by rfl) (hg : env.globals = mainGlobals := by rfl) (hx : env.kindOf x = some .globalImplicit := by rfl) (hd : (x == ("__debug__" : Str)) = false := by decide) :
    Ev ν prog w A Mut s₁ (eval (.Name x pos) env) P :=
  .mk fun _ _ k => Name_function_global hk hx (loadGlobal_global (by rw [hg]; exact (G.keeps (k.vis _)).keeps vis_le) e ⟨Kp.refl _, P.mono (k.vis _) p⟩) hd
theorem Ev.builtin {x : Str} {pos : Pos} {v : Value} {mg mb : Str → Option Value} (G : (vis ν Mut s₁.heap).Ns mainGlobals mg) (e : mg x = none) (B : (vis ν Mut s₁.heap).Ns builtinsNs mb) (e' : mb x = some v)
    (hk : env.scope.kind = .function := by rfl) (hg : env.globals = mainGlobals := by rfl) (hb : env.builtins = builtinsNs := by rfl) (hx : env.kindOf x = some .globalImplicit := by rfl) (hd : (x == ("__debug__" : Str)) = false := by decide) :
    Ev ν prog w A Mut s₁ (eval (.Name x pos) env) (vV v) :=
  .mk fun _ _ k => Name_function_global hk hx (loadGlobal_builtin (by rw [hg]; exact (G.keeps (k.vis _)).keeps vis_le) e (by rw [hb]; exact (B.keeps (k.vis _)).keeps vis_le) e' ⟨Kp.refl _, rfl⟩) hd
structure Op (ν : Nat) (prog : Program) (w : World) (A : Around) (Mut : List Addr) (s : Shared) (t : Sem Value) (P : VP) : Prop where
  go : ∀ E, wpAny (model prog w) A t (fun v s' => Kp ν s s' ∧ P.on (vis ν Mut s'.heap) v) E s
theorem Ev.bin {l r : PySem.Expr} {op : Operator} {pos : Pos} {P1 P2 P : VP} (h1 : Ev ν prog w A Mut s₁ (eval l env) P1) (h2 : Ev ν prog w A Mut s₁ (eval r env) P2)
    (hop : ∀ v1 v2 s, Kp ν s₁ s → P1.on (vis ν Mut s.heap) v1 → P2.on (vis ν Mut s.heap) v2 → Op ν prog w A Mut s (binaryOp op v1 v2) P) : Ev ν prog w A Mut s₁ (eval (.BinOp l op r pos) env) P :=
  .mk fun s E k => wpAny_BinOp (h1.use k fun v1 s' k1 p1 => h2.use (k.trans k1) fun v2 s'' k2 p2 =>
    wpAny_mono ((hop v1 v2 s'' ((k.trans k1).trans k2) (P1.mono (k2.vis _) p1) p2).go E) (fun _ _ y => ⟨(k1.trans k2).trans y.1, y.2⟩) fun _ _ y => y)
theorem Ev.cmp {l r : PySem.Expr} {op : CmpOp} {pos : Pos} {P1 P2 : VP} {b : Bool} (h1 : Ev ν prog w A Mut s₁ (eval l env) P1) (h2 : Ev ν prog w A Mut s₁ (eval r env) P2)
    (hop : ∀ v1 v2 s, Kp ν s₁ s → P1.on (vis ν Mut s.heap) v1 → P2.on (vis ν Mut s.heap) v2 → Op ν prog w A Mut s (compareOp op v1 v2) (vB b)) (hb : behindInMarks op r = false := by rfl) : Ev ν prog w A Mut s₁ (eval (.Compare l [op] [r] pos) env) (vB b) :=
  .mk fun s E k => wpAny_Compare1 (h1.use k fun v1 s' k1 p1 => h2.use (k.trans k1) fun v2 s'' k2 p2 =>
    wpAny_mono ((hop v1 v2 s'' ((k.trans k1).trans k2) (P1.mono (k2.vis _) p1) p2).go E) (fun _ _ y => ⟨(k1.trans k2).trans y.1, y.2⟩) fun _ _ y => y) hb
theorem Eb.cmp {l r : PySem.Expr} {op : CmpOp} {pos : Pos} {whole : Sem Value} {P1 P2 : VP} {b : Bool} (h1 : Ev ν prog w A Mut s₁ (eval l env) P1) (h2 : Ev ν prog w A Mut s₁ (eval r env) P2)
    (hop : ∀ v1 v2 s, Kp ν s₁ s → P1.on (vis ν Mut s.heap) v1 → P2.on (vis ν Mut s.heap) v2 → Op ν prog w A Mut s (compareOp op v1 v2) (vB b)) (hb : behindInMarks op r = false := by rfl) : Eb ν prog w A s₁ (isTrue (.Compare l [op] [r] pos) env whole) b :=
  .mk fun s E k => wpAny_isTrue_Compare1 (h1.use k fun v1 s' k1 p1 => h2.use (k.trans k1) fun v2 s'' k2 p2 =>
    wpAny_mono ((hop v1 v2 s'' ((k.trans k1).trans k2) (P1.mono (k2.vis _) p1) p2).go E) (fun _ _ y => by
      obtain ⟨k3, rfl⟩ := y
      exact wpAny_truthy_bool ⟨(k1.trans k2).trans k3, rfl⟩) fun _ _ y => y) hb
end
end Mine
set_option maxRecDepth 10000
namespace Mine
open PySem PySem.W PyProof.Rows PySem.Calls
noncomputable def Old (Mut : List Addr) (h : Heap) : Prop := ∀ a ∈ Mut, a ≠ 57 ∧ ∃ o, h.get? a = some o
theorem Old.le {Mut : List Addr} {h h' : Heap} (x : Old Mut h) (k : Le ν h h') : Old Mut h' := fun a m => let ⟨n, o, e⟩ := x a m; let ⟨sl, e'⟩ := k.frm _ _ n e; ⟨n, _, e'⟩
theorem Old.new {Mut : List Addr} {h : Heap} (x : Old Mut h) : h.objs.size ∉ Mut := fun m => let ⟨_, _, e⟩ := x _ m; absurd (Heap.lt_size e) (Nat.lt_irrefl _)
theorem none_of_ge {h : Heap} {a : Addr} (x : h.objs.size ≤ a) : h.get? a = none := by
  cases e : h.get? a with
  | none => rfl
  | some o => exact absurd (Heap.lt_size e) (Nat.not_lt.mpr x)
theorem Tab.lt {h : Heap} (x : Tab ν h) : 57 < h.objs.size := let ⟨_, e, _⟩ := x; Heap.lt_size e
theorem Tab.ltν {h : Heap} (x : Tab ν h) : ν < h.objs.size := let ⟨_, _, _, _, e⟩ := x; Heap.lt_size e
theorem size_ne {h : Heap} (x : Tab ν h) : Off ν h.objs.size := ⟨Nat.ne_of_gt x.lt, Nat.ne_of_gt x.ltν⟩
noncomputable def quietIt (T : String) : Bool := !(["enumerate", "zip", "dict_itemiterator", "dict_reverseitemiterator", "odict_iterator", "itertools.zip_longest", "itertools.pairwise"].contains T)
noncomputable def QuietAt (I : Addr) (h : Heap) : Prop := ∃ o T, h.get? I = some o ∧ o.cls = .type T ∧ quietIt T = true
theorem quiet_go {M : Model} {A : Around} {E : Value → Shared → Prop} {s : Shared} {target : PySem.Expr} {I : Addr} {v : Value} {Q : Unit → Shared → Prop} (q : QuietAt I s.heap) (h : Q () s) : wpAny M A (letOwnedTupleGo target (.ref I) v) Q E s := by
  obtain ⟨o, T, e, c, q⟩ := q
  have key : wpAny M A (do
    let (.ref r, .ref a) := (Value.ref I, v) | return
    let o ← load r
    match o.cls, o.data with
    | .type n, .fields vs =>
      if ["enumerate", "zip", "dict_itemiterator", "dict_reverseitemiterator", "odict_iterator", "itertools.zip_longest", "itertools.pairwise"].contains n && vs[0]? == some (rawInt a) then
        rule "for.unpacks-the-owned-tuple"
        updateField r 0 .none
    | _, _ => pure ()) Q E s := by
    cases v with
    | ref a =>
      refine wpAny_bind (wpAny_load e ?_)
      rw [c]
      cases o.data with
      | fields vs =>
        have : (["enumerate", "zip", "dict_itemiterator", "dict_reverseitemiterator", "odict_iterator", "itertools.zip_longest", "itertools.pairwise"].contains T && vs[0]? == some (rawInt a)) = false := by
          unfold quietIt at q
          rw [Bool.not_eq_true'] at q
          rw [q]; rfl
        dsimp only
        rw [this]
        exact wpAny_pure h
      | _ => exact wpAny_pure h
    | _ => exact wpAny_pure h
  unfold letOwnedTupleGo
  split
  · exact key
  · exact key
  · exact wpAny_pure h
structure Iter (ν : Nat) (prog : Program) (w : World) (A : Around) (Mut : List Addr) (s : Shared) (xv : Value) (Ps : List VP) : Prop where
  go : ∀ (E : Value → Shared → Prop) (Q : Value → Shared → Prop),
    (∀ I fp wr P St s₂, Kp ν s s₂ → (∀ b ∈ wr, s.heap.get? b = none) → (∀ i h, St i h → ∀ b ∈ wr, ∃ o, h.get? b = some o) → (∀ i h, St i h → ∀ b ∈ fp, Off ν b ∧ ∃ o, h.get? b = some o) → (∀ b ∈ fp, b < s₂.heap.objs.size) → (∀ b ∈ fp, b ∉ Mut) → (∀ i h, St i h → QuietAt I h) →
      Walks prog w A I fp wr Ps.length P St → St 0 s₂.heap →
      (∀ i v, P i v → ∀ p, Ps[i]? = some p → p.on (vis ν Mut s.heap) v) → Q (.ref I) s₂) → wpAny (model prog w) A (pyIter xv) Q E s
section
variable {prog : Program} {w : World} {A : Around} {Mut : List Addr} {s₁ s : Shared} {env : Env}
theorem All2.get {h : Heap} : ∀ {Ps : List VP} {vs : List Value}, All2 Ps h vs → ∀ {i : Nat} {p : VP} {v : Value}, Ps[i]? = some p → vs[i]? = some v → p.on h v
  | _ :: _, _, ⟨_, _, e, q, r⟩, 0, _, _, hp, hv => by subst e; cases hp; cases hv; exact q
  | _ :: _, _, ⟨_, _, e, q, r⟩, i + 1, _, _, hp, hv => by
    subst e
    rw [List.getElem?_cons_succ] at hp hv
    exact r.get hp hv
theorem All2.snoc {h : Heap} {p : VP} {v : Value} (q : p.on h v) : ∀ {Ps : List VP} {vs : List Value}, All2 Ps h vs → All2 (Ps ++ [p]) h (vs ++ [v])
  | [], _, e => by cases e; exact ⟨v, [], rfl, q, rfl⟩
  | _ :: _, _, ⟨u, r, e, a, b⟩ => by subst e; exact ⟨u, r ++ [v], rfl, a, b.snoc q⟩
theorem All2.append {h : Heap} : ∀ {Ps Qs : List VP} {vs us : List Value}, All2 Ps h vs → All2 Qs h us → All2 (Ps ++ Qs) h (vs ++ us)
  | [], _, _, _, e, f => by cases e; exact f
  | _ :: _, _, _, _, ⟨u, r, e, a, b⟩, f => by subst e; exact ⟨u, r ++ _, rfl, a, b.append f⟩
theorem Iter.list {xv : Value} {Ps : List VP} (hh : A.handled = none) (ht : Tab ν s.heap) (ho : Old Mut s.heap) (x : (vL Ps).on (vis ν Mut s.heap) xv) : Iter ν prog w A Mut s xv Ps := by
  obtain ⟨a, vs, rfl, l, q⟩ := x
  have ll := plist_le l vis_le
  obtain ⟨n, el⟩ := l
  obtain ⟨e, m, n57⟩ := vis_iff.mp el
  have lt : a < s.heap.objs.size := Heap.lt_size e
  have hl := q.length
  refine ⟨fun E Q h => wpAny_pyIter_list ll.isList ?_⟩
  have W := Walks.list (prog := prog) (w := w) hh s.heap.objs.size a (Nat.ne_of_lt lt) vs.toArray
  rw [show vs.toArray.size = Ps.length by rw [List.size_toArray]; exact hl] at W
  refine h _ _ _ _ _ _ (Kp.heap (fl_push _ _).le) (fun b hb => ?_) (fun i9 h9 st9 b hb => ?_) (fun i9 h9 st9 b hb => ?_) (fun b hb => ?_) (fun b hb => ?_) (fun i9 h9 st9 => ?_) W ⟨?_, list_le ll.isList (fl_push _ _)⟩ (fun i v hv p hp => ?_)
  · rw [List.mem_singleton.mp hb]; exact none_of_ge (Nat.le_refl _)
  · rw [List.mem_singleton.mp hb]; obtain ⟨o9, e9, _⟩ := st9.1; exact ⟨o9, e9⟩
  · rcases List.mem_cons.mp hb with rfl | hb
    · obtain ⟨o9, e9, c9, _⟩ := st9.1; exact ⟨size_ne ht, o9, e9⟩
    · rw [List.mem_singleton.mp hb]; obtain ⟨o9, e9, c9, _⟩ := st9.2; exact ⟨n57, o9, e9⟩
  · rcases List.mem_cons.mp hb with rfl | hb
    · show _ < (s.heap.push _).objs.size; rw [Heap.size_push]; exact Nat.lt_succ_self _
    · rw [List.mem_singleton.mp hb]; show _ < (s.heap.push _).objs.size; rw [Heap.size_push]; exact Nat.lt_succ_of_lt lt
  · rcases List.mem_cons.mp hb with rfl | hb
    · exact ho.new
    · rw [List.mem_singleton.mp hb]; exact m
  · obtain ⟨o9, e9, c9, _⟩ := st9.1; exact ⟨o9, _, e9, c9, by decide⟩
  · exact ⟨_, Heap.get?_push_size _ rfl, rfl, rfl⟩
  · exact q.get hp (by simpa using hv)
theorem rangeKs_get (n i : Nat) (f : Nat → VP) (p : VP) (h : ((List.range n).map f)[i]? = some p) : p = f i := by
  rw [List.getElem?_map] at h
  cases q : (List.range n)[i]? with
  | none => rw [q] at h; cases h
  | some j =>
    rw [q] at h
    have := List.getElem?_eq_some_iff.mp q
    obtain ⟨h1, h2⟩ := this
    simp only [List.getElem_range] at h2
    subst h2
    cases h
    rfl
noncomputable def vR (a : Int) (n : Nat) : VP := ⟨fun h v => ∃ r b t u t', v = .ref r ∧ IsRange h r a b 1 t u t' ∧ Builtin.Range.small a b 1 = true ∧ Builtin.Range.rangeSize a b 1 = (n : Int), fun x ⟨r, b, t, u, t', e, o, q⟩ => ⟨r, b, t, u, t', e, x _ _ o, q⟩⟩
theorem Iter.range {xv : Value} {a : Int} {n : Nat} (hh : A.handled = none) (ht : Tab ν s.heap) (ho : Old Mut s.heap) (x : (vR a n).on (vis ν Mut s.heap) xv) : Iter ν prog w A Mut s xv ((List.range n).map fun (i : Nat) => vI (a + (i : Int))) := by
  obtain ⟨r, b, t, u, t', rfl, o, hs, hn⟩ := x
  refine ⟨fun E Q h => wpAny_pyIter_range (vis_le _ _ o) hs ?_⟩
  have W := Walks.range (prog := prog) (w := w) hh s.heap.objs.size a 1 n
  refine h _ _ _ _ _ _ (Kp.heap (fl_push _ _).le) (fun b hb => ?_) (fun i9 h9 st9 b hb => ?_) (fun i9 h9 st9 b hb => ?_) (fun b hb => ?_) (fun b hb => ?_) (fun i9 h9 st9 => ?_) (by simpa using W) ?_ (fun i v hv p hp => ?_)
  · rw [List.mem_singleton.mp hb]; exact none_of_ge (Nat.le_refl _)
  · rw [List.mem_singleton.mp hb]; exact ⟨_, st9⟩
  · rw [List.mem_singleton.mp hb]; exact ⟨size_ne ht, _, st9⟩
  · rw [List.mem_singleton.mp hb]; show _ < (s.heap.push _).objs.size; rw [Heap.size_push]; exact Nat.lt_succ_self _
  · rw [List.mem_singleton.mp hb]; exact ho.new
  · exact ⟨_, _, st9, rfl, by decide⟩
  · show IsRangeIter _ _ _ _ _
    rw [hn]
    simpa using Heap.get?_push_size _ rfl
  · obtain ⟨t9, rfl⟩ := hv
    rw [rangeKs_get _ _ _ _ hp]
    exact ⟨t9, by simp⟩
theorem Iter.tuple {xv : Value} {Ps : List VP} (hh : A.handled = none) (ht : Tab ν s.heap) (ho : Old Mut s.heap) (x : (vT Ps).on (vis ν Mut s.heap) xv) : Iter ν prog w A Mut s xv Ps := by
  obtain ⟨a, vs, rfl, l, q⟩ := x
  have ll := ptup_le l vis_le
  obtain ⟨n, el⟩ := l
  obtain ⟨e, m, n57⟩ := vis_iff.mp el
  have lt : a < s.heap.objs.size := Heap.lt_size e
  have hl := q.length
  obtain ⟨n', el'⟩ := ll
  have hT : s.heap.IsTuple a vs.toArray := ⟨_, el', rfl, n', rfl⟩
  refine ⟨fun E Q h => wpAny_pyIter_tuple hT ?_⟩
  have W := Walks.tuple (prog := prog) (w := w) hh s.heap.objs.size a (Nat.ne_of_lt lt) vs.toArray
  rw [show vs.toArray.size = Ps.length by rw [List.size_toArray]; exact hl] at W
  refine h _ _ _ _ _ _ (Kp.heap (fl_push _ _).le) (fun b hb => ?_) (fun i9 h9 st9 b hb => ?_) (fun i9 h9 st9 b hb => ?_) (fun b hb => ?_) (fun b hb => ?_) (fun i9 h9 st9 => ?_) W ⟨?_, ?_⟩ (fun i v hv p hp => ?_)
  · rw [List.mem_singleton.mp hb]; exact none_of_ge (Nat.le_refl _)
  · rw [List.mem_singleton.mp hb]; obtain ⟨o9, e9, _⟩ := st9.1; exact ⟨o9, e9⟩
  · rcases List.mem_cons.mp hb with rfl | hb
    · obtain ⟨o9, e9, c9, _⟩ := st9.1; exact ⟨size_ne ht, o9, e9⟩
    · rw [List.mem_singleton.mp hb]; obtain ⟨o9, e9, c9, _⟩ := st9.2; exact ⟨n57, o9, e9⟩
  · rcases List.mem_cons.mp hb with rfl | hb
    · show _ < (s.heap.push _).objs.size; rw [Heap.size_push]; exact Nat.lt_succ_self _
    · rw [List.mem_singleton.mp hb]; show _ < (s.heap.push _).objs.size; rw [Heap.size_push]; exact Nat.lt_succ_of_lt lt
  · rcases List.mem_cons.mp hb with rfl | hb
    · exact ho.new
    · rw [List.mem_singleton.mp hb]; exact m
  · obtain ⟨o9, e9, c9, _⟩ := st9.1; exact ⟨o9, _, e9, c9, by decide⟩
  · exact ⟨_, Heap.get?_push_size _ rfl, rfl, rfl⟩
  · exact ⟨_, Heap.get?_push_of_some _ el', rfl, n', rfl⟩
  · exact q.get hp (by simpa using hv)
theorem Iter.str {x : Str} {t : Tok} (hh : A.handled = none) (ht : Tab ν s.heap) (ho : Old Mut s.heap) : Iter ν prog w A Mut s (.str x t) (x.cps.toList.map fun c => vS ⟨#[c]⟩) := by
  have hc : strIterType x = "str_ascii_iterator" ∨ strIterType x = "str_iterator" := by unfold strIterType; split <;> simp
  have key : ∀ T, strIterType x = T → (T == "frame") = false → quietIt T = true → (Walks prog w A s.heap.objs.size [s.heap.objs.size] [s.heap.objs.size] x.cps.size (SignAt x) fun i h => h.IsStrIter s.heap.objs.size T x t i) → Iter ν prog w A Mut s (.str x t) (x.cps.toList.map fun c => vS ⟨#[c]⟩) := by
    intro T hT hf hq W
    refine ⟨fun E Q h => wpAny_pyIter_strU ?_⟩
    refine h _ _ _ _ _ _ (Kp.heap (fl_push _ _).le) (fun b hb => ?_) (fun i9 h9 st9 b hb => ?_) (fun i9 h9 st9 b hb => ?_) (fun b hb => ?_) (fun b hb => ?_) (fun i9 h9 st9 => ?_) (by simpa using W) ?_ (fun i v hv p hp => ?_)
    · rw [List.mem_singleton.mp hb]; exact none_of_ge (Nat.le_refl _)
    · rw [List.mem_singleton.mp hb]; obtain ⟨o9, e9, _⟩ := st9; exact ⟨o9, e9⟩
    · rw [List.mem_singleton.mp hb]; obtain ⟨o9, e9, c9, _⟩ := st9; exact ⟨size_ne ht, o9, e9⟩
    · rw [List.mem_singleton.mp hb]; show _ < (s.heap.push _).objs.size; rw [Heap.size_push]; exact Nat.lt_succ_self _
    · rw [List.mem_singleton.mp hb]; exact ho.new
    · obtain ⟨o9, e9, c9, _⟩ := st9; exact ⟨o9, _, e9, c9, hq⟩
    · rw [hT]; exact ⟨_, Heap.get?_push_size _ rfl, rfl, rfl⟩
    · obtain ⟨c, u, hc', rfl⟩ := hv
      rw [List.getElem?_map, Array.getElem?_toList, hc'] at hp
      cases hp
      exact ⟨u, rfl⟩
  rcases hc with e | e
  · exact key _ e (by decide) (by decide) (Walks.strAscii hh _ _ _)
  · exact key _ e (by decide) (by decide) (Walks.strWide hh _ _ _)
end
end Mine
set_option maxRecDepth 10000
namespace Mine
open PySem PySem.W PyProof.Rows PySem.Calls
theorem Le.but {h h₁ h₂ : Heap} {N : List Addr} (k : Le ν h h₁) (b : ∀ b o, b ∉ N → h₁.get? b = some o → h₂.get? b = some o) (n : ∀ b ∈ N, h.get? b = none) (n57 : 57 ∉ N) : Le ν h h₂ := by
  have nin : ∀ a o, h.get? a = some o → a ∉ N := fun a o e hm => by rw [n a hm] at e; cases e
  refine ⟨fun a o m e => b _ _ (nin a o e) (k.keep a o m e), fun a o m e => ?_, fun t => ?_⟩
  · obtain ⟨sl, e'⟩ := k.frm a o m e
    exact ⟨sl, b _ _ (nin a o e) e'⟩
  · obtain ⟨ps, e, r, o, eo⟩ := k.tab t
    obtain ⟨_, _, _, o', e'⟩ := t
    exact ⟨ps, b _ _ n57 e, r, o, b _ _ (nin ν o' e') eo⟩
theorem off_of {h : Heap} {a : Addr} (t : Tab ν h) (e : h.get? a = none) : Off ν a := by
  obtain ⟨ps, e1, _, o, e2⟩ := t
  exact ⟨fun q => (by rw [q, e1] at e; cases e), fun q => (by rw [q, e2] at e; cases e)⟩
theorem vis_but {h₁ h₂ : Heap} {N Mut : List Addr} (b : ∀ b o, b ∉ N → h₁.get? b = some o → h₂.get? b = some o) : Fl (vis ν (N ++ Mut) h₁) (vis ν (N ++ Mut) h₂) := fun a o e => by
  obtain ⟨e, m, n57⟩ := vis_iff.mp e
  exact vis_iff.mpr ⟨b a o (fun hm => m (List.mem_append_left _ hm)) e, m, n57⟩
section
variable {prog : Program} {w : World} {A : Around} {Mut : List Addr} {s₁ s : Shared} {env : Env}
inductive Tgt (cenv : Env) (x : Str) (a : Addr) (h : Heap) : Prop
  | loc (hk : cenv.kindOf x = some .local) (ha : a = cenv.locals)
  | cell (hk : cenv.kindOf x = some .cell) (hl : cenv.cells.lookup x = some a) (ha : a ≠ cenv.locals) (hc : ∃ v, h.IsCell a v)
theorem Tgt.keep {cenv : Env} {x : Str} {a : Addr} {h h' : Heap} (T : Tgt cenv x a h) (k : ∀ o, h.get? a = some o → h'.get? a = some o) : Tgt cenv x a h' := by
  cases T with
  | loc hk ha => exact .loc hk ha
  | cell hk hl ha hc =>
    obtain ⟨v, o, e, d⟩ := hc
    exact .cell hk hl ha ⟨v, o, k _ e, d⟩
theorem Tgt.le {cenv : Env} {x : Str} {a : Addr} {h h' : Heap} (T : Tgt cenv x a h) (k : Le ν h h') (n : a ≠ 57) : Tgt cenv x a h' := by
  cases T with
  | loc hk ha => exact .loc hk ha
  | cell hk hl ha hc =>
    obtain ⟨v, hc⟩ := hc
    exact .cell hk hl ha ⟨v, cell_le hc k n⟩
theorem Tgt.old {cenv : Env} {x : Str} {a : Addr} {h : Heap} {m : Str → Option Value} (T : Tgt cenv x a h) (hn : h.Ns cenv.locals m) : ∃ o, h.get? a = some o := by
  cases T with
  | loc hk ha => obtain ⟨o, _, _, e, _⟩ := hn; exact ⟨o, ha ▸ e⟩
  | cell hk hl ha hc => obtain ⟨v, o, e, _⟩ := hc; exact ⟨o, e⟩
theorem store_tgt {M : Model} {E : Value → Shared → Prop} {Q : Unit → Shared → Prop} {cenv : Env} {x : Str} {a : Addr} {v : Value} {m : Str → Option Value} (T : Tgt cenv x a s.heap) (hn : s.heap.Ns cenv.locals m) (hk : cenv.scope.kind = .function)
    (hL : cenv.locals ≠ 57) (ha : a ≠ 57)
    (h : ∀ h' tk m', s.toks ≤ tk → Heap.SameBut a s.heap h' → Var cenv h' x v → h'.Ns cenv.locals m' → Tgt cenv x a h' → Q () { s with heap := h', toks := tk }) : wpAny M A (storeName cenv x v) Q E s := by
  cases T with
  | loc hl e =>
    subst e
    exact wpAny_storeName_local hl hn (fun h' hn' hs => h h' _ _ (Nat.le_succ _) hs (.inl ⟨hl, hL, _, hn', by simp⟩) hn' (.loc hl rfl)) (by rw [hk]; rfl)
  | cell hl hc hne hcell =>
    obtain ⟨v₀, hcell⟩ := hcell
    exact wpAny_storeName_cell hk hl hc hcell fun h' hv hs => h h' s.toks _ (Nat.le_refl _) hs (.inr ⟨hl, a, hc, ha, hv⟩) (hn.sameBut hs (Ne.symm hne)) (.cell hl hc hne ⟨_, hv⟩)
noncomputable abbrev Row3 := List (VP × Bool × VP)
noncomputable abbrev outsOf (items : Row3) : List VP := (items.filter (·.2.1)).map (·.2.2)
theorem outs_snoc (items : Row3) (t : VP × Bool × VP) : outsOf (items ++ [t]) = if t.2.1 = true then outsOf items ++ [t.2.2] else outsOf items := by
  unfold outsOf
  rw [List.filter_append, List.map_append]
  cases h : t.2.1 <;> simp [h]
noncomputable def Turn (ν : Nat) (prog : Program) (w : World) (A : Around) (M : List Addr) (cenv : Env) (ifs : List PySem.Expr) (elt : PySem.Expr) (t : VP × Bool × VP) (s₃ : Shared) : Prop :=
  (∀ E, wpAny (model prog w) A (forIn ifs true fun c r => if r = true then do let ok ← isTrue c cenv (eval c cenv); pure (ForInStep.yield ok) else pure (ForInStep.yield r)) (fun ok s' => Kp ν s₃ s' ∧ ok = t.2.1) E s₃) ∧
  (t.2.1 = true → Ev ν prog w A M s₃ (eval elt cenv) t.2.2)
theorem comp_loop {R : Result → Shared → Prop} {cenv : Env} {elt iter : PySem.Expr} {x : Str} {px : Pos} {ifs : List PySem.Expr} {scope : Scope} {pos : Pos} {I D a : Addr} {fp wr : List Addr} {P : Nat → Value → Prop} {St : Nat → Heap → Prop}
    {items : Row3} {s₄ : Shared} {m : Str → Option Value}
    (W : Walks prog w A I fp wr items.length P St) (hst : St 0 s₄.heap) (hwr : ∀ i h, St i h → ∀ b ∈ wr, ∃ o, h.get? b = some o)
    (hfp : ∀ i h, St i h → ∀ b ∈ fp, Off ν b ∧ ∃ o, h.get? b = some o)
    (hD : s₄.heap.PlainList D #[]) (hn : s₄.heap.Ns cenv.locals m) (T : Tgt cenv x a s₄.heap) (hkf : cenv.scope.kind = .function)
    (dDL : D ≠ cenv.locals) (dDa : D ≠ a) (dDf : D ∉ fp) (dLf : cenv.locals ∉ fp) (daf : a ∉ fp)
    (k₄ : Kp ν s s₄) (ht : Tab ν s.heap) (ho : Old Mut s.heap)
    (fresh : ∀ b ∈ wr ++ [cenv.locals, a, D], s.heap.get? b = none)
    (hP : ∀ i v, P i v → ∀ t, items[i]? = some t → t.1.on (vis ν Mut s.heap) v)
    (body : ∀ t ∈ items, ∀ s₃ v, Kp ν s s₃ → Old ((wr ++ [cenv.locals, a, D]) ++ Mut) s₃.heap → Fl (vis ν Mut s.heap) (vis ν ((wr ++ [cenv.locals, a, D]) ++ Mut) s₃.heap) → Var cenv s₃.heap x v → t.1.on (vis ν ((wr ++ [cenv.locals, a, D]) ++ Mut) s₃.heap) v →
      Turn ν prog w A ((wr ++ [cenv.locals, a, D]) ++ Mut) cenv ifs elt t s₃)
    (hsz : items.length ≤ sizeLine)
    (hR : ∀ s' ys m', Kp ν s s' → s'.heap.PlainList D ys.toArray → All2 (outsOf items) (vis ν ((wr ++ [cenv.locals, a, D]) ++ Mut) s'.heap) ys → s'.heap.Ns cenv.locals m' → R (.ok .next) s') :
    codeAny (model prog w) A (.compLoop (.ListComp elt [⟨.Name x px, iter, ifs, 0⟩] scope pos) 0 (.ref I) (.ref D) cenv) R s₄ := by
  have off : ∀ b ∈ wr ++ [cenv.locals, a, D], Off ν b := fun b hb => off_of ht (fresh b hb)
  have ne57 : ∀ b ∈ wr ++ [cenv.locals, a, D], b ≠ 57 := fun b hb => (off b hb).1
  generalize hN : wr ++ [cenv.locals, a, D] = N at *
  have iL : cenv.locals ∈ N := by subst hN; simp
  have ia : a ∈ N := by subst hN; simp
  have iD : D ∈ N := by subst hN; simp
  have iw : ∀ b ∈ wr, b ∈ N := fun b hb => by subst hN; simp [hb]
  have n57 : 57 ∉ N := fun h => ne57 57 h rfl
  have hLw : cenv.locals ∉ wr := fun h => dLf (W.sub _ h)
  have haw : a ∉ wr := fun h => daf (W.sub _ h)
  have hDw : D ∉ wr := fun h => dDf (W.sub _ h)
  refine codeAny_compLoop_tests
    (fun k s' => ∃ i ys m', Kp ν s s' ∧ St i s'.heap ∧ i ≤ items.length ∧ k = items.length + 1 - i ∧ s'.heap.PlainList D ys.toArray ∧ s'.heap.Ns cenv.locals m' ∧ Tgt cenv x a s'.heap ∧
      All2 (outsOf (items.take i)) (vis ν (N ++ Mut) s'.heap) ys) ?_ (items.length + 1)
    ⟨0, [], m, k₄, hst, Nat.zero_le _, rfl, hD, hn, T, rfl⟩
  rintro k s' ⟨i, ys, m', ks, st, hi, rfl, hD', hn', T', hys⟩
  by_cases hlt : i < items.length
  · refine wpAny_with_toks (n := s'.toks) (Nat.le_refl _) (W.item i _ _ _ hlt st fun v h₁ tk₁ hPv st₁ hk₁ tle₁ => ?_)
    have bN : ∀ b o, b ∉ N → s'.heap.get? b = some o → h₁.get? b = some o := fun b o nb e => hk₁ b o (fun hm => nb (iw b hm)) e
    have kk₁ : Kp ν s { s' with heap := h₁, toks := tk₁ } := ks.to (ks.le.but bN fresh n57) (Nat.le_trans ks.tk tle₁)
    have hn₁ : h₁.Ns cenv.locals m' := hn'.at' fun o e => hk₁ _ o hLw e
    have T₁ : Tgt cenv x a h₁ := T'.keep fun o e => hk₁ _ o haw e
    have hD₁ : h₁.PlainList D ys.toArray := hD'.at fun o e => hk₁ _ o hDw e
    refine wpAny_assign_Name (store_tgt T₁ hn₁ hkf (ne57 _ iL) (ne57 _ ia) fun h₂ tk₂ m₂ tle₂ hs₂ X₂ hn₂ T₂ => ?_)
    have bN₂ : ∀ b o, b ∉ N → h₁.get? b = some o → h₂.get? b = some o := fun b o nb e => (hs₂.2 b fun q => nb (q ▸ ia)).trans e
    have kk₂ : Kp ν s { s' with heap := h₂, toks := tk₂ } := ks.to (kk₁.le.but bN₂ fresh n57) (Nat.le_trans (Nat.le_trans ks.tk tle₁) tle₂)
    have st₂ : St (i + 1) h₂ := W.frame _ _ _ st₁ fun b hb o e => (hs₂.2 b fun q => daf (q ▸ hb)).trans e
    have hD₂ : h₂.PlainList D ys.toArray := hD₁.at fun o e => (hs₂.2 D dDa).trans e
    obtain ⟨t, ht'⟩ : ∃ t, items[i]? = some t := ⟨_, List.getElem?_eq_getElem hlt⟩
    have htm : t ∈ items := List.mem_of_getElem? ht'
    have fl₂ : Fl (vis ν Mut s.heap) (vis ν (N ++ Mut) h₂) := vis_more kk₂.le fresh
    have old₂ : Old (N ++ Mut) h₂ := fun b hb => by
      rcases List.mem_append.mp hb with q | q
      · refine ⟨ne57 b q, ?_⟩
        rw [← hN] at q
        rcases List.mem_append.mp q with q | q
        · exact hwr _ _ st₂ b q
        · rcases List.mem_cons.mp q with rfl | q
          · obtain ⟨o, _, _, e, _⟩ := hn₂; exact ⟨o, e⟩
          · rcases List.mem_cons.mp q with rfl | q
            · exact T₂.old hn₂
            · rw [List.mem_singleton.mp q]; obtain ⟨n, e⟩ := hD₂; exact ⟨_, e⟩
      · exact (ho.le kk₂.le) b q
    have bd := body t htm { s' with heap := h₂, toks := tk₂ } v kk₂ old₂ fl₂ X₂ (t.1.mono fl₂ (hP i v hPv t ht'))
    refine wpAny_mono (bd.1 _) (fun ok s₃ h₃ => ?_) fun _ _ e => e
    obtain ⟨k₃, rfl⟩ := h₃
    have kk₃ : Kp ν s s₃ := kk₂.trans k₃
    have fpk : ∀ {h h' : Heap} {j : Nat}, St j h → Le ν h h' → ∀ b ∈ fp, ∀ o, h.get? b = some o → h'.get? b = some o := fun st l b hb o e => by
      obtain ⟨n, o', e'⟩ := hfp _ _ st b hb
      exact l.keep b o n e
    have st₃ : St (i + 1) s₃.heap := W.frame _ _ _ st₂ (fpk st₂ k₃.le)
    have pl : ∀ {h h' : Heap} {xs : Array Value}, Le ν h h' → h.PlainList D xs → h'.PlainList D xs := fun l q => by
      obtain ⟨n, e⟩ := q
      exact ⟨n, l.keep _ _ (off _ iD) e⟩
    have hys₃ : All2 (outsOf (items.take i)) (vis ν (N ++ Mut) s₃.heap) ys := ((hys.mono (vis_but bN)).mono (vis_but bN₂)).mono (k₃.vis _)
    have htk : items.take (i + 1) = items.take i ++ [t] := by simp [List.take_add_one, ht']
    cases hb : t.2.1 with
    | false =>
      simp only [Bool.false_eq_true, if_false]
      refine ⟨_, ?_, i + 1, ys, m₂, kk₃, st₃, hlt, rfl, pl k₃.le hD₂, ns_le hn₂ k₃.le (ne57 _ iL), T₂.le k₃.le (ne57 _ ia), ?_⟩
      · lia
      · rw [htk, outs_snoc, hb]; exact hys₃
    | true =>
      simp only [if_true]
      refine ((bd.2 hb).use k₃ fun y s₅ k₅ py => ?_)
      have hyl : ys.length ≤ i := by
        have e1 := hys.length
        have e2 : (outsOf (items.take i)).length ≤ (items.take i).length := by unfold outsOf; rw [List.length_map]; exact List.length_filter_le _ _
        rw [List.length_take] at e2
        lia
      have st₅ : St (i + 1) s₅.heap := W.frame _ _ _ st₃ (fpk st₃ k₅.le)
      have hD₅ := pl k₅.le (pl k₃.le hD₂)
      refine wpAny_list_append_plain hD₅ (fun h₆ hl₆ hs₆ => ?_) (by simp; lia)
      have bN₆ : ∀ b o, b ∉ N → s₅.heap.get? b = some o → h₆.get? b = some o := fun b o nb e => (hs₆.2 b fun q => nb (q ▸ iD)).trans e
      refine ⟨_, ?_, i + 1, ys ++ [y], m₂, ?_, W.frame _ _ _ st₅ (fun b hb o e => (hs₆.2 b fun q => dDf (q ▸ hb)).trans e), hlt, rfl, ?_, (ns_le (ns_le hn₂ k₃.le (ne57 _ iL)) k₅.le (ne57 _ iL)).sameBut hs₆ (Ne.symm dDL),
        ((T₂.le k₃.le (ne57 _ ia)).le k₅.le (ne57 _ ia)).keep fun o e => (hs₆.2 a (Ne.symm dDa)).trans e, ?_⟩
      · lia
      · exact (kk₃.trans k₅).to (t := s₅.toks) ((kk₃.trans k₅).le.but bN₆ fresh n57) (kk₃.trans k₅).tk
      · simpa using hl₆
      · rw [htk, outs_snoc, hb]
        simp only [if_true]
        exact All2.snoc (t.2.2.mono (vis_but bN₆) py) ((hys₃.mono (k₅.vis _)).mono (vis_but bN₆))
  · have hin : i = items.length := by lia
    subst hin
    refine wpAny_with_toks (n := s'.toks) (Nat.le_refl _) (W.done _ _ _ st fun h₁ tk₁ hk₁ tle₁ => ?_)
    have bN : ∀ b o, b ∉ N → s'.heap.get? b = some o → h₁.get? b = some o := fun b o nb e => hk₁ b o (fun hm => nb (iw b hm)) e
    refine hR { s' with heap := h₁, toks := tk₁ } ys m' ?_ (hD'.at fun o e => hk₁ _ o hDw e) ?_ (hn'.at' fun o e => hk₁ _ o hLw e)
    · exact ks.to (ks.le.but bN fresh n57) (Nat.le_trans ks.tk tle₁)
    · rw [List.take_length] at hys
      exact hys.mono (vis_but bN)
end
end Mine
set_option maxRecDepth 10000
namespace Mine
open PySem PySem.W PyProof.Rows PySem.Calls
section
variable {prog : Program} {w : World} {A : Around} {Mut : List Addr} {s₁ s : Shared} {env : Env}
theorem Var.comp {scope : Scope} {cl : List (Str × Addr)} {C : Addr} {h : Heap} {x : Str} {v : Value} (X : Var env h x v) (hk : env.kindOf x = some .cell) (hk' : (compEnvC scope cl C env).kindOf x = some .cell)
    (hl : ∀ c, env.cells.lookup x = some c → cl.lookup x = some c) : Var (compEnvC scope cl C env) h x v := by
  rcases X with ⟨e, _⟩ | ⟨e, c, l, n, d⟩
  · rw [hk] at e; cases e
  · exact .inr ⟨hk', c, hl c l, n, d⟩
theorem comp_core {elt iter : PySem.Expr} {x : Str} {px : Pos} {ifs : List PySem.Expr} {scope : Scope} {pos : Pos} {cl cl' : List (Str × Addr)} {Psrc : VP} (items : Row3) {a C : Addr} {xv : Value} {E : Value → Shared → Prop} {s₀ s₂ : Shared} {I : Addr} {fp wr : List Addr} {P : Nat → Value → Prop} {St : Nat → Heap → Prop}
    (D : Addr) {s₄ : Shared} {m : Str → Option Value} (ht : Tab ν s.heap) (ho : Old Mut s.heap) (k₀ : Kp ν s s₄)
    (hkind : scope.kind = .function)
    (W : Walks prog w A I fp wr items.length P St) (hst : St 0 s₄.heap) (hwr : ∀ i h, St i h → ∀ b ∈ wr, ∃ o, h.get? b = some o)
    (hfp : ∀ i h, St i h → ∀ b ∈ fp, Off ν b ∧ ∃ o, h.get? b = some o)
    (hD : s₄.heap.PlainList D #[]) (hn : s₄.heap.Ns C m) (T : Tgt (compEnvC scope cl' C env) x a s₄.heap)
    (dDL : D ≠ C) (dDa : D ≠ a) (dDf : D ∉ fp) (dLf : C ∉ fp) (daf : a ∉ fp)
    (fresh : ∀ b ∈ wr ++ [C, a, D], s.heap.get? b = none)
    (hP : ∀ i v, P i v → ∀ t, items[i]? = some t → t.1.on (vis ν Mut s.heap) v) (hsz : items.length ≤ sizeLine)
    (body : ∀ t ∈ items, ∀ N s₃ v, Kp ν s s₃ → Old (N ++ Mut) s₃.heap → Fl (vis ν Mut s.heap) (vis ν (N ++ Mut) s₃.heap) → Var (compEnvC scope cl' C env) s₃.heap x v → t.1.on (vis ν (N ++ Mut) s₃.heap) v →
      Turn ν prog w A (N ++ Mut) (compEnvC scope cl' C env) ifs elt t s₃) :
    codeAny (model prog w) A (.compStart (.ListComp elt [⟨.Name x px, iter, ifs, 0⟩] scope pos) 0 (.ref I) (.ref D) (compEnvC scope cl' C env))
      (compPost (model prog w) A E none (fun v s' => Kp ν s s' ∧ (vL (outsOf items)).on (vis ν Mut s'.heap) v) (.ref D) C) s₄ := by
  have off : ∀ b ∈ wr ++ [C, a, D], Off ν b := fun b hb => off_of ht (fresh b hb)
  have ne57 : ∀ b ∈ wr ++ [C, a, D], b ≠ 57 := fun b hb => (off b hb).1
  have loop : codeAny (model prog w) A (.compLoop (.ListComp elt [⟨.Name x px, iter, ifs, 0⟩] scope pos) 0 (.ref I) (.ref D) (compEnvC scope cl' C env))
      (compPost (model prog w) A E none (fun v s' => Kp ν s s' ∧ (vL (outsOf items)).on (vis ν Mut s'.heap) v) (.ref D) C) s₄ := by
    refine comp_loop (cenv := compEnvC scope cl' C env) W hst hwr hfp hD hn T (by show (relabel scope env).kind = .function; exact hkind) dDL dDa dDf dLf daf k₀ ht ho fresh hP (fun t htm s₃ v k o f X p => body t htm _ s₃ v k o f X p) hsz ?_
    intro s' ys m' ks hl hys hns
    refine ⟨m', hns, fun h' hs => ⟨?_, D, ys, rfl, ?_, ?_⟩⟩
    · exact ks.to (t := s'.toks) (ks.le.but (N := [C]) (fun b o nb e => (hs.2 b fun q => nb (by rw [q]; exact .head _)).trans e) (fun b hb => by rw [List.mem_singleton.mp hb]; exact fresh _ (by simp)) (fun q => ne57 57 (by rw [List.mem_singleton.mp q]; simp) rfl)) ks.tk
    · have h1 : h'.PlainList D ys.toArray := hl.at fun o e => (hs.2 D dDL).trans e
      obtain ⟨n, e⟩ := h1
      refine ⟨n, vis_get e (fun hm => ?_) (off _ (by simp))⟩
      obtain ⟨_, o, e'⟩ := ho D hm
      rw [fresh D (by simp)] at e'
      cases e'
    · have q1 : All2 (outsOf items) (vis ν ((wr ++ [C, a, D]) ++ Mut) h') ys := hys.mono (vis_but fun b o nb e => (hs.2 b fun q => nb (by rw [q]; exact List.mem_append_right _ (.head _))).trans e)
      exact q1.mono (vis_sub fun b hb => List.mem_append_right _ hb)
  exact codeAny_compStart_list loop (W.self 0 _ _ _ hst loop)
theorem Ev.comp {elt iter : PySem.Expr} {x : Str} {px : Pos} {ifs : List PySem.Expr} {scope : Scope} {pos : Pos} {cl : List (Str × Addr)} {Psrc : VP} (items : Row3)
    (ht : Tab ν s₁.heap) (ho : Old Mut s₁.heap)
    (hsrc : Ev ν prog w A Mut s₁ (eval iter env) Psrc)
    (hit : ∀ v s, Kp ν s₁ s → Psrc.on (vis ν Mut s.heap) v → Iter ν prog w A Mut s v (items.map (·.1)))
    (body : ∀ t ∈ items, ∀ C N s₃ v, Kp ν s₁ s₃ → Old (N ++ Mut) s₃.heap → Fl (vis ν Mut s₁.heap) (vis ν (N ++ Mut) s₃.heap) → Var (compEnvC scope cl C env) s₃.heap x v → t.1.on (vis ν (N ++ Mut) s₃.heap) v →
      Turn ν prog w A (N ++ Mut) (compEnvC scope cl C env) ifs elt t s₃)
    (hsz : items.length ≤ sizeLine)
    (hclos : closureFor scope env = pure cl) (hx : scope.names.lookup x = some .local)
    (hcell : ∀ y ∈ scope.names, y.2 ≠ .cell) (hnames : ∀ y ∈ scope.names, y.2 = .local → scope.names.lookup y.1 = some .local) (hkind : scope.kind = .function := by rfl)
    (hs : ∀ x, foldedSetIterable iter env x = pure x := by intro _; rfl) :
    Ev ν prog w A Mut s₁ (eval (.ListComp elt [⟨.Name x px, iter, ifs, 0⟩] scope pos) env) (vL (outsOf items)) := .mk fun s E k => by
  rw [eval_ListComp]
  refine wpAny_comprehension_free (use := none) rfl hs hclos hkind hnames (hsrc.use k fun xv s₂ k₂ pq => ?_)
  have it := hit xv s₂ (k.trans k₂) pq
  refine it.go _ _ fun I fp wr P St s₃ k₃ hwn hwr hfp hfl hfM hqu W hst hP => ?_
  rw [List.length_map] at W
  refine wpAny_newObj_type (wpAny_newFunctionEnv hcell (by intro y hy; simp at hy) (fun h₁ hns₁ hsb₁ => ?_) hkind)
  dsimp only at hns₁ hsb₁ ⊢
  generalize hH2 : s₃.heap.push { cls := .type "list", dict := none, data := .seq ([] : List Value).toArray } = H2 at hns₁ hsb₁ ⊢
  have hC : H2.objs.size = s₃.heap.objs.size + 1 := by rw [← hH2, Heap.size_push]
  have hDC : s₃.heap.objs.size ≠ H2.objs.size := by rw [hC]; exact Nat.ne_of_lt (Nat.lt_succ_self _)
  have below : ∀ b, b < s₃.heap.objs.size → b ≠ H2.objs.size ∧ b ≠ s₃.heap.objs.size := fun b hb => ⟨by rw [hC]; exact Nat.ne_of_lt (Nat.lt_succ_of_lt hb), Nat.ne_of_lt hb⟩
  have hDf : s₃.heap.objs.size ∉ fp := fun hm => Nat.lt_irrefl _ (hfl _ hm)
  have hCf : H2.objs.size ∉ fp := fun hm => by have := hfl _ hm; rw [hC] at this; exact Nat.lt_irrefl _ (Nat.lt_of_succ_lt this)
  have old : Fl s₃.heap h₁ := fun b o e => hsb₁.extBut b o (below b (Heap.lt_size e)).1 (Heap.get?_push_of_some _ (hH2 ▸ Heap.get?_push_of_some _ e))
  have hacc : h₁.PlainList s₃.heap.objs.size #[] := ⟨_, hsb₁.extBut _ _ hDC (Heap.get?_push_of_some _ (hH2 ▸ Heap.get?_push_size _ rfl))⟩
  have hst₁ : St 0 h₁ := W.frame _ _ _ hst fun b _ o e => old b o e
  have ksz : ∀ b, s₃.heap.objs.size ≤ b → s₂.heap.get? b = none := fun b hb => by
    cases e : s₂.heap.get? b with
    | none => rfl
    | some o =>
      have h57 : b ≠ 57 := fun q => by
        have := ((ht.elim fun ps z => (k.trans (k₂.trans k₃)).le.tab ht)).lt
        lia
      obtain ⟨sl, e'⟩ := k₃.le.frm b o h57 e
      exact absurd (Heap.lt_size e') (Nat.not_lt.mpr hb)
  have core := comp_core (prog := prog) (w := w) (A := A) (Mut := Mut) (s := s₂) (env := env) (elt := elt) (iter := iter) (x := x) (px := px) (ifs := ifs) (scope := scope) (pos := pos) (cl' := cl) (cl := cl) (Psrc := Psrc) (xv := xv) (s₀ := s₂) (s₂ := s₂) (E := E) items (a := H2.objs.size) (C := H2.objs.size) (D := s₃.heap.objs.size)
    (s₄ := { s₃ with heap := h₁, toks := s₃.toks + ([] : List (Str × Value)).length }) ((k.trans k₂).le.tab ht) (ho.le (k.trans k₂).le) (k₃.trans (Kp.both old.le (Nat.le_refl _))) hkind W hst₁ hwr hfp hacc hns₁ (.loc (lookup_relabel_local hx) rfl) hDC hDC hDf hCf hCf ?_ ?_ hsz ?_
  · refine codeAny_mono core fun r s' h => ?_
    cases r with
    | ok f =>
      obtain ⟨m9, n9, h9⟩ := h
      exact ⟨m9, n9, fun h' hs' => ⟨k₂.trans (h9 h' hs').1, (h9 h' hs').2⟩⟩
    | error e => exact h
  · intro b hb
    rcases List.mem_append.mp hb with q | q
    · exact hwn b q
    · rcases List.mem_cons.mp q with rfl | q
      · exact ksz _ (by rw [hC]; exact Nat.le_succ _)
      · rcases List.mem_cons.mp q with rfl | q
        · exact ksz _ (by rw [hC]; exact Nat.le_succ _)
        · rw [List.mem_singleton.mp q]; exact ksz _ (Nat.le_refl _)
  · intro i v hv t hti
    exact hP i v hv _ (by rw [List.getElem?_map, hti]; rfl)
  · intro t htm N s₅ v k₅ o₅ f₅ X₅ p₅
    exact body t htm _ N s₅ v ((k.trans k₂).trans k₅) o₅ (((k.trans k₂).vis _).trans f₅) X₅ p₅
theorem newEnv_cells {M : Model} {E : Value → Shared → Prop} {Q : Env → Shared → Prop} {scope : Scope} {globals : Addr} {cl : List (Str × Addr)} {qual : Str}
    (hQ : Q (newEnv scope s.heap.objs.size globals (cellsFrom (s.heap.objs.size + 1) scope.names cl) qual none .none (some env) builtinsNs) { s with heap := pushCells (s.heap.push { cls := .type "dict", data := .dict #[] }) scope.names }) :
    wpAny M A (newFunctionEnv scope globals cl [] qual none .none (some env)) Q E s := by
  simp only [newFunctionEnv, Option.isSome_some, if_true]
  refine wpAny_bind (wpAny_alloc ?_)
  refine wpAny_bind (wpAny_layCells _ (fun name kind cells => by cases hkc : kind == NameKind.cell <;> simp [hkc]) _ _ _ _ ?_)
  rw [show ({ s with heap := s.heap.push { cls := .type "dict", data := .dict #[] } } : Shared).heap.objs.size = s.heap.objs.size + 1 from Heap.size_push ..]
  exact wpAny_bind (wpAny_pure (wpAny_pure hQ))
theorem Ev.compC {elt iter : PySem.Expr} {x : Str} {px : Pos} {ifs : List PySem.Expr} {scope : Scope} {pos : Pos} {cl : List (Str × Addr)} {Psrc : VP} (items : Row3)
    (ht : Tab ν s₁.heap) (ho : Old Mut s₁.heap)
    (hsrc : Ev ν prog w A Mut s₁ (eval iter env) Psrc)
    (hit : ∀ v s, Kp ν s₁ s → Psrc.on (vis ν Mut s.heap) v → Iter ν prog w A Mut s v (items.map (·.1)))
    (body : ∀ t ∈ items, ∀ C a N s₃ v, Kp ν s₁ s₃ → Old (N ++ Mut) s₃.heap → Fl (vis ν Mut s₁.heap) (vis ν (N ++ Mut) s₃.heap) → Var (compEnvC scope ((x, a) :: cl) C env) s₃.heap x v → t.1.on (vis ν (N ++ Mut) s₃.heap) v →
      Turn ν prog w A (N ++ Mut) (compEnvC scope ((x, a) :: cl) C env) ifs elt t s₃)
    (hsz : items.length ≤ sizeLine)
    (hclos : closureFor scope env = pure cl) (hcells : ∀ n, cellsFrom n scope.names cl = (x, n) :: cl) (hpush : ∀ h, pushCells h scope.names = h.push { cls := .type "cell", data := .cell none })
    (hx : ∀ C cl', (compEnvC scope cl' C env).kindOf x = some .cell) (hnames : ∀ y ∈ scope.names, y.2 = .local → scope.names.lookup y.1 = some .local) (hkind : scope.kind = .function := by rfl)
    (hs : ∀ x, foldedSetIterable iter env x = pure x := by intro _; rfl) :
    Ev ν prog w A Mut s₁ (eval (.ListComp elt [⟨.Name x px, iter, ifs, 0⟩] scope pos) env) (vL (outsOf items)) := .mk fun s E k => by
  rw [eval_ListComp]
  refine wpAny_comprehension_free (use := none) rfl hs hclos hkind hnames (hsrc.use k fun xv s₂ k₂ pq => ?_)
  have it := hit xv s₂ (k.trans k₂) pq
  refine it.go _ _ fun I fp wr P St s₃ k₃ hwn hwr hfp hfl hfM hqu W hst hP => ?_
  rw [List.length_map] at W
  refine wpAny_newObj_type (newEnv_cells ?_)
  rw [hcells, hpush]
  generalize hH2 : s₃.heap.push { cls := .type "list", dict := none, data := .seq ([] : List Value).toArray } = H2
  have hC : H2.objs.size = s₃.heap.objs.size + 1 := by rw [← hH2, Heap.size_push]
  generalize hH1 : (H2.push { cls := .type "dict", data := .dict #[] }).push { cls := .type "cell", data := .cell none } = h₁
  have hDC : s₃.heap.objs.size ≠ H2.objs.size := by lia
  have hDa : s₃.heap.objs.size ≠ H2.objs.size + 1 := by lia
  have hDf : s₃.heap.objs.size ∉ fp := fun hm => Nat.lt_irrefl _ (hfl _ hm)
  have hCf : H2.objs.size ∉ fp := fun hm => by have := hfl _ hm; lia
  have haf : H2.objs.size + 1 ∉ fp := fun hm => by have := hfl _ hm; lia
  have old2 : Fl H2 h₁ := fun b o e => by rw [← hH1]; exact Heap.get?_push_of_some _ (Heap.get?_push_of_some _ e)
  have old : Fl s₃.heap h₁ := fun b o e => old2 b o (hH2 ▸ Heap.get?_push_of_some _ e)
  have hacc : h₁.PlainList s₃.heap.objs.size #[] := ⟨0, old2 _ _ (hH2 ▸ Heap.get?_push_size _ rfl)⟩
  have hns₁ : h₁.Ns H2.objs.size fun _ => none := by
    have q := (Heap.Ns.new H2 (.type "dict")).keeps (h' := h₁) fun b o e => by rw [← hH1]; exact Heap.get?_push_of_some _ e
    exact q
  have hcell : h₁.IsCell (H2.objs.size + 1) none := by
    refine ⟨{ cls := .type "cell", data := .cell none }, ?_, rfl⟩
    rw [← hH1]
    have q := Heap.get?_push_size (H2.push { cls := .type "dict", data := .dict #[] }) (o := { cls := .type "cell", data := .cell none }) rfl
    rw [Heap.size_push] at q
    exact q
  have hst₁ : St 0 h₁ := W.frame _ _ _ hst fun b _ o e => old b o e
  have ksz : ∀ b, s₃.heap.objs.size ≤ b → s₂.heap.get? b = none := fun b hb => by
    cases e : s₂.heap.get? b with
    | none => rfl
    | some o =>
      have h57 : b ≠ 57 := fun q => by
        have := ((ht.elim fun ps z => (k.trans (k₂.trans k₃)).le.tab ht)).lt
        lia
      obtain ⟨sl, e'⟩ := k₃.le.frm b o h57 e
      exact absurd (Heap.lt_size e') (Nat.not_lt.mpr hb)
  have core := comp_core (prog := prog) (w := w) (A := A) (Mut := Mut) (s := s₂) (env := env) (elt := elt) (iter := iter) (x := x) (px := px) (ifs := ifs) (scope := scope) (pos := pos) (cl' := (x, H2.objs.size + 1) :: cl) (cl := cl) (Psrc := Psrc) (xv := xv) (s₀ := s₂) (s₂ := s₂) (E := E) items (a := H2.objs.size + 1) (C := H2.objs.size) (D := s₃.heap.objs.size)
    (s₄ := { s₃ with heap := h₁ }) ((k.trans k₂).le.tab ht) (ho.le (k.trans k₂).le) (k₃.trans (Kp.heap old.le)) hkind W hst₁ hwr hfp hacc hns₁ (.cell (hx _ _) (by simp [compEnvC]) (Nat.succ_ne_self _) ⟨_, hcell⟩) hDC hDa hDf hCf haf ?_ ?_ hsz ?_
  · refine codeAny_mono core fun r s' h => ?_
    cases r with
    | ok f =>
      obtain ⟨m9, n9, h9⟩ := h
      exact ⟨m9, n9, fun h' hs' => ⟨k₂.trans (h9 h' hs').1, (h9 h' hs').2⟩⟩
    | error e => exact h
  · intro b hb
    rcases List.mem_append.mp hb with q | q
    · exact hwn b q
    · rcases List.mem_cons.mp q with rfl | q
      · exact ksz _ (by lia)
      · rcases List.mem_cons.mp q with rfl | q
        · exact ksz _ (by lia)
        · rw [List.mem_singleton.mp q]; exact ksz _ (Nat.le_refl _)
  · intro i v hv t hti
    exact hP i v hv _ (by rw [List.getElem?_map, hti]; rfl)
  · intro t htm N s₅ v k₅ o₅ f₅ X₅ p₅
    exact body t htm _ _ N s₅ v ((k.trans k₂).trans k₅) o₅ (((k.trans k₂).vis _).trans f₅) X₅ p₅
end
end Mine
set_option maxRecDepth 10000
namespace Mine
open PySem PySem.W PyProof.Rows PySem.Calls
structure Cx (ν : Nat) (ro : Nat) (A : Around) (Mut : List Addr) (H : Heap) (s : Shared) : Prop where
  hh : A.handled = none
  dep : A.depth + ro < recursionLimit
  un : A.units + 50 * ro + 100 < cLine
  tab : Tab ν s.heap
  old : Old Mut s.heap
  base : Fl H (vis ν Mut s.heap)
  tk : H.life.soft ≤ s.toks
theorem Cx.at {ro : Nat} {A : Around} {Mut : List Addr} {H : Heap} {s s' : Shared} (x : Cx ν ro A Mut H s) (k : Kp ν s s') : Cx ν ro A Mut H s' := ⟨x.hh, x.dep, x.un, k.le.tab x.tab, x.old.le k.le, x.base.trans (k.vis _), Nat.le_trans x.tk k.tk⟩
theorem vis_push {Mut : List Addr} {h : Heap} {o : Obj} (ho : Old Mut h) (ht : Tab ν h) (hf : o.isFreed = false) : (vis ν Mut (h.push o)).get? h.objs.size = some o :=
  vis_get (Heap.get?_push_size _ hf) ho.new (size_ne ht)
section
variable {ro : Nat} {prog : Program} {w : World} {A : Around} {Mut : List Addr} {s₁ s : Shared} {env : Env} {H : Heap}
theorem Es.nil {pos : Pos} : Es ν prog w A Mut s₁ (spliced (backTo pos (starEach [] env))) [] := .mk fun s E k => spliced_none ⟨Kp.refl _, rfl⟩
theorem Es.cons {e : PySem.Expr} {rest : List PySem.Expr} {pos : Pos} {P : VP} {Ps : List VP} (h1 : Ev ν prog w A Mut s₁ (eval e env) P) (h2 : Es ν prog w A Mut s₁ (spliced (backTo pos (starEach rest env))) Ps)
    (he : starEach (e :: rest) env = (false, eval e env) :: starEach rest env := by rfl) : Es ν prog w A Mut s₁ (spliced (backTo pos (starEach (e :: rest) env))) (P :: Ps) :=
  .mk fun s E k => spliced_more (h1.use k fun v s' k1 p1 => wpAny_mono (h2.go s' E (k.trans k1)) (fun vs s'' y => ⟨k1.trans y.1, v, vs, rfl, P.mono (y.1.vis _) p1, y.2⟩) fun _ _ y => y) he
theorem newList_op (C : Cx ν ro A Mut H s) {Ps : List VP} {vs : List Value} (q : All2 Ps (vis ν Mut s.heap) vs) (hsz : vs.length ≤ sizeLine) : Op ν prog w A Mut s (newList vs) (vL Ps) := .mk fun E => by
  refine wpAny_newObj_type ⟨Kp.heap (fl_push _ _).le, _, vs, rfl, ⟨0, vis_push C.old C.tab rfl⟩, q.mono (vis_mono (fl_push _ _).le)⟩ (by show vs.toArray.size ≤ sizeLine; rw [List.size_toArray]; exact hsz)
theorem newTuple_op (C : Cx ν ro A Mut H s) {Ps : List VP} {vs : List Value} (q : All2 Ps (vis ν Mut s.heap) vs) (hsz : vs.length ≤ sizeLine) : Op ν prog w A Mut s (newTuple vs) (vT Ps) := .mk fun E => by
  refine wpAny_newTuple ⟨Kp.heap (fl_push _ _).le, _, vs, rfl, ⟨0, vis_push C.old C.tab rfl⟩, q.mono (vis_mono (fl_push _ _).le)⟩ hsz
theorem Op.use {t : Sem Value} {P : VP} (x : Op ν prog w A Mut s t P) {E : Value → Shared → Prop} {Q : Value → Shared → Prop} (h : ∀ v s', Kp ν s s' → P.on (vis ν Mut s'.heap) v → Q v s') : wpAny (model prog w) A t Q E s :=
  wpAny_mono (x.go E) (fun v s' y => h v s' y.1 y.2) fun _ _ y => y
theorem Ev.list {elts : List PySem.Expr} {pos : Pos} {Ps : List VP} (C : Cx ν ro A Mut H s₁) (h : Es ν prog w A Mut s₁ (spliced (backTo pos (starEach elts env))) Ps) (hsz : Ps.length ≤ sizeLine) : Ev ν prog w A Mut s₁ (eval (.List elts pos) env) (vL Ps) :=
  .mk fun s E k => List_ (wpAny_mono (h.go s E k) (fun vs s' y => (newList_op (C.at (k.trans y.1)) y.2 (y.2.length ▸ hsz)).use fun v s'' k2 p => ⟨y.1.trans k2, p⟩) fun _ _ y => y)
theorem Ev.tuple {elts : List PySem.Expr} {n : Nat} {pos : Pos} {Ps : List VP} (C : Cx ν ro A Mut H s₁) (h : Es ν prog w A Mut s₁ (spliced (backTo pos (starEach elts env))) Ps) (hsz : Ps.length ≤ sizeLine) : Ev ν prog w A Mut s₁ (eval (.Tuple elts n pos) env) (vT Ps) :=
  .mk fun s E k => Tuple_ (wpAny_mono (h.go s E k) (fun vs s' y => (newTuple_op (C.at (k.trans y.1)) y.2 (y.2.length ▸ hsz)).use fun v s'' k2 p => ⟨y.1.trans k2, p⟩) fun _ _ y => y)
theorem Ev.sub {value slice : PySem.Expr} {pos : Pos} {P1 P2 P : VP} {T id : String} (h1 : Ev ν prog w A Mut s₁ (eval value env) P1) (h2 : Ev ν prog w A Mut s₁ (eval slice env) P2) (slot : typeLookup (.type T) "__getitem__" = pure (some (.builtin id)))
    (hop : ∀ v1 v2 s, Kp ν s₁ s → P1.on (vis ν Mut s.heap) v1 → P2.on (vis ν Mut s.heap) v2 → s.TypeIs v1 T ∧ Op ν prog w A Mut s (getItem v1 v2) P)
    (hs : ∃ f : Value → Value → List Value, ∀ o i, subscripted slice false o i = operate (f o i) (getItem o i)) : Ev ν prog w A Mut s₁ (eval (.Subscript value slice pos) env) P :=
  .mk fun s E k => Subscript_ (h1.use k fun v1 s' k1 p1 => h2.use (k.trans k1) fun v2 s'' k2 p2 => by
    obtain ⟨hT, ho⟩ := hop v1 v2 s'' ((k.trans k1).trans k2) (P1.mono (k2.vis _) p1) p2
    obtain ⟨f, hf⟩ := hs
    exact tail_any hT slot (wpAny_mono (ho.go E) (fun _ _ y => ⟨(k1.trans k2).trans y.1, y.2⟩) fun _ _ y => y) (hf _ _))
noncomputable def Kept (h : Heap) (f : Value) : Prop := ∀ M, ∃ k, (k = Keeper.frame ∨ k = Keeper.machine ∨ k = Keeper.boundFrame) ∧ Looks M h (keeperOf f) k
theorem Kept.builtin {h : Heap} {id : String} : Kept h (.builtin id) := fun M => ⟨.machine, .inr (.inl rfl), Looks.of_pure rfl⟩
theorem Kept.type {h : Heap} {id : String} : Kept h (.type id) := fun M => ⟨.machine, .inr (.inl rfl), Looks.of_pure rfl⟩
theorem Kept.fn {h : Heap} {a : Addr} (x : FnAt a h) : Kept h (.ref a) := fun M => keeps_F h x
theorem Kept.le {h h' : Heap} {f : Value} (x : Kept h f) (k : Fl h h') : Kept h' f := fun M => let ⟨c, a, l⟩ := x M; ⟨c, a, l.keeps k⟩
theorem Ev.callW {f : Value} {first : List Value} {e : PySem.Expr} {rest : List PySem.Expr} {pos : Pos} {Ps : List VP} {P : VP} (hk : Kept (vis ν Mut s₁.heap) f) (ha : Es ν prog w A Mut s₁ (spliced (backTo pos (starEach (e :: rest) env))) Ps)
    (hcall : ∀ vs s, Kp ν s₁ s → All2 Ps (vis ν Mut s.heap) vs → Op ν prog w A Mut s (call f (first ++ vs)) P)
    (he : starEach (e :: rest) env = (false, eval e env) :: starEach rest env := by rfl) (hp : (backTo pos (starEach rest env)).any (·.1) = false := by rfl) : Ev ν prog w A Mut s₁ (callWith pos f first (backTo pos (starEach (e :: rest) env)) []) P := .mk fun s E k => by
  refine callWith_of (P := fun h => Kept h f) (by rw [he]; show ((false || (backTo pos (starEach rest env)).any (·.1)) || false) = false; rw [hp]; rfl) (fun h x => x _) ?_
  have h2 := ha.go s E k
  rw [he] at h2 ⊢
  exact evalArgs_plain (wpAny_mono h2 (fun vs s' y => ⟨(hk.le ((k.trans y.1).vis _)).le vis_le, (hcall vs s' (k.trans y.1) y.2).use fun v s'' k2 p => ⟨y.1.trans k2, p⟩⟩) fun _ _ y => y)
theorem Ev.callW0 {f : Value} {first : List Value} {pos : Pos} {P : VP} (hk : Kept (vis ν Mut s₁.heap) f)
    (hcall : ∀ s, Kp ν s₁ s → Op ν prog w A Mut s (call f (first ++ [])) P) : Ev ν prog w A Mut s₁ (callWith pos f first (backTo pos (starEach [] env)) []) P := .mk fun s E k => by
  refine callWith_of (P := fun h => Kept h f) rfl (fun h x => x _) ?_
  exact evalArgs_nil3 ⟨(hk.le (k.vis _)).le vis_le, (hcall s k).use fun v s'' k2 p => ⟨k2, p⟩⟩
theorem Ev.callN {x : Str} {np pos : Pos} {f : Value} {e : PySem.Expr} {rest : List PySem.Expr} {Ps : List VP} {P : VP} (hf : Ev ν prog w A Mut s₁ (eval (.Name x np) env) (vV f)) (hk : Kept (vis ν Mut s₁.heap) f)
    (ha : Es ν prog w A Mut s₁ (spliced (backTo pos (starEach (e :: rest) env))) Ps)
    (hcall : ∀ vs s, Kp ν s₁ s → All2 Ps (vis ν Mut s.heap) vs → Op ν prog w A Mut s (call f vs) P)
    (he : starEach (e :: rest) env = (false, eval e env) :: starEach rest env := by rfl) (hp : (backTo pos (starEach rest env)).any (·.1) = false := by rfl) : Ev ν prog w A Mut s₁ (eval (.Call (.Name x np) (e :: rest) [] pos) env) P :=
  .mk fun s E k => wpAny_Call_NameR (hf.use k fun v s' k1 p1 => by
    obtain rfl : v = f := p1
    exact wpAny_mono (Ev.callW (first := []) hk ha hcall he hp |>.go s' E (k.trans k1)) (fun _ _ y => ⟨k1.trans y.1, y.2⟩) fun _ _ y => y)
theorem Ev.callN0 {x : Str} {np pos : Pos} {f : Value} {P : VP} (hf : Ev ν prog w A Mut s₁ (eval (.Name x np) env) (vV f)) (hk : Kept (vis ν Mut s₁.heap) f)
    (hcall : ∀ s, Kp ν s₁ s → Op ν prog w A Mut s (call f []) P) : Ev ν prog w A Mut s₁ (eval (.Call (.Name x np) [] [] pos) env) P :=
  .mk fun s E k => wpAny_Call_NameR (hf.use k fun v s' k1 p1 => by
    obtain rfl : v = f := p1
    exact wpAny_mono (Ev.callW0 (first := []) (env := env) (pos := pos) hk hcall |>.go s' E (k.trans k1)) (fun _ _ y => ⟨k1.trans y.1, y.2⟩) fun _ _ y => y)
theorem Ev.meth {o e : PySem.Expr} {rest : List PySem.Expr} {name : Str} {apos pos : Pos} {T id : String} {Po : VP} {Ps : List VP} {P : VP} (pa : PlainAttrs T) (sl : Slot T name id) (ty : typeOf (.builtin id) = pure (.type "method_descriptor"))
    (ho : Ev ν prog w A Mut s₁ (eval o env) Po) (hT : ∀ v s, Kp ν s₁ s → Po.on (vis ν Mut s.heap) v → s.TypeIs v T ∧ ∀ a, v = .ref a → ∃ ob, s.heap.get? a = some ob ∧ ob.dict = none)
    (ha : Es ν prog w A Mut s₁ (spliced (backTo pos (starEach (e :: rest) env))) Ps)
    (hcall : ∀ v vs s, Kp ν s₁ s → Po.on (vis ν Mut s.heap) v → All2 Ps (vis ν Mut s.heap) vs → Op ν prog w A Mut s (call (.builtin id) (v :: vs)) P)
    (hb : attributeBase o name env (eval o env) = eval o env := by rfl)
    (hform : ((((backTo pos (starEach (e :: rest) env)).all fun x => !x.fst) && (backToKw pos (keywordEach [] env)).all fun x => x.fst.isSome) && decide (((e :: rest).length + ([] : List PySem.Keyword).length + if ([] : List PySem.Keyword).isEmpty = true then 0 else 1) < 30)) = true := by rfl)
    (hl : (apos.endLine == pos.line) = true := by rfl)
    (he : starEach (e :: rest) env = (false, eval e env) :: starEach rest env := by rfl) (hp : (backTo pos (starEach rest env)).any (·.1) = false := by rfl) : Ev ν prog w A Mut s₁ (eval (.Call (.Attribute o name apos) (e :: rest) [] pos) env) P :=
  .mk fun s E k => wpAny_Call_method_late hb hform hl rfl (ho.use k fun v s' k1 p1 => by
    obtain ⟨t1, t2⟩ := hT v s' (k.trans k1) p1
    refine ⟨T, id, pa, sl, ty, t1, t2, ?_⟩
    have z : Ev ν prog w A Mut s' (callWith pos (.builtin id) [v] (backTo pos (starEach (e :: rest) env)) []) P :=
      Ev.callW Kept.builtin (.mk fun s9 E9 k9 => ha.go s9 E9 ((k.trans k1).trans k9)) (fun vs s9 k9 q9 => hcall v vs s9 ((k.trans k1).trans k9) (Po.mono (k9.vis _) p1) q9) he hp
    exact wpAny_mono (z.go s' E (Kp.refl _)) (fun _ _ y => ⟨k1.trans y.1, y.2⟩) fun _ _ y => y)
theorem Ev.ifExp {test body orelse : PySem.Expr} {pos : Pos} {b : Bool} {P : VP} (ht : Eb ν prog w A s₁ (isTrue test env (eval test env)) b) (h1 : b = true → Ev ν prog w A Mut s₁ (eval body env) P) (h2 : b = false → Ev ν prog w A Mut s₁ (eval orelse env) P) :
    Ev ν prog w A Mut s₁ (eval (.IfExp test body orelse pos) env) P := .mk fun s E k => wpAny_IfExp (ht.use k fun s' k1 => by
  cases b with
  | true => exact wpAny_mono ((h1 rfl).go s' E (k.trans k1)) (fun _ _ y => ⟨k1.trans y.1, y.2⟩) fun _ _ y => y
  | false => exact wpAny_mono ((h2 rfl).go s' E (k.trans k1)) (fun _ _ y => ⟨k1.trans y.1, y.2⟩) fun _ _ y => y)
theorem Eb.val {e : PySem.Expr} {whole : Sem Value} {P : VP} {b : Bool} (h : Ev ν prog w A Mut s₁ whole P) (ht : ∀ v s, Kp ν s₁ s → P.on (vis ν Mut s.heap) v → ∀ E, wpAny (model prog w) A (truthy v) (fun x s' => Kp ν s s' ∧ x = b) E s)
    (hf : isTrue e env whole = (do let v ← whole; standAt e.pos; holding [v] (truthy v)) := by rfl) : Eb ν prog w A s₁ (isTrue e env whole) b :=
  .mk fun s E k => wpAny_isTrue_value (h.use k fun v s' k1 p => wpAny_mono (ht v s' (k.trans k1) p E) (fun _ _ y => ⟨k1.trans y.1, y.2⟩) fun _ _ y => y) hf
theorem Eb.bool {e : PySem.Expr} {whole : Sem Value} {b : Bool} (h : Ev ν prog w A Mut s₁ whole (vB b)) (hf : isTrue e env whole = (do let v ← whole; standAt e.pos; holding [v] (truthy v)) := by rfl) : Eb ν prog w A s₁ (isTrue e env whole) b :=
  Eb.val h (fun v s k p E => by obtain rfl : v = .bool b := p; exact wpAny_truthy_bool ⟨Kp.refl _, rfl⟩) hf
end
end Mine
set_option maxRecDepth 10000
namespace Mine
open PySem PySem.W PyProof.Rows PySem.Calls
theorem strsOf {h : Heap} : ∀ {ys : List Str} {vs : List Value}, All2 (ys.map vS) h vs → StrsAre vs ys
  | [], _, e => by cases e; exact .nil
  | y :: r, _, ⟨v, vs, e, ⟨t, p⟩, q⟩ => by subst e; subst p; exact .cons _ _ (strsOf q)
theorem intsOf {h : Heap} : ∀ {ys : List Int} {vs : List Value}, All2 (ys.map vI) h vs → IntsAre vs ys
  | [], _, e => by cases e; exact .nil
  | y :: r, _, ⟨v, vs, e, ⟨t, p⟩, q⟩ => by subst e; subst p; exact .cons _ _ (intsOf q)
theorem ofStrs {h : Heap} : ∀ {ys : List Str} {vs : List Value}, StrsAre vs ys → All2 (ys.map vS) h vs
  | _, _, .nil => rfl
  | _, _, .cons x t r => ⟨_, _, rfl, ⟨t, rfl⟩, ofStrs r⟩
section
variable {ro : Nat} {prog : Program} {w : World} {A : Around} {Mut : List Addr} {s₁ s : Shared} {env : Env} {H : Heap} {l r : PySem.Expr} {pos : Pos} {whole : Sem Value}
theorem Ev.addI {a b : Int} (h1 : Ev ν prog w A Mut s₁ (eval l env) (vI a)) (h2 : Ev ν prog w A Mut s₁ (eval r env) (vI b)) : Ev ν prog w A Mut s₁ (eval (.BinOp l .Add r pos) env) (vI (a + b)) :=
  h1.bin h2 fun v1 v2 s k p1 p2 => .mk fun E => by obtain ⟨t, rfl⟩ := p1; obtain ⟨u, rfl⟩ := p2; exact add_int ⟨Kp.tok, _, rfl⟩
theorem Ev.subI {a b : Int} (h1 : Ev ν prog w A Mut s₁ (eval l env) (vI a)) (h2 : Ev ν prog w A Mut s₁ (eval r env) (vI b)) : Ev ν prog w A Mut s₁ (eval (.BinOp l .Sub r pos) env) (vI (a - b)) :=
  h1.bin h2 fun v1 v2 s k p1 p2 => .mk fun E => by obtain ⟨t, rfl⟩ := p1; obtain ⟨u, rfl⟩ := p2; exact sub_int ⟨Kp.tok, _, rfl⟩
theorem Ev.mulI {a b : Int} (hm : IntMulOk a b) (h1 : Ev ν prog w A Mut s₁ (eval l env) (vI a)) (h2 : Ev ν prog w A Mut s₁ (eval r env) (vI b)) : Ev ν prog w A Mut s₁ (eval (.BinOp l .Mult r pos) env) (vI (a * b)) :=
  h1.bin h2 fun v1 v2 s k p1 p2 => .mk fun E => by obtain ⟨t, rfl⟩ := p1; obtain ⟨u, rfl⟩ := p2; exact mul_int ⟨Kp.tok, _, rfl⟩ hm
theorem Ev.divI {a b : Int} (hh : A.handled = none) (hb : b ≠ 0) (hp : Builtin.divisionGoesByPylong a b = false) (h1 : Ev ν prog w A Mut s₁ (eval l env) (vI a)) (h2 : Ev ν prog w A Mut s₁ (eval r env) (vI b)) : Ev ν prog w A Mut s₁ (eval (.BinOp l .FloorDiv r pos) env) (vI (a.fdiv b)) :=
  h1.bin h2 fun v1 v2 s k p1 p2 => .mk fun E => by obtain ⟨t, rfl⟩ := p1; obtain ⟨u, rfl⟩ := p2; exact floordiv_int_or hh (fun e => absurd e hb) (fun _ => ⟨Kp.tok, _, rfl⟩) (fun _ => .inl hp)
theorem Ev.modI {a b : Int} (hb : b ≠ 0) (h1 : Ev ν prog w A Mut s₁ (eval l env) (vI a)) (h2 : Ev ν prog w A Mut s₁ (eval r env) (vI b)) : Ev ν prog w A Mut s₁ (eval (.BinOp l .Mod r pos) env) (vI (a.fmod b)) :=
  h1.bin h2 fun v1 v2 s k p1 p2 => .mk fun E => by obtain ⟨t, rfl⟩ := p1; obtain ⟨u, rfl⟩ := p2; exact mod_int' hb ⟨Kp.tok, _, rfl⟩
theorem Ev.powI {a b : Int} (h0 : 0 ≤ b) (h1' : b ≤ 1000000) (ha : a.natAbs < 2 ^ 64) (h1 : Ev ν prog w A Mut s₁ (eval l env) (vI a)) (h2 : Ev ν prog w A Mut s₁ (eval r env) (vI b)) : Ev ν prog w A Mut s₁ (eval (.BinOp l .Pow r pos) env) (vI (a ^ b.toNat)) :=
  h1.bin h2 fun v1 v2 s k p1 p2 => .mk fun E => by obtain ⟨t, rfl⟩ := p1; obtain ⟨u, rfl⟩ := p2; exact pow_int_small h0 h1' ha ⟨Kp.tok, _, rfl⟩
theorem Ev.addS {x y : Str} (hf : x.length + y.length ≤ sizeLine) (h1 : Ev ν prog w A Mut s₁ (eval l env) (vS x)) (h2 : Ev ν prog w A Mut s₁ (eval r env) (vS y)) : Ev ν prog w A Mut s₁ (eval (.BinOp l .Add r pos) env) (vS (x ++ y)) :=
  h1.bin h2 fun v1 v2 s k p1 p2 => .mk fun E => by obtain ⟨t, rfl⟩ := p1; obtain ⟨u, rfl⟩ := p2; exact wpAny_with_toks (Nat.le_refl _) (add_str (fun t' tk ht => ⟨Kp.tok ht, _, rfl⟩) hf)
theorem Ev.addL {Ps Qs : List VP} (C : Cx ν ro A Mut H s₁) (hf : Ps.length + Qs.length ≤ sizeLine) (h1 : Ev ν prog w A Mut s₁ (eval l env) (vL Ps)) (h2 : Ev ν prog w A Mut s₁ (eval r env) (vL Qs)) : Ev ν prog w A Mut s₁ (eval (.BinOp l .Add r pos) env) (vL (Ps ++ Qs)) :=
  h1.bin h2 fun v1 v2 s k p1 p2 => .mk fun E => by
    obtain ⟨a, vs, rfl, l1, q1⟩ := p1
    obtain ⟨b, us, rfl, l2, q2⟩ := p2
    obtain ⟨n1, e1⟩ := plist_le l1 vis_le
    obtain ⟨n2, e2⟩ := plist_le l2 vis_le
    have C' := C.at k
    have e : vs.toArray ++ us.toArray = (vs ++ us).toArray := by simp
    refine concat_meets ⟨_, e1, rfl⟩ ⟨_, e2, rfl⟩ noFill_list_add seq_list_add PySem.F.slot_list_add PySem.F.entry_list_add (PySem.F.args_list_add_2 _ _) (list_addW a b vs.toArray us.toArray n1 n2 none none #[] #[] (by have := q1.length; have := q2.length; simp; lia)) ⟨e1, e2, ?_⟩
    rw [e]
    exact ⟨Kp.heap (fl_push _ _).le, _, _, rfl, ⟨0, vis_push C'.old C'.tab rfl⟩, (q1.append q2).mono (vis_mono (fl_push _ _).le)⟩
theorem Eb.eqS {x y : Str} (h1 : Ev ν prog w A Mut s₁ (eval l env) (vS x)) (h2 : Ev ν prog w A Mut s₁ (eval r env) (vS y)) (hb : behindInMarks .Eq r = false := by rfl) : Eb ν prog w A s₁ (isTrue (.Compare l [.Eq] [r] pos) env whole) (x == y) :=
  Eb.cmp h1 h2 (fun v1 v2 s k p1 p2 => .mk fun E => by obtain ⟨t, rfl⟩ := p1; obtain ⟨u, rfl⟩ := p2; exact eq_str ⟨Kp.refl _, rfl⟩) hb
theorem Eb.neS {x y : Str} (h1 : Ev ν prog w A Mut s₁ (eval l env) (vS x)) (h2 : Ev ν prog w A Mut s₁ (eval r env) (vS y)) (hb : behindInMarks .NotEq r = false := by rfl) : Eb ν prog w A s₁ (isTrue (.Compare l [.NotEq] [r] pos) env whole) (x != y) :=
  Eb.cmp h1 h2 (fun v1 v2 s k p1 p2 => .mk fun E => by obtain ⟨t, rfl⟩ := p1; obtain ⟨u, rfl⟩ := p2; exact ne_str ⟨Kp.refl _, rfl⟩) hb
theorem Ev.eqS {x y : Str} (h1 : Ev ν prog w A Mut s₁ (eval l env) (vS x)) (h2 : Ev ν prog w A Mut s₁ (eval r env) (vS y)) (hb : behindInMarks .Eq r = false := by rfl) : Ev ν prog w A Mut s₁ (eval (.Compare l [.Eq] [r] pos) env) (vB (x == y)) :=
  Ev.cmp h1 h2 (fun v1 v2 s k p1 p2 => .mk fun E => by obtain ⟨t, rfl⟩ := p1; obtain ⟨u, rfl⟩ := p2; exact eq_str ⟨Kp.refl _, rfl⟩) hb
theorem Eb.ltI {x y : Int} (h1 : Ev ν prog w A Mut s₁ (eval l env) (vI x)) (h2 : Ev ν prog w A Mut s₁ (eval r env) (vI y)) (hb : behindInMarks .Lt r = false := by rfl) : Eb ν prog w A s₁ (isTrue (.Compare l [.Lt] [r] pos) env whole) (decide (x < y)) :=
  Eb.cmp h1 h2 (fun v1 v2 s k p1 p2 => .mk fun E => by obtain ⟨t, rfl⟩ := p1; obtain ⟨u, rfl⟩ := p2; exact lt_int ⟨Kp.refl _, rfl⟩) hb
theorem Eb.gtI {x y : Int} (h1 : Ev ν prog w A Mut s₁ (eval l env) (vI x)) (h2 : Ev ν prog w A Mut s₁ (eval r env) (vI y)) (hb : behindInMarks .Gt r = false := by rfl) : Eb ν prog w A s₁ (isTrue (.Compare l [.Gt] [r] pos) env whole) (decide (y < x)) :=
  Eb.cmp h1 h2 (fun v1 v2 s k p1 p2 => .mk fun E => by obtain ⟨t, rfl⟩ := p1; obtain ⟨u, rfl⟩ := p2; exact gt_int ⟨Kp.refl _, rfl⟩) hb
theorem Eb.geI {x y : Int} (h1 : Ev ν prog w A Mut s₁ (eval l env) (vI x)) (h2 : Ev ν prog w A Mut s₁ (eval r env) (vI y)) (hb : behindInMarks .GtE r = false := by rfl) : Eb ν prog w A s₁ (isTrue (.Compare l [.GtE] [r] pos) env whole) (decide (y ≤ x)) :=
  Eb.cmp h1 h2 (fun v1 v2 s k p1 p2 => .mk fun E => by obtain ⟨t, rfl⟩ := p1; obtain ⟨u, rfl⟩ := p2; exact ge_int ⟨Kp.refl _, rfl⟩) hb
theorem Eb.eqI {x y : Int} (h1 : Ev ν prog w A Mut s₁ (eval l env) (vI x)) (h2 : Ev ν prog w A Mut s₁ (eval r env) (vI y)) (hb : behindInMarks .Eq r = false := by rfl) : Eb ν prog w A s₁ (isTrue (.Compare l [.Eq] [r] pos) env whole) (x == y) :=
  Eb.cmp h1 h2 (fun v1 v2 s k p1 p2 => .mk fun E => by obtain ⟨t, rfl⟩ := p1; obtain ⟨u, rfl⟩ := p2; exact eq_int ⟨Kp.refl _, rfl⟩) hb
theorem Ev.eqI {x y : Int} (h1 : Ev ν prog w A Mut s₁ (eval l env) (vI x)) (h2 : Ev ν prog w A Mut s₁ (eval r env) (vI y)) (hb : behindInMarks .Eq r = false := by rfl) : Ev ν prog w A Mut s₁ (eval (.Compare l [.Eq] [r] pos) env) (vB (x == y)) :=
  Ev.cmp h1 h2 (fun v1 v2 s k p1 p2 => .mk fun E => by obtain ⟨t, rfl⟩ := p1; obtain ⟨u, rfl⟩ := p2; exact eq_int ⟨Kp.refl _, rfl⟩) hb
theorem op_inL {y : Str} {ys : List Str} {v1 v2 : Value} (p1 : (vS y).on (vis ν Mut s.heap) v1) (p2 : (vL (ys.map vS)).on (vis ν Mut s.heap) v2) : Op ν prog w A Mut s (compareOp .In v1 v2) (vB (ys.any (· == y))) := .mk fun E => by
  obtain ⟨t, rfl⟩ := p1
  obtain ⟨a, vs, rfl, l, q⟩ := p2
  exact in_list_strs (plist_le l vis_le).isList (strsOf q) ⟨Kp.refl _, rfl⟩
theorem op_ninL {y : Str} {ys : List Str} {v1 v2 : Value} (p1 : (vS y).on (vis ν Mut s.heap) v1) (p2 : (vL (ys.map vS)).on (vis ν Mut s.heap) v2) : Op ν prog w A Mut s (compareOp .NotIn v1 v2) (vB (!ys.any (· == y))) := .mk fun E => by
  obtain ⟨t, rfl⟩ := p1
  obtain ⟨a, vs, rfl, l, q⟩ := p2
  exact notin_list_strs (plist_le l vis_le).isList (strsOf q) ⟨Kp.refl _, rfl⟩
theorem op_inI {y : Int} {ys : List Int} {v1 v2 : Value} (p1 : (vI y).on (vis ν Mut s.heap) v1) (p2 : (vL (ys.map vI)).on (vis ν Mut s.heap) v2) : Op ν prog w A Mut s (compareOp .In v1 v2) (vB (ys.any (· == y))) := .mk fun E => by
  obtain ⟨t, rfl⟩ := p1
  obtain ⟨a, vs, rfl, l, q⟩ := p2
  exact in_list_ints (plist_le l vis_le).isList (intsOf q) ⟨Kp.refl _, rfl⟩
theorem Ev.itemL {Ps : List VP} {k : Int} {P : VP} (h0 : 0 ≤ k) (hk : k < 2 ^ 63) (hp : Ps[k.toNat]? = some P) (h1 : Ev ν prog w A Mut s₁ (eval l env) (vL Ps)) (h2 : Ev ν prog w A Mut s₁ (eval r env) (vI k))
    (hs : ∃ f : Value → Value → List Value, ∀ o i, subscripted r false o i = operate (f o i) (getItem o i) := by exact ⟨fun o i => [o, i], fun _ _ => rfl⟩) : Ev ν prog w A Mut s₁ (eval (.Subscript l r pos) env) P :=
  Ev.sub h1 h2 slot_list_getitem.lookup (fun v1 v2 s k' p1 p2 => by
    obtain ⟨a, vs, rfl, l, q⟩ := p1
    obtain ⟨t, rfl⟩ := p2
    have hl := plist_le l vis_le
    obtain ⟨v, hv⟩ : ∃ v, vs[k.toNat]? = some v := by
      have := (List.getElem?_eq_some_iff.mp hp).1
      exact ⟨_, List.getElem?_eq_getElem (by rw [q.length]; exact this)⟩
    exact ⟨hl.isList.typeIs, .mk fun E => wpAny_getItem_list hl.isList h0 hk (by simpa using hv) ⟨Kp.refl _, q.get hp hv⟩⟩) hs
theorem Ev.itemS {x : Str} {k : Int} {c : Nat} (h0 : 0 ≤ k) (hk : k < 2 ^ 63) (hc : x.cps[k.toNat]? = some c) (h1 : Ev ν prog w A Mut s₁ (eval l env) (vS x)) (h2 : Ev ν prog w A Mut s₁ (eval r env) (vI k))
    (hs : ∃ f : Value → Value → List Value, ∀ o i, subscripted r false o i = operate (f o i) (getItem o i) := by exact ⟨fun o i => [o, i], fun _ _ => rfl⟩) : Ev ν prog w A Mut s₁ (eval (.Subscript l r pos) env) (vS ⟨#[c]⟩) :=
  Ev.sub h1 h2 PySem.F.slot_str_getitem.lookup (fun v1 v2 s k' p1 p2 => by
    obtain ⟨t, rfl⟩ := p1
    obtain ⟨u, rfl⟩ := p2
    have hlt := (Array.getElem?_eq_some_iff.mp hc).1
    refine ⟨typeIs_str _ _ _, .mk fun E => PySem.P.getItem_str (c := c) (by simp; lia) ?_ ⟨Kp.tok, _, rfl⟩⟩
    have : seqIndex? k x.length = some k.toNat := by
      unfold seqIndex?
      have hlt' : k.toNat < x.length := hlt
      have e : (if k < 0 then k + (x.length : Int) else k) = k := if_neg (by lia)
      simp only [e]
      rw [if_pos (by rw [Bool.and_eq_true, decide_eq_true_eq, decide_eq_true_eq]; lia)]
    rw [this]
    simpa using hc) hs
end
end Mine
set_option maxRecDepth 10000
namespace Mine
open PySem PySem.W PyProof.Rows PySem.Calls
open PySem.Builtin.Str (strSliceIndices)
noncomputable def vSl (lo hi st : Option Int) : VP := ⟨fun h v => ∃ a vl vu vs, v = .ref a ∧ h.get? a = some { cls := .type "slice", data := .fields #[vl, vu, vs] } ∧ IsPart vl lo ∧ IsPart vu hi ∧ IsPart vs st, fun x ⟨a, vl, vu, vs, e, o, q⟩ => ⟨a, vl, vu, vs, e, x _ _ o, q⟩⟩
theorem IsPart.raw {v : Value} {k : Option Int} (x : IsPart v k) : ∃ l : Option (Int × Tok), v = partValue l ∧ l.map (·.1) = k := by
  cases x with
  | none => exact ⟨none, rfl, rfl⟩
  | int i t => exact ⟨some (i, t), rfl, rfl⟩
theorem range_pick {α : Type} (l : List α) : ∀ (k a : Nat), ((List.range k).map fun i => a + i).filterMap (l[·]?) = (l.drop a).take k := by
  intro k
  induction k with
  | zero => intro a; simp
  | succ k ih =>
    intro a
    rw [List.range_succ, List.map_append, List.filterMap_append, ih, List.take_add_one]
    congr 1
    simp [List.getElem?_drop]
    cases h : l[a + k]? <;> simp [h]
theorem sliceRange_one (a b : Nat) : sliceRange (a : Int) (b : Int) 1 = (List.range (b - a)).map fun i => a + i := by
  unfold sliceRange
  have e : (if (1 : Int) > 0 then if (a : Int) < b then ((b : Int) - a + 1 - 1) / 1 else 0 else if (a : Int) > b then ((a : Int) - b - 1 - 1) / (-1) else 0).toNat = b - a := by
    rw [if_pos (by decide)]
    split <;> lia
  simp only [e]
  apply List.map_congr_left
  intro i _
  lia
theorem slice_all {x : Str} {lo hi : Option Int} (a b : Nat) (e : strSliceIndices lo hi 1 x.length = (List.range (b - a)).map fun i => a + i) (hb : b ≤ x.length) : Txt.slice x lo hi = ⟨((x.cps.toList.take b).drop a).toArray⟩ := by
  unfold Txt.slice
  rw [e]
  have p := range_pick x.cps.toList (b - a) a
  have q : ((List.range (b - a)).map fun i => a + i).filterMap (x.cps[·]?) = ((List.range (b - a)).map fun i => a + i).filterMap (x.cps.toList[·]?) := by
    congr 1; funext i; simp
  have e2 : (x.cps.toList.drop a).take (b - a) = (x.cps.toList.take b).drop a := by rw [List.drop_take]
  split
  · rename_i h
    have hl : b - a = x.length := by simpa using h
    have h1 : a = 0 ∧ b = x.length ∨ x.length = 0 := by lia
    rcases h1 with ⟨rfl, rfl⟩ | h1
    · obtain ⟨⟨l⟩⟩ := x
      simp [Str.length]
    · obtain ⟨⟨l⟩⟩ := x
      have : l = [] := by simpa [Str.length] using h1
      subst this
      simp
  · rw [q, p, e2]
theorem slice_ab {x : Str} (a b : Nat) : Txt.slice x (some (a : Int)) (some (b : Int)) = ⟨((x.cps.toList.take b).drop a).toArray⟩ := by
  have e : strSliceIndices (some (a : Int)) (some (b : Int)) 1 x.length = (List.range (min b x.length - min a x.length)).map fun i => min a x.length + i := by
    rw [← sliceRange_one]
    unfold strSliceIndices
    simp only [if_pos (show (1 : Int) > 0 by decide)]
    congr 1 <;> split <;> lia
  rw [slice_all _ _ e (by lia)]
  congr 2
  have hl : x.length = x.cps.toList.length := by simp [Str.length]
  by_cases h : a ≤ x.length
  · rw [show min a x.length = a by lia]
    by_cases h2 : b ≤ x.length
    · rw [show min b x.length = b by lia]
    · rw [show min b x.length = x.length by lia, hl, List.take_length, List.take_of_length_le (by lia)]
  · rw [List.drop_of_length_le (by rw [List.length_take]; lia), List.drop_of_length_le (by rw [List.length_take]; lia)]
theorem slice_0b {x : Str} (b : Nat) : Txt.slice x none (some (b : Int)) = ⟨(x.cps.toList.take b).toArray⟩ := by
  have := slice_ab (x := x) 0 b
  rw [List.drop_zero] at this
  rw [← this]
  unfold Txt.slice strSliceIndices
  have e0 : (max 0 (min (0 : Int) (x.length : Int))) = 0 := by lia
  simp [e0]
theorem slice_neg {x : Str} (a b : Nat) (hb : 0 < b) : Txt.slice x (some (a : Int)) (some (-(b : Int))) = ⟨((x.cps.toList.take (x.length - b)).drop a).toArray⟩ := by
  have := slice_ab (x := x) a (x.length - b)
  rw [← this]
  unfold Txt.slice strSliceIndices
  simp only [if_pos (show (1 : Int) > 0 by decide)]
  have e : (max 0 (min (if (-(b : Int)) < 0 then -(b : Int) + (x.length : Int) else -(b : Int)) (x.length : Int)) : Int) = max 0 (min (if ((x.length - b : Nat) : Int) < 0 then ((x.length - b : Nat) : Int) + (x.length : Int) else ((x.length - b : Nat) : Int)) (x.length : Int)) := by
    split <;> split <;> lia
  rw [e]
theorem slice_last {x : Str} (a : Nat) (ha : 0 < a) : Txt.slice x (some (-(a : Int))) none = ⟨(x.cps.toList.drop (x.length - a)).toArray⟩ := by
  have := slice_ab (x := x) (x.length - a) x.length
  rw [show x.length = x.cps.toList.length by simp [Str.length], List.take_length, ← show x.length = x.cps.toList.length by simp [Str.length]] at this
  rw [← this]
  unfold Txt.slice strSliceIndices
  simp only [if_pos (show (1 : Int) > 0 by decide)]
  have e : (max 0 (min (if (-(a : Int)) < 0 then -(a : Int) + (x.length : Int) else -(a : Int)) (x.length : Int)) : Int) = max 0 (min (if ((x.length - a : Nat) : Int) < 0 then ((x.length - a : Nat) : Int) + (x.length : Int) else ((x.length - a : Nat) : Int)) (x.length : Int)) := by
    split <;> split <;> lia
  have e2 : (max 0 (min (if ((x.length : Nat) : Int) < 0 then ((x.length : Nat) : Int) + (x.length : Int) else ((x.length : Nat) : Int)) (x.length : Int)) : Int) = (x.length : Int) := by
    split <;> lia
  rw [e, e2]
section
variable {ro : Nat} {prog : Program} {w : World} {A : Around} {Mut : List Addr} {s₁ s : Shared} {env : Env} {H : Heap} {l r : PySem.Expr} {pos : Pos} {whole : Sem Value}
inductive Part (ν : Nat) (prog : Program) (w : World) (A : Around) (Mut : List Addr) (s₁ : Shared) (env : Env) : Option PySem.Expr → Option Int → Prop
  | no : Part ν prog w A Mut s₁ env none none
  | is {e : PySem.Expr} {i : Int} (h : Ev ν prog w A Mut s₁ (eval e env) (vI i)) : Part ν prog w A Mut s₁ env (some e) (some i)
theorem Part.go {o : Option PySem.Expr} {k : Option Int} (x : Part ν prog w A Mut s₁ env o k) {E : Value → Shared → Prop} {Q : Value → Shared → Prop} {s : Shared} (ks : Kp ν s₁ s)
    (h : ∀ v s', Kp ν s s' → IsPart v k → Q v s') : wpAny (model prog w) A (evalPart o env) Q E s := by
  cases x with
  | no => exact wpAny_evalPart_none (h _ _ (Kp.refl _) .none)
  | is e => exact wpAny_evalPart_some (e.use ks fun v s' k1 p => by obtain ⟨t, rfl⟩ := p; exact h _ _ k1 (.int _ _))
theorem Ev.slice {A' : Around} {a b c : Option PySem.Expr} {lo hi st : Option Int} {p : Pos} (C : Cx ν ro A' Mut H s₁) (h1 : Part ν prog w A Mut s₁ env a lo) (h2 : Part ν prog w A Mut s₁ env b hi) (h3 : Part ν prog w A Mut s₁ env c st) :
    Ev ν prog w A Mut s₁ (eval (.Slice a b c p) env) (vSl lo hi st) := .mk fun s E k =>
  wpAny_Slice (h1.go k fun v1 s1 k1 p1 => h2.go (k.trans k1) fun v2 s2 k2 p2 => h3.go ((k.trans k1).trans k2) fun v3 s3 k3 p3 => by
    have C' := C.at (((k.trans k1).trans k2).trans k3)
    exact ⟨((k1.trans k2).trans k3).trans (Kp.heap (fl_push _ _).le), _, v1, v2, v3, rfl, vis_push C'.old C'.tab rfl, p1, p2, p3⟩)
theorem Ev.sliceS {A' : Around} {x : Str} {a b : Option PySem.Expr} {lo hi : Option Int} {p : Pos} (C : Cx ν ro A' Mut H s₁) (h : Ev ν prog w A Mut s₁ (eval l env) (vS x)) (h1 : Part ν prog w A Mut s₁ env a lo) (h2 : Part ν prog w A Mut s₁ env b hi) (hx : x.length ≤ sizeLine) :
    Ev ν prog w A Mut s₁ (eval (.Subscript l (.Slice a b none p) pos) env) (vS (Txt.slice x lo hi)) :=
  Ev.sub h (Ev.slice C h1 h2 .no) PySem.F.slot_str_getitem.lookup (fun v1 v2 s k' p1 p2 => by
    obtain ⟨t, rfl⟩ := p1
    obtain ⟨ad, vl, vu, vs, rfl, o, q1, q2, q3⟩ := p2
    cases q3
    obtain ⟨pl, rfl, e1⟩ := IsPart.raw q1
    obtain ⟨pu, rfl, e2⟩ := IsPart.raw q2
    refine ⟨typeIs_str _ _ _, .mk fun E => wpAny_getItem_str_slice (l := pl) (u := pu) (st := none) ⟨_, vis_le _ _ o, rfl, rfl⟩ rfl ?_⟩
    unfold sliceMade slicePicked Txt.slice
    rw [e1, e2]
    simp only [Option.map_none, Option.getD_none]
    split
    · exact ⟨Kp.refl _, _, rfl⟩
    · exact ⟨Nat.le_trans (by show (List.filterMap _ _).toArray.size ≤ _; rw [List.size_toArray]; exact Nat.le_trans (List.length_filterMap_le _ _) (sliceIndices_le _ _ _)) hx, Kp.tok, _, rfl⟩) ⟨fun o i => [i, o], fun _ _ => rfl⟩
noncomputable def lpick {α : Type} (xs : List α) (lo hi st : Option Int) : List α :=
  (sliceRange (sliceBounds lo hi st xs.length).1 (sliceBounds lo hi st xs.length).2.1 (sliceBounds lo hi st xs.length).2.2).filterMap (xs[·]?)
theorem All2.pick {h : Heap} {Ps : List VP} {vs : List Value} (q : All2 Ps h vs) : ∀ (idx : List Nat), All2 (idx.filterMap (Ps[·]?)) h (idx.filterMap (vs[·]?))
  | [] => rfl
  | i :: r => by
    have ih := q.pick r
    have hl := q.length
    rw [List.filterMap_cons, List.filterMap_cons]
    cases hp : Ps[i]? with
    | none =>
      have : vs[i]? = none := by rw [List.getElem?_eq_none_iff] at hp ⊢; lia
      rw [this]
      exact ih
    | some p =>
      obtain ⟨v, hv⟩ : ∃ v, vs[i]? = some v := by
        have := (List.getElem?_eq_some_iff.mp hp).1
        exact ⟨_, List.getElem?_eq_getElem (by rw [hl]; exact this)⟩
      rw [hv]
      exact ⟨v, _, rfl, q.get hp hv, ih⟩
theorem lpick_map {α β : Type} (f : α → β) (xs : List α) (lo hi st : Option Int) : lpick (xs.map f) lo hi st = (lpick xs lo hi st).map f := by
  unfold lpick
  rw [List.map_filterMap, List.length_map]
  congr 1
  funext i
  rw [List.getElem?_map]
theorem Ev.sliceL {A' : Around} {Ps : List VP} {a b c : Option PySem.Expr} {lo hi st : Option Int} {p : Pos} (C : Cx ν ro A' Mut H s₁) (h : Ev ν prog w A Mut s₁ (eval l env) (vL Ps)) (h1 : Part ν prog w A Mut s₁ env a lo) (h2 : Part ν prog w A Mut s₁ env b hi) (h3 : Part ν prog w A Mut s₁ env c st) (h0 : st ≠ some 0) (hsz : Ps.length ≤ sizeLine)
    (hs : ∃ f : Value → Value → List Value, ∀ o i, subscripted (.Slice a b c p) false o i = operate (f o i) (getItem o i) := by first | exact ⟨fun o i => [i, o], fun _ _ => rfl⟩ | exact ⟨fun o i => [o, i], fun _ _ => rfl⟩) :
    Ev ν prog w A Mut s₁ (eval (.Subscript l (.Slice a b c p) pos) env) (vL (lpick Ps lo hi st)) :=
  Ev.sub h (Ev.slice C h1 h2 h3) slot_list_getitem.lookup (fun v1 v2 s k' p1 p2 => by
    obtain ⟨ad, vs, rfl, l1, q⟩ := p1
    obtain ⟨sa, vl, vu, vt, rfl, o, q1, q2, q3⟩ := p2
    have hl := (plist_le l1 vis_le).isList
    have C' := C.at k'
    refine ⟨hl.typeIs, .mk fun E => wpAny_getItem_list_slice hl ⟨_, vis_le _ _ o, rfl, rfl⟩ q1 q2 q3 h0 ⟨Kp.heap (fl_push _ _).le, _, lpick vs lo hi st, rfl, ⟨0, ?_⟩, ?_⟩ (by rw [List.size_toArray, q.length]; exact hsz)⟩
    · have e : slicePick vs.toArray lo hi st = (lpick vs lo hi st).toArray := by
        unfold slicePick lpick
        simp
      rw [e]
      exact vis_push C'.old C'.tab rfl
    · have z := q.pick (sliceRange (sliceBounds lo hi st Ps.length).1 (sliceBounds lo hi st Ps.length).2.1 (sliceBounds lo hi st Ps.length).2.2)
      have e2 : lpick vs lo hi st = (sliceRange (sliceBounds lo hi st Ps.length).1 (sliceBounds lo hi st Ps.length).2.1 (sliceBounds lo hi st Ps.length).2.2).filterMap (vs[·]?) := by unfold lpick; rw [q.length]
      rw [e2]
      exact z.mono (vis_mono (fl_push _ _).le)) hs
theorem lpick_to {α : Type} (xs : List α) (b : Nat) : lpick xs none (some (b : Int)) none = xs.take b := by
  have := slicePick_upto' (Array.mk ([] : List Value)) b
  unfold lpick
  rw [sliceBounds_plain]
  simp only [Option.elim]
  rw [show ((0 : Nat) : Int) = ((0 : Nat) : Int) from rfl, sliceRange_one]
  rw [range_pick, List.drop_zero]
  have e : clipAt xs.length (b : Int) = min b xs.length := by unfold clipAt; split <;> lia
  rw [e]
  simp
theorem lpick_from {α : Type} (xs : List α) (a : Nat) : lpick xs (some (a : Int)) none none = xs.drop a := by
  unfold lpick
  rw [sliceBounds_plain]
  simp only [Option.elim]
  rw [sliceRange_one, range_pick]
  have e : clipAt xs.length (a : Int) = min a xs.length := by unfold clipAt; split <;> lia
  rw [e]
  by_cases h : a ≤ xs.length
  · rw [show min a xs.length = a by lia, List.take_of_length_le (by rw [List.length_drop]; lia)]
  · rw [show min a xs.length = xs.length by lia, List.drop_of_length_le (Nat.le_refl _), List.drop_of_length_le (by lia)]
    simp
end
end Mine
set_option maxRecDepth 10000
namespace Mine
open PySem PySem.W PyProof.Rows PySem.Calls PySem.Spec
section
variable {ro : Nat} {prog : Program} {w : World} {A : Around} {Mut : List Addr} {s₁ s : Shared} {env : Env} {H : Heap}
theorem op_lenS {x : Str} {v : Value} (hx : x.length < 2 ^ 63) (p : (vS x).on (vis ν Mut s.heap) v) : Op ν prog w A Mut s (call (.builtin "len") [v]) (vI x.length) := .mk fun E => by
  obtain ⟨t, rfl⟩ := p
  exact PySem.P.len_str (by lia) ⟨Kp.tok, _, rfl⟩
theorem op_lenL {Ps : List VP} {v : Value} (hx : Ps.length < 2 ^ 63) (p : (vL Ps).on (vis ν Mut s.heap) v) : Op ν prog w A Mut s (call (.builtin "len") [v]) (vI Ps.length) := .mk fun E => by
  obtain ⟨a, vs, rfl, l, q⟩ := p
  have e := q.length
  refine call_len_list (plist_le l vis_le).isList (by simp [e]; lia) ⟨Kp.tok, s.toks + 1, by simp [e]⟩
theorem op_range {n : Nat} {v : Value} (C : Cx ν ro A Mut H s) (hn : n < 2 ^ 62) (p : (vI n).on (vis ν Mut s.heap) v) : Op ν prog w A Mut s (call (.type "range") [v]) (vR 0 n) := .mk fun E => by
  obtain ⟨t, rfl⟩ := p
  refine call_range_1 ⟨Kp.both (fl_push _ _).le (by lia), _, n, _, _, _, rfl, vis_push C.old C.tab rfl, small_one (by decide) (by decide) (by lia) (by lia), ?_⟩
  have := rangeSize_one 0 (n : Int)
  simp at this ⊢
  lia
theorem op_ord {c : Nat} {v : Value} (p : (vS ⟨#[c]⟩).on (vis ν Mut s.heap) v) : Op ν prog w A Mut s (call (.builtin "ord") [v]) (vI c) := .mk fun E => by
  obtain ⟨t, rfl⟩ := p
  exact PySem.P.ord_of_char ⟨Kp.tok, _, rfl⟩
theorem op_chr {c : Nat} {v : Value} (hc : c < 1114112) (p : (vI c).on (vis ν Mut s.heap) v) : Op ν prog w A Mut s (call (.builtin "chr") [v]) (vS ⟨#[c]⟩) := .mk fun E => by
  obtain ⟨t, rfl⟩ := p
  exact PySem.P.chr_of_int (by simp; lia) ⟨Kp.tok, _, rfl⟩
theorem op_sum {ns : List Int} {v : Value} (hh : A.handled = none) (p : (vL (ns.map vI)).on (vis ν Mut s.heap) v) : Op ν prog w A Mut s (call (.builtin "sum") [v]) (vI ns.sum) := .mk fun E => by
  obtain ⟨a, vs, rfl, l, q⟩ := p
  have hi := intsOf q
  obtain ⟨xs, hx⟩ := hi.allInts.items
  have hl := (plist_le l vis_le).isList
  have hn := hi.numsOf
  rw [show vs = vs.toArray.toList from rfl, hx, nums_intItems] at hn
  rw [hx] at hl
  refine wpAny_with_toks (Nat.le_refl _) (sum_intListG hh hl fun h' tk t' hk ht => ⟨Kp.both (Fl.le hk) ht, t', ?_⟩)
  rw [preSum_eq, List.take_of_length_le (by simp), hn]
theorem op_min {ns : List Int} {v : Value} (hh : A.handled = none) (hne : 0 < ns.length) (p : (vL (ns.map vI)).on (vis ν Mut s.heap) v) :
    Op ν prog w A Mut s (call (.builtin "min") [v]) ⟨fun h v => ∃ M t, v = .int M t ∧ M ∈ ns ∧ ∀ a ∈ ns, M ≤ a, fun _ x => x⟩ := .mk fun E => by
  obtain ⟨a, vs, rfl, l, q⟩ := p
  have hi := intsOf q
  obtain ⟨xs, hx⟩ := hi.allInts.items
  have hl := (plist_le l vis_le).isList
  have hn := hi.numsOf
  rw [show vs = vs.toArray.toList from rfl, hx, nums_intItems] at hn
  rw [hx] at hl
  have hsz : 0 < xs.size := by rw [← hn] at hne; simpa using hne
  refine wpAny_with_toks (Nat.le_refl _) (min_intList hh hl hsz fun v h' tk hv hk ht => ?_)
  obtain ⟨t, rfl⟩ := intItems_at hv
  obtain ⟨h1, h2⟩ := argBest_lt (numAt xs) (xs.size - 1)
  refine ⟨Kp.both (Fl.le hk) ht, _, t, rfl, ?_, fun a ha => ?_⟩
  · rw [← hn, numAt_eq]; exact getD_mem (by rw [List.length_map, Array.length_toList]; lia)
  · rw [← hn] at ha
    obtain ⟨j, hj, rfl⟩ := mem_getD ha
    rw [List.length_map, Array.length_toList] at hj
    rw [← numAt_eq]; exact h2 j (by lia)
theorem op_listT {Ps : List VP} {v : Value} (C : Cx ν ro A Mut H s) (hsz : Ps.length ≤ sizeLine) (p : (vT Ps).on (vis ν Mut s.heap) v) : Op ν prog w A Mut s (call (.type "list") [v]) (vL Ps) := .mk fun E => by
  obtain ⟨a, vs, rfl, l, q⟩ := p
  obtain ⟨n, e⟩ := ptup_le l vis_le
  refine call_list_seq a (T := "tuple") (.inr rfl) e rfl rfl (fun h' c' hk he => ⟨Kp.heap (Fl.le hk), _, vs, rfl, ⟨c', vis_get he C.old.new (size_ne C.tab)⟩, q.mono (vis_mono (Fl.le hk))⟩) (by rw [List.size_toArray, q.length]; exact hsz)
theorem all2_signs {h : Heap} : ∀ (cs : List Nat) (vs : List Value), vs.length = cs.length → (∀ (j : Nat) (v : Value), vs[j]? = some v → ∃ c u, cs[j]? = some c ∧ v = .str ⟨#[c]⟩ u) → All2 (cs.map fun c => vS ⟨#[c]⟩) h vs
  | [], [], _, _ => rfl
  | c :: cs, v :: vs, hl, hv => by
    obtain ⟨c', u, hc, rfl⟩ := hv 0 v rfl
    cases hc
    refine ⟨_, _, rfl, ⟨u, rfl⟩, all2_signs cs vs (by simpa using hl) fun j v h => ?_⟩
    exact hv (j + 1) v (by simpa using h)
theorem op_listS {x : Str} {v : Value} (C : Cx ν ro A Mut H s) (hsz : x.cps.size ≤ sizeLine) (p : (vS x).on (vis ν Mut s.heap) v) : Op ν prog w A Mut s (call (.type "list") [v]) (vL (x.cps.toList.map fun c => vS ⟨#[c]⟩)) := .mk fun E => by
  obtain ⟨t, rfl⟩ := p
  refine wpAny_with_toks (Nat.le_refl _) (call_list_str C.hh x t (fun h' tk acc' c' hk he hI ht => ⟨Kp.both (Fl.le hk) ht, _, acc'.toList, rfl, ⟨c', vis_get (by simpa using he) C.old.new (size_ne C.tab)⟩, ?_⟩) hsz)
  refine all2_signs _ _ (by simp [hI.1]) fun j v hj => ?_
  obtain ⟨c, u, h1, h2⟩ := hI.2 j v (by simpa using hj)
  exact ⟨c, u, by simpa using h1, h2⟩
theorem strVals : ∀ {vs : List Value} {ys : List Str}, StrsAre vs ys → ∃ l : List (Str × Tok), vs = strValues l ∧ l.map (·.1) = ys
  | _, _, .nil => ⟨[], rfl, rfl⟩
  | _, _, .cons x t r => by
    obtain ⟨l, rfl, e⟩ := strVals r
    exact ⟨(x, t) :: l, rfl, by simp [e]⟩
theorem op_join {ys : List Str} {x : Str} {u v : Value} (hok : JoinOk x ys = true) (px : (vS x).on (vis ν Mut s.heap) u) (p : (vL (ys.map vS)).on (vis ν Mut s.heap) v) : Op ν prog w A Mut s (call (.builtin "str.join") [u, v]) (vS (Txt.join x ys)) := .mk fun E => by
  obtain ⟨t, rfl⟩ := px
  obtain ⟨a, vs, rfl, l, q⟩ := p
  obtain ⟨ll, rfl, e⟩ := strVals (strsOf q)
  exact wpAny_with_toks (Nat.le_refl _) (PySem.SC.join (plist_le l vis_le).isList e hok fun t' k ht => ⟨Kp.tok ht, _, rfl⟩)
noncomputable def srt (ys : List Str) : List Str := ys.mergeSort fun a b => !ltCps b.cps.toList a.cps.toList
theorem ltCps_asymm : ∀ (a b : List Nat), ltCps a b = true → ltCps b a = false
  | [], [], h => by cases h
  | [], _ :: _, _ => rfl
  | _ :: _, [], h => by cases h
  | a :: r, b :: t, h => by
    unfold ltCps at h ⊢
    simp only [Bool.or_eq_true, decide_eq_true_eq, Bool.and_eq_true, beq_iff_eq] at h
    simp only [Bool.or_eq_false_iff, decide_eq_false_iff_not, Bool.and_eq_false_iff]
    rcases h with h | ⟨rfl, h⟩
    · exact ⟨by lia, .inl (by simp; lia)⟩
    · exact ⟨by lia, .inr (ltCps_asymm r t h)⟩
theorem ltCps_total : ∀ (a b : List Nat), ltCps a b = false → ltCps b a = false → a = b
  | [], [], _, _ => rfl
  | [], _ :: _, h, _ => by cases h
  | _ :: _, [], _, h => by cases h
  | a :: r, b :: t, h, g => by
    unfold ltCps at h g
    simp only [Bool.or_eq_false_iff, decide_eq_false_iff_not, Bool.and_eq_false_iff] at h g
    have e : a = b := by lia
    subst e
    simp at h g
    rw [ltCps_total r t h g]
theorem ltCps_trans : ∀ (a b c : List Nat), ltCps a b = true → ltCps b c = true → ltCps a c = true
  | [], [], _, h, _ => by cases h
  | [], _ :: _, [], _, h => by cases h
  | [], _ :: _, _ :: _, _, _ => rfl
  | _ :: _, [], _, h, _ => by cases h
  | _ :: _, _ :: _, [], _, h => by cases h
  | a :: r, b :: t, c :: u, h, g => by
    unfold ltCps at h g ⊢
    simp only [Bool.or_eq_true, decide_eq_true_eq, Bool.and_eq_true, beq_iff_eq] at h g ⊢
    rcases h with h | ⟨rfl, h⟩
    · rcases g with g | ⟨rfl, g⟩
      · exact .inl (by lia)
      · exact .inl h
    · rcases g with g | ⟨rfl, g⟩
      · exact .inl g
      · exact .inr ⟨rfl, ltCps_trans r t u h g⟩
noncomputable abbrev leS (a b : Str) : Bool := !ltCps b.cps.toList a.cps.toList
theorem leS_trans (a b c : Str) (h : leS a b = true) (g : leS b c = true) : leS a c = true := by
  simp only [leS, Bool.not_eq_true'] at h g ⊢
  cases q : ltCps c.cps.toList a.cps.toList with
  | false => rfl
  | true =>
    by_cases e : ltCps a.cps.toList b.cps.toList = true
    · rw [ltCps_trans _ _ _ q e] at g; cases g
    · rw [ltCps_total _ _ (Bool.not_eq_true _ ▸ e) h] at q; rw [q] at g; cases g
theorem leS_total (a b : Str) : (leS a b || leS b a) = true := by
  simp only [leS]
  cases h : ltCps b.cps.toList a.cps.toList with
  | false => rfl
  | true => rw [ltCps_asymm _ _ h]; rfl
theorem leS_anti (a b : Str) (h : leS a b = true) (g : leS b a = true) : a = b := by
  simp only [leS, Bool.not_eq_true'] at h g
  obtain ⟨⟨a⟩⟩ := a
  obtain ⟨⟨b⟩⟩ := b
  have := ltCps_total _ _ g h
  simp at this
  rw [this]
theorem srt_perm (ys : List Str) : (srt ys).Perm ys := List.mergeSort_perm _ _
theorem srt_pair (ys : List Str) : (srt ys).Pairwise fun a b => leS a b = true := List.pairwise_mergeSort leS_trans leS_total _
theorem rising_pair : ∀ (l : List Str) (p : Str), risingS p l = true → (p :: l).Pairwise fun a b => leS a b = true
  | [], p, _ => List.pairwise_singleton _ _
  | x :: r, p, h => by
    unfold risingS at h
    rw [Bool.and_eq_true] at h
    have ih := rising_pair r x h.2
    refine List.Pairwise.cons (fun y hy => ?_) ih
    rcases List.mem_cons.mp hy with rfl | hy
    · exact h.1
    · exact leS_trans _ _ _ h.1 ((List.pairwise_cons.mp ih).1 y hy)
theorem sorted_pair {l : List Str} (h : sortedS l = true) : l.Pairwise fun a b => leS a b = true := by
  cases l with
  | nil => exact List.Pairwise.nil
  | cons x r => exact rising_pair r x h
theorem srt_eq {l ys : List Str} (hp : l.Perm ys) (hs : l.Pairwise fun a b => leS a b = true) : l = srt ys :=
  List.Perm.eq_of_pairwise (fun a b _ _ h g => leS_anti a b h g) hs (srt_pair ys) (hp.trans (srt_perm ys).symm)
theorem op_sorted {ys : List Str} {v : Value} (C : Cx ν ro A Mut H s) (hlt : ys.length < 64) (p : (vL (ys.map vS)).on (vis ν Mut s.heap) v) : Op ν prog w A Mut s (call (.builtin "sorted") [v]) (vL ((srt ys).map vS)) := .mk fun E => by
  obtain ⟨a, vs, rfl, l, q⟩ := p
  have hl := q.length
  rw [List.length_map] at hl
  refine sorted_strs (plist_le l vis_le).isList (strsOf q) (by lia) fun out ss' h1 h2 h3 => ?_
  have e := srt_eq h2 (sorted_pair h3)
  subst e
  have hk : Fl s.heap (sortedAll s.heap vs out) := fun b o e => sortedAll_old e
  obtain ⟨c, he⟩ := sortedAll_at s.heap vs out
  refine ⟨Kp.heap hk.le, _, out.toList, rfl, ⟨c, vis_get (by simpa using he) (fun hm => ?_) ?_⟩, ofStrs h1⟩
  · obtain ⟨_, o, e⟩ := C.old _ hm
    exact absurd (Heap.lt_size e) (Nat.not_lt.mpr (Nat.le_succ _))
  · exact ⟨Nat.ne_of_gt (Nat.lt_succ_of_lt C.tab.lt), Nat.ne_of_gt (Nat.lt_succ_of_lt C.tab.ltν)⟩
end
end Mine
set_option maxRecDepth 10000
namespace Mine
open PySem PySem.W PyProof.Rows PySem.Calls PySem.Spec
structure Def (H : Heap) (f : Addr) (name : Str) (params : Arguments) (body : List Stmt) (scope : Scope) : Prop where
  ex : ∃ o pm cd doc, H.get? f = some o ∧ o.data = .func (docDef name params body scope pm cd doc) ∧ H.CodeRec cd name
  lim : H.NoLimit
noncomputable abbrev upd (m : Str → Option Value) (x : Str) (v : Value) : Str → Option Value := fun y => if y = x then some v else m y
structure Fm (ν : Nat) (env : Env) (s₀ s : Shared) (m cm : Str → Option Value) : Prop where
  k : Kp ν s₀ s
  tab : Tab ν s₀.heap
  kf : env.scope.kind = .function
  ns : s.heap.Ns env.locals m
  cell : ∀ n c, env.cells.lookup n = some c → s.heap.IsCell c (cm n)
  freshL : s₀.heap.get? env.locals = none
  freshC : ∀ p ∈ env.cells, s₀.heap.get? p.2 = none
  apart : env.cells.Pairwise fun x y => x.2 ≠ y.2
  neL : ∀ p ∈ env.cells, p.2 ≠ env.locals
noncomputable abbrev Env.mut (env : Env) : List Addr := env.locals :: env.cells.map (·.2)
theorem fresh57 {s : Shared} {a : Addr} (t : Tab ν s.heap) (e : s.heap.get? a = none) : Off ν a := off_of t e
section
variable {ro : Nat} {prog : Program} {w : World} {A : Around} {Mut : List Addr} {s₀ s₁ s : Shared} {env : Env} {H : Heap} {m cm : Str → Option Value}
theorem Fm.var (F : Fm ν env s₀ s m cm) {x : Str} {v : Value} (e : m x = some v) (hk : env.kindOf x = some .local := by rfl) : Var env s.heap x v := .inl ⟨hk, (fresh57 F.tab F.freshL).1, m, F.ns, e⟩
theorem Fm.varC (F : Fm ν env s₀ s m cm) {x : Str} {v : Value} (e : cm x = some v) (c : Addr) (hl : env.cells.lookup x = some c) (hk : env.kindOf x = some .cell := by rfl) : Var env s.heap x v :=
  .inr ⟨hk, c, hl, (fresh57 F.tab (F.freshC _ (mem_of_lookup hl))).1, e ▸ F.cell x c hl⟩
theorem Fm.at (F : Fm ν env s₀ s m cm) {s' : Shared} (k : Kp ν s s') : Fm ν env s₀ s' m cm :=
  ⟨F.k.trans k, F.tab, F.kf, ns_le F.ns k.le (fresh57 F.tab F.freshL).1, fun n c e => cell_le (F.cell n c e) k.le (fresh57 F.tab (F.freshC _ (mem_of_lookup e))).1, F.freshL, F.freshC, F.apart, F.neL⟩
theorem Cx.change (C : Cx ν ro A Mut H s) {a : Addr} {h' : Heap} {tk : Nat} (hs : Heap.SameBut a s.heap h') (ha : a ∈ Mut) (he : ∃ o, h'.get? a = some o) (ht : s.toks ≤ tk) : Cx ν ro A Mut H { s with heap := h', toks := tk } := by
  have n57 : a ≠ 57 := (C.old a ha).1
  refine ⟨C.hh, C.dep, C.un, ?_, fun b hb => ?_, C.base.trans (vis_change hs ha), Nat.le_trans C.tk ht⟩
  · obtain ⟨ps, e, r, o, eo⟩ := C.tab
    refine ⟨ps, (hs.2 57 (Ne.symm n57)).trans e, r, ?_⟩
    by_cases q : ν = a
    · rw [q]; exact he
    · exact ⟨o, (hs.2 ν q).trans eo⟩
  · by_cases q : b = a
    · subst q; exact ⟨n57, he⟩
    · obtain ⟨n, o, e⟩ := C.old b hb
      exact ⟨n, o, (hs.2 b q).trans e⟩
theorem Kp.change {a : Addr} {h' : Heap} {tk : Nat} (k : Kp ν s₀ s) (hs : Heap.SameBut a s.heap h') (hf : s₀.heap.get? a = none) (t : Tab ν s₀.heap) (ht : s.toks ≤ tk) : Kp ν s₀ { s with heap := h', toks := tk } :=
  k.to (k.le.but (N := [a]) (fun b o nb e => (hs.2 b fun q => nb (by rw [q]; exact .head _)).trans e) (fun b hb => by rw [List.mem_singleton.mp hb]; exact hf) (fun q => (fresh57 t hf).1 (List.mem_singleton.mp q).symm)) (Nat.le_trans k.tk ht)
theorem Fm.change (F : Fm ν env s₀ s m cm) {a : Addr} {h' : Heap} {tk : Nat} (hs : Heap.SameBut a s.heap h') (hf : s₀.heap.get? a = none) (hL : a ≠ env.locals) (hc : ∀ p ∈ env.cells, p.2 ≠ a) (ht : s.toks ≤ tk) : Fm ν env s₀ { s with heap := h', toks := tk } m cm :=
  ⟨F.k.change hs hf F.tab ht, F.tab, F.kf, F.ns.sameBut hs (Ne.symm hL), fun n c e => (F.cell n c e).sameBut hs (hc _ (mem_of_lookup e)), F.freshL, F.freshC, F.apart, F.neL⟩
structure Step (ν : Nat) (W Mut : List Addr) (s s' : Shared) : Prop where
  fl : Fl (vis ν Mut s.heap) (vis ν Mut s'.heap)
  own : ∀ b o, b ∉ W → Off ν b → s.heap.get? b = some o → s'.heap.get? b = some o
theorem Step.trans {W : List Addr} {s' s'' : Shared} (x : Step ν W Mut s s') (y : Step ν W Mut s' s'') : Step ν W Mut s s'' := ⟨x.fl.trans y.fl, fun b o n n' e => y.own b o n n' (x.own b o n n' e)⟩
theorem Step.of {W : List Addr} {s' : Shared} (k : Kp ν s s') : Step ν W Mut s s' := ⟨k.vis _, fun b o _ n e => k.le.keep b o n e⟩
theorem Step.refl {W : List Addr} : Step ν W Mut s s := Step.of (Kp.refl _)
theorem Step.wide {W W' : List Addr} {s' : Shared} (x : Step ν W Mut s s') (h : ∀ a ∈ W, a ∈ W') : Step ν W' Mut s s' := ⟨x.fl, fun b o n => x.own b o fun m => n (h b m)⟩
theorem Fm.store {A' : Around} {E : Value → Shared → Prop} {Q : Unit → Shared → Prop} (F : Fm ν env s₀ s m cm) (C : Cx ν ro A' Mut H s) (hL : env.locals ∈ Mut) {x : Str} {v : Value}
    (h : ∀ s', Fm ν env s₀ s' (upd m x v) cm → Cx ν ro A' Mut H s' → Step ν (Env.mut env) Mut s s' → Q () s') (hk : env.kindOf x = some .local := by rfl) : wpAny (model prog w) A (storeName env x v) Q E s :=
  wpAny_storeName_local hk F.ns (fun h' hn hs => h _ ⟨F.k.change hs F.freshL F.tab (Nat.le_succ _), F.tab, F.kf, hn, fun n c e => (F.cell n c e).sameBut hs (F.neL _ (mem_of_lookup e)), F.freshL, F.freshC, F.apart, F.neL⟩
    (C.change hs hL (by obtain ⟨o, _, _, e, _⟩ := hn; exact ⟨o, e⟩) (Nat.le_succ _)) ⟨vis_change hs hL, fun b o nb _ e => (hs.2 b fun q => nb (q ▸ .head _)).trans e⟩) (by rw [F.kf]; rfl)
theorem Fm.storeC {E : Value → Shared → Prop} {Q : Unit → Shared → Prop} (F : Fm ν env s₀ s m cm) (C : Cx ν ro A Mut H s) (hM : ∀ a ∈ Env.mut env, a ∈ Mut) {x : Str} {v : Value} (c : Addr) (hl : env.cells.lookup x = some c)
    (h : ∀ s', Fm ν env s₀ s' m (upd cm x v) → Cx ν ro A Mut H s' → Step ν (Env.mut env) Mut s s' → Q () s') (hk : env.kindOf x = some .cell := by rfl) : wpAny (model prog w) A (storeName env x v) Q E s := by
  have hm := mem_of_lookup hl
  have hcM : c ∈ Env.mut env := .tail _ (List.mem_map.mpr ⟨_, hm, rfl⟩)
  refine wpAny_storeName_cell F.kf hk hl (F.cell x c hl) fun h' hv hs => h _ ⟨?_, F.tab, F.kf, F.ns.sameBut hs (Ne.symm (F.neL _ hm)), fun n c' e => ?_, F.freshL, F.freshC, F.apart, F.neL⟩ ?_ ⟨vis_change hs (hM _ hcM), fun b o nb _ e => (hs.2 b fun q => nb (q ▸ hcM)).trans e⟩
  · have := F.k.change (tk := s.toks) hs (F.freshC _ hm) F.tab (Nat.le_refl _)
    exact this
  · by_cases q : n = x
    · subst q
      rw [hl] at e
      cases e
      simpa [upd] using hv
    · have hcc : c' ≠ c := fun r => q (name_of_addr F.apart (mem_of_lookup e) (r ▸ hm))
      simpa [upd, q] using (F.cell n c' e).sameBut hs hcc
  · have := C.change (tk := s.toks) hs (hM _ hcM) (by obtain ⟨o, e, _⟩ := hv; exact ⟨o, e⟩) (Nat.le_refl _)
    exact this
structure Xs (ν : Nat) (prog : Program) (w : World) (A : Around) (t : Sem Flow) (Q : Flow → Shared → Prop) (s : Shared) : Prop where
  go : ∀ E, wpAny (model prog w) A t Q E s
theorem fn_callD {f : Addr} {name : Str} {params : Arguments} {body : List Stmt} {scope : Scope} {args : List Value} {binds : List (Str × Value)} {P : VP} (C : Cx ν (ro + 1) A Mut H s) (D : Def H f name params body scope)
    (hbind : ∀ pm cd doc, bindArgs (docDef name params body scope pm cd doc) ⟨args, []⟩ = pure binds)
    (hkind : ∀ n, ∀ x ∈ binds, scope.names.lookup x.1 = some .local ∨ (scope.names.lookup x.1 = some .cell ∧ ((cellsFrom n scope.names []).lookup x.1).isSome = true))
    (h : ∀ L cd s', (∃ o pm doc, H.get? f = some o ∧ o.data = .func (docDef name params body scope pm cd doc)) → Fm ν (envOfC name scope L f cd) s s' (bindL (envOfC name scope L f cd).kindOf binds fun _ => none) (bindC (envOfC name scope L f cd).kindOf binds fun _ => none) →
      Cx ν ro (A.deeper (envOfC name scope L f cd)) (Env.mut (envOfC name scope L f cd) ++ Mut) H s' → Fl (vis ν Mut s.heap) (vis ν (Env.mut (envOfC name scope L f cd) ++ Mut) s'.heap) →
      Xs ν prog w (A.deeper (envOfC name scope L f cd)) (execs body (envOfC name scope L f cd)) (fun fl s' => ∃ v, fl = .ret v ∧ Kp ν s s' ∧ P.on (vis ν (Env.mut (envOfC name scope L f cd) ++ Mut) s'.heap) v) s')
    (hnd : ((cellsFrom 0 scope.names []).map (·.1)).Nodup)
    (hco : scope.isCoroutine = false := by rfl) (hgen : scope.isGenerator = false := by rfl) (hk : scope.kind = .function := by rfl) : Op ν prog w A Mut s (call (.ref f) args) P := .mk fun E => by
  obtain ⟨o, pm, cd, doc, ho, hd, hc⟩ := D.ex
  have kb : Fl H s.heap := C.base.trans vis_le
  refine wpAny_call ?_
  refine codeAny_call_function (by have := C.dep; lia) (kb _ _ ho) hd hco hgen rfl (hc.keeps kb) ?_
  rw [hbind]
  refine wpAny_pure (wpAny_with_toks (n := s.toks) (Nat.le_refl _) (wpAny_newFunctionEnv_cells hk (hkind _) fun env' he s' X tle => ?_))
  subst he
  refine ⟨(D.lim.keeps kb).keeps X.toInCall.keep, ?_⟩
  show codeAny _ _ (.func body (envOfC name scope s.heap.objs.size f cd)) _ _
  refine codeAny_func ?_
  obtain ⟨h₁, tk, rfl, _⟩ := X.done
  have hk₁ : Fl s.heap h₁ := X.toInCall.keep
  have kp : Kp ν s { s with heap := h₁, toks := tk } := Kp.both hk₁.le tle
  have apartL : ∀ p ∈ (envOfC name scope s.heap.objs.size f cd).cells, s.heap.objs.size < p.2 := fun p hp => X.above p.1 p.2 hp
  have fr : Fm ν (envOfC name scope s.heap.objs.size f cd) s { s with heap := h₁, toks := tk } (bindL (envOfC name scope s.heap.objs.size f cd).kindOf binds fun _ => none) (bindC (envOfC name scope s.heap.objs.size f cd).kindOf binds fun _ => none) :=
    ⟨kp, C.tab, hk, X.toInCall.ns, X.cell, none_of_ge (Nat.le_refl _), fun p hp => none_of_ge (Nat.le_of_lt (apartL p hp)), X.apart, fun p hp => Nat.ne_of_gt (apartL p hp)⟩
  have fresh : ∀ a ∈ Env.mut (envOfC name scope s.heap.objs.size f cd), s.heap.get? a = none := fun a ha => by
    rcases List.mem_cons.mp ha with rfl | ha
    · exact fr.freshL
    · obtain ⟨p, hp, rfl⟩ := List.mem_map.mp ha
      exact fr.freshC p hp
  have cx : Cx ν ro (A.deeper (envOfC name scope s.heap.objs.size f cd)) (Env.mut (envOfC name scope s.heap.objs.size f cd) ++ Mut) H { s with heap := h₁, toks := tk } := by
    refine ⟨C.hh, ?_, ?_, (Fl.le (ν := ν) hk₁).tab C.tab, fun a ha => ?_, C.base.trans (vis_more hk₁.le fresh), Nat.le_trans C.tk tle⟩
    · have := C.dep; show A.depth + 1 + ro < _; lia
    · have := C.un; show A.units + 3 + 50 * ro + 100 < _; lia
    · rcases List.mem_append.mp ha with q | q
      · refine ⟨(fresh57 C.tab (fresh a q)).1, ?_⟩
        rcases List.mem_cons.mp q with rfl | q
        · obtain ⟨o, _, _, e, _⟩ := fr.ns; exact ⟨o, e⟩
        · obtain ⟨p, hp, rfl⟩ := List.mem_map.mp q
          obtain ⟨n9, c9⟩ := p
          have nd : (envOfC name scope s.heap.objs.size f cd).cells.lookup n9 = some c9 := lookup_of_mem_nodup (cellsFrom_names scope.names 0 (s.heap.objs.size + 1) [] [] rfl ▸ hnd) hp
          obtain ⟨o, e, _⟩ := fr.cell n9 c9 nd
          exact ⟨o, e⟩
      · exact (C.old.le (Fl.le (ν := ν) hk₁)) a q
  refine wpAny_mono ((h _ cd _ ⟨o, pm, doc, ho, hd⟩ fr cx (vis_more hk₁.le fresh)).go fun _ _ => False) (fun fl s' hl => ?_) (fun _ _ q => q.elim)
  obtain ⟨v, rfl, k9, p9⟩ := hl
  exact ⟨k9, P.mono (vis_sub fun a ha => List.mem_append_right _ ha) p9⟩
theorem fn_call {f : Addr} {name : Str} {params : Arguments} {body : List Stmt} {scope : Scope} {args : List Value} {binds : List (Str × Value)} {P : VP} (C : Cx ν (ro + 1) A Mut H s) (D : Def H f name params body scope)
    (hbind : ∀ pm cd doc, bindArgs (docDef name params body scope pm cd doc) ⟨args, []⟩ = pure binds)
    (hkind : ∀ n, ∀ x ∈ binds, scope.names.lookup x.1 = some .local ∨ (scope.names.lookup x.1 = some .cell ∧ ((cellsFrom n scope.names []).lookup x.1).isSome = true))
    (h : ∀ L cd s', Fm ν (envOfC name scope L f cd) s s' (bindL (envOfC name scope L f cd).kindOf binds fun _ => none) (bindC (envOfC name scope L f cd).kindOf binds fun _ => none) →
      Cx ν ro (A.deeper (envOfC name scope L f cd)) (Env.mut (envOfC name scope L f cd) ++ Mut) H s' → Fl (vis ν Mut s.heap) (vis ν (Env.mut (envOfC name scope L f cd) ++ Mut) s'.heap) →
      Xs ν prog w (A.deeper (envOfC name scope L f cd)) (execs body (envOfC name scope L f cd)) (fun fl s' => ∃ v, fl = .ret v ∧ Kp ν s s' ∧ P.on (vis ν (Env.mut (envOfC name scope L f cd) ++ Mut) s'.heap) v) s')
    (hnd : ((cellsFrom 0 scope.names []).map (·.1)).Nodup)
    (hco : scope.isCoroutine = false := by rfl) (hgen : scope.isGenerator = false := by rfl) (hk : scope.kind = .function := by rfl) : Op ν prog w A Mut s (call (.ref f) args) P :=
  fn_callD C D hbind hkind (fun L cd s' _ => h L cd s') hnd hco hgen hk
theorem Xs.imp {t : Sem Flow} {Q Q' : Flow → Shared → Prop} (x : Xs ν prog w A t Q s) (i : ∀ f s', Q f s' → Q' f s') : Xs ν prog w A t Q' s := .mk fun E => wpAny_mono (x.go E) i fun _ _ y => y
theorem Xs.cons {st : Stmt} {rest : List Stmt} {Q : Flow → Shared → Prop} (h : Xs ν prog w A (exec st env) (fun f s' => match f with | .next => Xs ν prog w A (execs rest env) Q s' | f => Q f s') s) : Xs ν prog w A (execs (st :: rest) env) Q s :=
  .mk fun E => wpAny_execs_cons (wpAny_mono (h.go E) (fun f s' y => by cases f <;> first | exact y.go E | exact y) fun _ _ y => y)
theorem Xs.nil {Q : Flow → Shared → Prop} (h : Q .next s) : Xs ν prog w A (execs [] env) Q s := .mk fun E => wpAny_execs_nil h
theorem Xs.ret {e : PySem.Expr} {pos : Pos} {P : VP} {Q : Flow → Shared → Prop} (h : Ev ν prog w A Mut s (eval e env) P) (hq : ∀ v s', Kp ν s s' → P.on (vis ν Mut s'.heap) v → Q (.ret v) s') : Xs ν prog w A (exec (.Return (some e) pos) env) Q s :=
  .mk fun E => wpAny_Return_some (h.use (Kp.refl _) hq)
theorem Xs.if {test : PySem.Expr} {body orelse : List Stmt} {pos : Pos} {b : Bool} {Q : Flow → Shared → Prop} (ht : Eb ν prog w A s (isTrue test env (eval test env)) b)
    (h1 : b = true → ∀ s', Kp ν s s' → Xs ν prog w A (execs body env) Q s') (h2 : b = false → ∀ s', Kp ν s s' → Xs ν prog w A (execs orelse env) Q s') : Xs ν prog w A (exec (.If test body orelse pos) env) Q s :=
  .mk fun E => wpAny_If (ht.use (Kp.refl _) fun s' k => by
    cases b with
    | true => exact (h1 rfl s' k).go E
    | false => exact (h2 rfl s' k).go E)
theorem Xs.assert {test : PySem.Expr} {msg : Option PySem.Expr} {pos : Pos} {Q : Flow → Shared → Prop} (ht : Eb ν prog w A s (isTrue test env (eval test env)) true)
    (h : ∀ s', Kp ν s s' → Q .next s') : Xs ν prog w A (exec (.Assert test msg pos) env) Q s :=
  .mk fun E => wpAny_Assert_holds (ht.use (Kp.refl _) fun s' k => ⟨rfl, h s' k⟩)
theorem Xs.brk {pos : Pos} {Q : Flow → Shared → Prop} (h : Q .brk s) : Xs ν prog w A (exec (.Break pos) env) Q s := .mk fun E => wpAny_Break h
theorem Xs.assign {A' : Around} (F : Fm ν env s₀ s m cm) (C : Cx ν ro A' Mut H s) (hL : env.locals ∈ Mut) {x : Str} {p pos : Pos} {value : PySem.Expr} {P : VP} {Q : Flow → Shared → Prop} (hv : Ev ν prog w A Mut s (eval value env) P)
    (h : ∀ v s', Fm ν env s₀ s' (upd m x v) cm → Cx ν ro A' Mut H s' → Step ν (Env.mut env) Mut s s' → P.on (vis ν Mut s'.heap) v → Q .next s') (hk : env.kindOf x = some .local := by rfl)
    (hs : swapsWith value (some (.Name x p)) pos.line env = pure false := by rfl) : Xs ν prog w A (exec (.Assign [.Name x p] value pos) env) Q s :=
  .mk fun E => wpAny_Assign_Name (hv.use (Kp.refl _) fun v s' k pv => (F.at k).store (C.at k) hL (fun s'' F' C' st => h v s'' F' C' ((Step.of k).trans st) (P.mono st.fl pv)) hk) hs
theorem Xs.assignC (F : Fm ν env s₀ s m cm) (C : Cx ν ro A Mut H s) (hM : ∀ a ∈ Env.mut env, a ∈ Mut) {x : Str} {p pos : Pos} {value : PySem.Expr} {P : VP} {Q : Flow → Shared → Prop} (hv : Ev ν prog w A Mut s (eval value env) P) (c : Addr) (hl : env.cells.lookup x = some c)
    (h : ∀ v s', Fm ν env s₀ s' m (upd cm x v) → Cx ν ro A Mut H s' → Step ν (Env.mut env) Mut s s' → P.on (vis ν Mut s'.heap) v → Q .next s') (hk : env.kindOf x = some .cell := by rfl)
    (hs : swapsWith value (some (.Name x p)) pos.line env = pure false := by rfl) : Xs ν prog w A (exec (.Assign [.Name x p] value pos) env) Q s :=
  .mk fun E => wpAny_Assign_Name (hv.use (Kp.refl _) fun v s' k pv => (F.at k).storeC (C.at k) hM c hl (fun s'' F' C' st => h v s'' F' C' ((Step.of k).trans st) (P.mono st.fl pv)) hk) hs
theorem Xs.augI {A' : Around} (F : Fm ν env s₀ s m cm) (C : Cx ν ro A' Mut H s) (hL : env.locals ∈ Mut) {x : Str} {p pos : Pos} {value : PySem.Expr} {i k : Int} {t : Tok} {Q : Flow → Shared → Prop} (hx : m x = some (.int i t)) (hv : Ev ν prog w A Mut s (eval value env) (vI k))
    (h : ∀ t' s', Fm ν env s₀ s' (upd m x (.int (i + k) t')) cm → Cx ν ro A' Mut H s' → Step ν (Env.mut env) Mut s s' → Q .next s') (hk : env.kindOf x = some .local := by rfl) : Xs ν prog w A (exec (.AugAssign (.Name x p) .Add value pos) env) Q s :=
  .mk fun E => wpAny_AugAssign_Name ((F.var hx hk).load F.kf (hv.use (Kp.refl _) fun v s' k1 pv => by
    obtain ⟨u, rfl⟩ := pv
    refine iadd_int ?_
    have k2 : Kp ν s { s' with toks := s'.toks + 1 } := k1.trans Kp.tok
    exact (F.at k2).store (C.at k2) hL (fun s'' F' C' st => h _ s'' F' C' ((Step.of k2).trans st)) hk))
theorem Xs.while {test : PySem.Expr} {body : List Stmt} {pos : Pos} {Q : Flow → Shared → Prop} (I : Nat → Shared → Prop)
    (turn : ∀ n s, I n s → ∃ b, Eb ν prog w A s (isTrue test env (eval test env)) b ∧
      (b = true → ∀ s', Kp ν s s' → Xs ν prog w A (execs body env) (fun f s₃ => match f with | .next => ∃ k, k < n ∧ I k s₃ | .cont => ∃ k, k < n ∧ I k s₃ | .brk => Q .next s₃ | .ret v => Q (.ret v) s₃) s') ∧ (b = false → ∀ s', Kp ν s s' → Q .next s'))
    (n : Nat) (h : I n s) : Xs ν prog w A (exec (.While test body [] pos) env) Q s := .mk fun E => wpAny_While (codeAny_whileLoop I (fun n s hI => by
  obtain ⟨b, hb, h1, h2⟩ := turn n s hI
  refine hb.use (Kp.refl _) fun s' k => ?_
  cases b with
  | true =>
    refine wpAny_mono ((h1 rfl s' k).go _) (fun f s₃ y => ?_) fun _ _ y => y
    cases f <;> exact y
  | false => exact wpAny_execs_nil (h2 rfl s' k)) n h)
end
end Mine
set_option maxRecDepth 10000
namespace Mine
open PySem PySem.W PyProof.Rows PySem.Calls PySem.Spec
section
variable {ro : Nat} {prog : Program} {w : World} {A : Around} {Mut : List Addr} {s₀ s₁ s : Shared} {env : Env} {H : Heap} {m cm : Str → Option Value}
theorem Cx.drop {N : List Addr} (C : Cx ν ro A (N ++ Mut) H s) : Cx ν ro A Mut H s :=
  ⟨C.hh, C.dep, C.un, C.tab, fun a ha => C.old a (List.mem_append_right _ ha), C.base.trans (vis_sub fun a ha => List.mem_append_right _ ha), C.tk⟩
theorem Cx.but {N : List Addr} (C : Cx ν ro A (N ++ Mut) H s) {h' : Heap} {tk : Nat} (b : ∀ b o, b ∉ N → s.heap.get? b = some o → h'.get? b = some o) (e : ∀ a ∈ N, ∃ o, h'.get? a = some o) (ht : s.toks ≤ tk) : Cx ν ro A (N ++ Mut) H { s with heap := h', toks := tk } := by
  have n57 : 57 ∉ N := fun h => (C.old 57 (List.mem_append_left _ h)).1 rfl
  refine ⟨C.hh, C.dep, C.un, ?_, fun a ha => ?_, C.base.trans (vis_but b), Nat.le_trans C.tk ht⟩
  · obtain ⟨ps, q, r, o, eo⟩ := C.tab
    refine ⟨ps, b 57 _ n57 q, r, ?_⟩
    by_cases h : ν ∈ N
    · exact e ν h
    · exact ⟨o, b ν o h eo⟩
  · obtain ⟨n, o, q⟩ := C.old a ha
    by_cases h : a ∈ N
    · exact ⟨n, e a h⟩
    · exact ⟨n, o, b a o h q⟩
theorem Fm.but {N : List Addr} (F : Fm ν env s₀ s m cm) {h' : Heap} {tk : Nat} (b : ∀ b o, b ∉ N → s.heap.get? b = some o → h'.get? b = some o) (hf : ∀ a ∈ N, s₀.heap.get? a = none) (hm : ∀ a ∈ Env.mut env, a ∉ N) (ht : s.toks ≤ tk) : Fm ν env s₀ { s with heap := h', toks := tk } m cm := by
  have n57 : 57 ∉ N := fun h => by
    have := hf 57 h
    obtain ⟨ps, e, _⟩ := F.tab
    rw [e] at this
    cases this
  refine ⟨F.k.to (F.k.le.but b hf n57) (Nat.le_trans F.k.tk ht), F.tab, F.kf, F.ns.at' fun o e => b _ _ (hm _ (.head _)) e, fun n c e => ?_, F.freshL, F.freshC, F.apart, F.neL⟩
  obtain ⟨o, q, d⟩ := F.cell n c e
  exact ⟨o, b _ _ (hm _ (.tail _ (List.mem_map.mpr ⟨_, mem_of_lookup e, rfl⟩))) q, d⟩
theorem Cx.butDrop {N : List Addr} (C : Cx ν ro A (N ++ Mut) H s) {h' : Heap} {tk : Nat} (b : ∀ b o, b ∉ N → s.heap.get? b = some o → h'.get? b = some o) (d : ∀ a ∈ Mut, a ∉ N) (hν : ν ∉ N) (ht : s.toks ≤ tk) : Cx ν ro A Mut H { s with heap := h', toks := tk } := by
  have n57 : 57 ∉ N := fun h => (C.old 57 (List.mem_append_left _ h)).1 rfl
  refine ⟨C.hh, C.dep, C.un, ?_, fun a ha => ?_, (C.base.trans (vis_but b)).trans (vis_sub fun a ha => List.mem_append_right _ ha), Nat.le_trans C.tk ht⟩
  · obtain ⟨ps, q, r, o, eo⟩ := C.tab
    exact ⟨ps, b 57 _ n57 q, r, o, b ν o hν eo⟩
  · obtain ⟨n, o, q⟩ := C.old a (List.mem_append_right _ ha)
    exact ⟨n, o, b a o (d a ha) q⟩
theorem Xs.for {target iter : PySem.Expr} {body : List Stmt} {pos : Pos} {Psrc : VP} {items : List VP} {Q : Flow → Shared → Prop} (own : List Addr) (K : Nat → Heap → Heap → (Str → Option Value) → (Str → Option Value) → Prop)
    (Kst : ∀ i g g' h h' m cm, Fl g g' → (∀ b ∈ own, ∀ o, h.get? b = some o → h'.get? b = some o) → K i g h m cm → K i g' h' m cm)
    (F : Fm ν env s₀ s m cm) (C : Cx ν ro A Mut H s) (hM : ∀ a ∈ Env.mut env ++ own, a ∈ Mut)
    (hsrc : Ev ν prog w A Mut s (eval iter env) Psrc) (hit : ∀ v s', Kp ν s s' → Psrc.on (vis ν Mut s'.heap) v → Iter ν prog w A Mut s' v items)
    (start : ∀ N s', Kp ν s s' → Fl (vis ν Mut s.heap) (vis ν (N ++ Mut) s'.heap) → K 0 (vis ν (N ++ Mut) s'.heap) s'.heap m cm)
    (turn : ∀ N i p s' v m' cm', items[i]? = some p → Fm ν env s₀ s' m' cm' → Cx ν ro A (N ++ Mut) H s' → Fl (vis ν Mut s.heap) (vis ν (N ++ Mut) s'.heap) → K i (vis ν (N ++ Mut) s'.heap) s'.heap m' cm' → p.on (vis ν (N ++ Mut) s'.heap) v →
      ∀ E, wpAny (model prog w) A (PySem.assign target env v) (fun _ s₂ => Xs ν prog w A (execs body env) (fun f s₃ => match f with
        | .brk => Q .next s₃
        | .ret v => Q (.ret v) s₃
        | _ => ∃ m₃ cm₃, Fm ν env s₀ s₃ m₃ cm₃ ∧ Cx ν ro A (N ++ Mut) H s₃ ∧ Step ν (Env.mut env ++ own) (N ++ Mut) s' s₃ ∧ K (i + 1) (vis ν (N ++ Mut) s₃.heap) s₃.heap m₃ cm₃) s₂) E s')
    (done : ∀ s' m' cm', Fm ν env s₀ s' m' cm' → Cx ν ro A Mut H s' → Fl (vis ν Mut s.heap) (vis ν Mut s'.heap) → K items.length (vis ν Mut s'.heap) s'.heap m' cm' → Q .next s')
    (hs : ∀ x, foldedSetIterable iter env x = pure x := by intro _; rfl) : Xs ν prog w A (exec (.For target iter body [] pos) env) Q s := .mk fun E => by
  refine wpAny_For (hsrc.use (Kp.refl _) fun xv sa ka pa => ?_) hs
  refine (hit xv sa ka pa).go _ _ fun I fp wr P St s₂ k₂ hwn hwr hfp hfl hfM hqu W hst hP => ?_
  have ta : Tab ν sa.heap := ka.le.tab C.tab
  have fl₀ : Fl (vis ν Mut sa.heap) (vis ν (wr ++ Mut) s₂.heap) := vis_more k₂.le hwn
  have fl₂ : Fl (vis ν Mut s.heap) (vis ν (wr ++ Mut) s₂.heap) := (ka.vis _).trans fl₀
  have stand : ∀ b, (∃ o, s.heap.get? b = some o) → b ≠ 57 → b ∉ wr := fun b ⟨o, e⟩ n hm => by
    obtain ⟨sl, e'⟩ := ka.le.frm b o n e
    rw [hwn b hm] at e'
    cases e'
  have mutW : ∀ b ∈ Mut, b ∉ wr := fun b hb => stand b (C.old b hb).2 (C.old b hb).1
  have hwr0 : ∀ b ∈ wr, s₀.heap.get? b = none := fun b hb => by
    cases e : s₀.heap.get? b with
    | none => rfl
    | some o =>
      have n57 : b ≠ 57 := (fresh57 ta (hwn b hb)).1
      obtain ⟨sl, e'⟩ := F.k.le.frm b o n57 e
      exact absurd hb (stand b ⟨_, e'⟩ n57)
  have C₂ : Cx ν ro A (wr ++ Mut) H s₂ := by
    have c := C.at (ka.trans k₂)
    refine ⟨c.hh, c.dep, c.un, c.tab, fun a ha => ?_, C.base.trans fl₂, c.tk⟩
    rcases List.mem_append.mp ha with q | q
    · exact ⟨(fresh57 ta (hwn a q)).1, hwr 0 _ hst a q⟩
    · exact c.old a q
  refine codeAny_mono (codeAny_forLoop_any (R := fun r s' => match r with | .ok f => Q f s' | .error e => cameBackBy (model prog w) A env E e s')
    (fun n s' => ∃ i m' cm', i ≤ items.length ∧ n = items.length + 1 - i ∧ St i s'.heap ∧ Fm ν env s₀ s' m' cm' ∧ Cx ν ro A (wr ++ Mut) H s' ∧ Fl (vis ν Mut sa.heap) (vis ν (wr ++ Mut) s'.heap) ∧ K i (vis ν (wr ++ Mut) s'.heap) s'.heap m' cm')
    ?_ (items.length + 1) ⟨0, m, cm, Nat.zero_le _, rfl, hst, F.at (ka.trans k₂), C₂, fl₀, start _ _ (ka.trans k₂) fl₂⟩) fun _ _ y => y
  rintro n s' ⟨i, m', cm', hi, rfl, st, F', C', fl', k'⟩
  have mutN : ∀ a ∈ Env.mut env, a ∉ wr := fun a ha => mutW a (hM a (List.mem_append_left _ ha))
  have ownN : ∀ a ∈ own, a ∉ wr := fun a ha => mutW a (hM a (List.mem_append_right _ ha))
  by_cases hlt : i < items.length
  · refine wpAny_with_toks (n := s'.toks) (Nat.le_refl _) (W.item i _ _ _ hlt st fun v h₁ tk₁ hPv st₁ hk₁ tle => ?_)
    refine quiet_go (hqu _ _ st₁) ?_
    have F₁ : Fm ν env s₀ { s' with heap := h₁, toks := tk₁ } m' cm' := F'.but (tk := tk₁) hk₁ hwr0 mutN tle
    have C₁ : Cx ν ro A (wr ++ Mut) H { s' with heap := h₁, toks := tk₁ } := C'.but (tk := tk₁) hk₁ (fun a ha => hwr _ _ st₁ a ha) tle
    have f1 : Fl (vis ν (wr ++ Mut) s'.heap) (vis ν (wr ++ Mut) h₁) := vis_but hk₁
    have K₁ := Kst i _ _ _ h₁ m' cm' f1 (fun b hb o e => hk₁ b o (ownN b hb) e) k'
    obtain ⟨p, hp⟩ : ∃ p, items[i]? = some p := ⟨_, List.getElem?_eq_getElem hlt⟩
    have pv : p.on (vis ν (wr ++ Mut) h₁) v := p.mono (fl'.trans f1) (hP i v hPv p hp)
    refine wpAny_mono (turn wr i p _ v m' cm' hp F₁ C₁ (((ka.vis _).trans fl').trans f1) K₁ pv _) (fun _ s₂' xs => ?_) fun _ _ y => y
    refine wpAny_mono (xs.go _) (fun f s₃ y => ?_) fun _ _ y => y
    have nxt : (∃ m₃ cm₃, Fm ν env s₀ s₃ m₃ cm₃ ∧ Cx ν ro A (wr ++ Mut) H s₃ ∧ Step ν (Env.mut env ++ own) (wr ++ Mut) { s' with heap := h₁, toks := tk₁ } s₃ ∧ K (i + 1) (vis ν (wr ++ Mut) s₃.heap) s₃.heap m₃ cm₃) →
        ∃ k, k < items.length + 1 - i ∧ ∃ i' m' cm', i' ≤ items.length ∧ k = items.length + 1 - i' ∧ St i' s₃.heap ∧ Fm ν env s₀ s₃ m' cm' ∧ Cx ν ro A (wr ++ Mut) H s₃ ∧ Fl (vis ν Mut sa.heap) (vis ν (wr ++ Mut) s₃.heap) ∧ K i' (vis ν (wr ++ Mut) s₃.heap) s₃.heap m' cm' := by
      rintro ⟨m₃, cm₃, F₃, C₃, S₃, K₃⟩
      refine ⟨_, ?_, i + 1, m₃, cm₃, hlt, rfl, W.frame _ _ _ st₁ (fun b hb o e => ?_), F₃, C₃, (fl'.trans f1).trans S₃.fl, K₃⟩
      · lia
      · obtain ⟨n9, o9, e9⟩ := hfp _ _ st₁ b hb
        have : o = o9 := Option.some.inj (e.symm.trans e9)
        subst this
        exact S₃.own b o (fun hm => hfM b hb (hM b hm)) n9 e
    cases f with
    | next => exact nxt y
    | cont => exact nxt y
    | brk => exact y
    | ret v => exact y
  · have hin : i = items.length := by lia
    subst hin
    refine wpAny_with_toks (n := s'.toks) (Nat.le_refl _) (W.done _ _ _ st fun h₁ tk₁ hk₁ tle => ?_)
    refine wpAny_execs_nil ?_
    have f2 : Fl (vis ν (wr ++ Mut) s'.heap) (vis ν Mut h₁) := (vis_but hk₁).trans (vis_sub fun a ha => List.mem_append_right _ ha)
    exact done { s' with heap := h₁, toks := tk₁ } m' cm' (F'.but (tk := tk₁) hk₁ hwr0 mutN tle) (C'.butDrop (tk := tk₁) hk₁ mutW (fun hm => (off_of ta (hwn ν hm)).2 rfl) tle) (((ka.vis _).trans fl').trans f2) (Kst _ _ _ _ h₁ m' cm' f2 (fun b hb o e => hk₁ b o (ownN b hb) e) k')
end
end Mine
set_option maxRecDepth 10000
namespace Mine
open PySem PySem.W PyProof.Rows PySem.Calls PySem.Spec PySem.NumText
section
variable {ro : Nat} {prog : Program} {w : World} {A : Around} {Mut : List Addr} {s₁ s : Shared} {env : Env} {H : Heap} {whole : Sem Value} {pos : Pos}
structure At (ν : Nat) (prog : Program) (w : World) (A : Around) (s₁ : Shared) (op : BoolOp) (es : List PySem.Expr) (env : Env) (b : Bool) : Prop where
  go : ∀ s E, Kp ν s₁ s → wpAny (model prog w) A (allTrue op es env) (fun x s' => Kp ν s s' ∧ x = b) E s
theorem At.andNil : At ν prog w A s₁ .And [] env true := .mk fun s E k => wpAny_allTrue_And_nil ⟨Kp.refl _, rfl⟩
theorem At.orNil : At ν prog w A s₁ .Or [] env false := .mk fun s E k => wpAny_allTrue_Or_nil ⟨Kp.refl _, rfl⟩
theorem At.and {e : PySem.Expr} {rest : List PySem.Expr} {b c : Bool} (h1 : Eb ν prog w A s₁ (isTrue e env (eval e env)) b) (h2 : b = true → At ν prog w A s₁ .And rest env c) : At ν prog w A s₁ .And (e :: rest) env (b && c) :=
  .mk fun s E k => wpAny_allTrue_And_cons (h1.use k fun s' k1 => by
    cases b with
    | true => exact wpAny_mono ((h2 rfl).go s' E (k.trans k1)) (fun _ _ y => ⟨k1.trans y.1, by simpa using y.2⟩) fun _ _ y => y
    | false => exact ⟨k1, rfl⟩)
theorem At.or {e : PySem.Expr} {rest : List PySem.Expr} {b c : Bool} (h1 : Eb ν prog w A s₁ (isTrue e env (eval e env)) b) (h2 : b = false → At ν prog w A s₁ .Or rest env c) : At ν prog w A s₁ .Or (e :: rest) env (b || c) :=
  .mk fun s E k => wpAny_allTrue_Or_cons (h1.use k fun s' k1 => by
    cases b with
    | false => exact wpAny_mono ((h2 rfl).go s' E (k.trans k1)) (fun _ _ y => ⟨k1.trans y.1, by simpa using y.2⟩) fun _ _ y => y
    | true => exact ⟨k1, rfl⟩)
theorem Eb.op {op : BoolOp} {es : List PySem.Expr} {b : Bool} (h : At ν prog w A s₁ op es env b) : Eb ν prog w A s₁ (isTrue (.BoolOp op es pos) env whole) b :=
  .mk fun s E k => wpAny_isTrue_BoolOp (h.go s E k)
theorem Eb.and2 {e f : PySem.Expr} {b c : Bool} (h1 : Eb ν prog w A s₁ (isTrue e env (eval e env)) b) (h2 : b = true → Eb ν prog w A s₁ (isTrue f env (eval f env)) c) : Eb ν prog w A s₁ (isTrue (.BoolOp .And [e, f] pos) env whole) (b && c) := by
  have := Eb.op (pos := pos) (whole := whole) (At.and h1 fun hb => At.and (h2 hb) fun _ => At.andNil)
  simpa using this
theorem Eb.or2 {e f : PySem.Expr} {b c : Bool} (h1 : Eb ν prog w A s₁ (isTrue e env (eval e env)) b) (h2 : b = false → Eb ν prog w A s₁ (isTrue f env (eval f env)) c) : Eb ν prog w A s₁ (isTrue (.BoolOp .Or [e, f] pos) env whole) (b || c) := by
  have := Eb.op (pos := pos) (whole := whole) (At.or h1 fun hb => At.or (h2 hb) fun _ => At.orNil)
  simpa using this
theorem Eb.not {e : PySem.Expr} {b : Bool} (h : Eb ν prog w A s₁ (isTrue e env (eval e env)) b) : Eb ν prog w A s₁ (isTrue (.UnaryOp .Not e pos) env whole) (!b) :=
  .mk fun s E k => wpAny_isTrue_Not (h.use k fun s' k1 => ⟨k1, rfl⟩)
theorem Eb.eq {t : Sem Bool} {b c : Bool} (h : Eb ν prog w A s₁ t b) (e : b = c) : Eb ν prog w A s₁ t c := e ▸ h
theorem Turn.none {cenv : Env} {elt : PySem.Expr} {p q : VP} {s₃ : Shared} (h : Ev ν prog w A Mut s₃ (eval elt cenv) q) : Turn ν prog w A Mut cenv [] elt (p, true, q) s₃ :=
  ⟨fun E => wpAny_pure ⟨Kp.refl _, rfl⟩, fun _ => h⟩
theorem Turn.one {cenv : Env} {elt e : PySem.Expr} {p q : VP} {b : Bool} {s₃ : Shared} (ht : Eb ν prog w A s₃ (isTrue e cenv (eval e cenv)) b) (h : b = true → Ev ν prog w A Mut s₃ (eval elt cenv) q) : Turn ν prog w A Mut cenv [e] elt (p, b, q) s₃ := by
  refine ⟨fun E => ?_, h⟩
  simp only [List.forIn_cons, List.forIn_nil, if_true]
  refine wpAny_bind (wpAny_bind (ht.use (Kp.refl _) fun s' k => ?_))
  exact wpAny_pure (wpAny_pure ⟨k, rfl⟩)
theorem op_isNone {v : Value} : Op ν prog w A Mut s (compareOp .Is v .none) (vB (v == .none)) := .mk fun E => is_none_gen ⟨Kp.refl _, rfl⟩
theorem Ev.isNone {l : PySem.Expr} {v : Value} {k : Nat} {p : Pos} (h : Ev ν prog w A Mut s₁ (eval l env) (vV v)) : Eb ν prog w A s₁ (isTrue (.Compare l [.Is] [.Constant .none k p] pos) env whole) (v == .none) :=
  Eb.cmp h Ev.cNone (fun v1 v2 s k p1 p2 => by obtain rfl : v1 = v := p1; obtain rfl : v2 = .none := p2; exact op_isNone) rfl
theorem op_inS {x y : Str} {v1 v2 : Value} (p1 : (vS y).on (vis ν Mut s.heap) v1) (p2 : (vS x).on (vis ν Mut s.heap) v2) : Op ν prog w A Mut s (compareOp .In v1 v2) (vB (Txt.contains x y)) := .mk fun E => by
  obtain ⟨t, rfl⟩ := p1
  obtain ⟨u, rfl⟩ := p2
  exact PySem.P.in_str ⟨Kp.refl _, rfl⟩
theorem op_ltS {x y : Str} {v1 v2 : Value} (p1 : (vS x).on (vis ν Mut s.heap) v1) (p2 : (vS y).on (vis ν Mut s.heap) v2) : Op ν prog w A Mut s (compareOp .Lt v1 v2) (vB (decide (x.cps.toList < y.cps.toList))) := .mk fun E => by
  obtain ⟨t, rfl⟩ := p1
  obtain ⟨u, rfl⟩ := p2
  exact PySem.P.lt_str ⟨Kp.refl _, rfl⟩
end
noncomputable def hx (d : Nat) : Nat := if d < 10 then 48 + d else 55 + d
theorem hex_all : (List.range 256).map (fun c => (int_private% "readNumeral") 0 16 [hx (c / 16), hx (c % 16)]) = (List.range 256).map fun (c : Nat) => (int_private% "Numeral.value") (c : Int) := by kernel_rfl
theorem hex_one {c : Nat} (h : c < 256) : (int_private% "readNumeral") 0 16 [hx (c / 16), hx (c % 16)] = (int_private% "Numeral.value") (c : Int) := by
  have := congrArg (fun l => l[c]?) hex_all
  simpa [List.getElem?_map, List.getElem?_range h] using this
theorem hx_ne (d : Nat) : hx d ≠ 0 := by unfold hx; split <;> lia
theorem hx_lt {d : Nat} (h : d < 16) : hx d < 128 := by unfold hx; split <;> lia
set_option maxHeartbeats 4000000 in
theorem hex_gives {c : Nat} (hc : c < 256) {u t : Tok} : Gives (Builtin.«int.__new__» ⟨[.type "int", .str ⟨#[hx (c / 16), hx (c % 16)]⟩ u, .int 16 t], []⟩) (.int c) :=
  .of_wp fun M A E s Q h => by
    obtain ⟨hp, g, d, tk, os⟩ := s
    have f1 := F.conv_sub_int
    have f2 := F.madeHere_int
    have e1 : ([hx (c / 16), hx (c % 16)].takeWhile (· != 0)) = [hx (c / 16), hx (c % 16)] := by simp [hx_ne]
    have hr := hex_one hc
    have b1 := hx_lt (d := c / 16) (by lia)
    have b2 := hx_lt (d := c % 16) (by lia)
    have hk := KIN.Hid.mk hr
    clear hr
    have hall : ((⟨#[hx (c / 16), hx (c % 16)]⟩ : Str).cps.all (· < 128)) = true := by simp [b1, b2]
    have hq := KIN.Hid.mk h
    clear h hc
    repeat (any_goals (first
      | assumption
      | (with_reducible refine wpAny_ite_true hall ?_)
      | ((with_reducible show wpAny _ _ ((int_private% "intFromText") _ _ _) _ _ _); refine hex_wp (n := c) (by simp [hx_ne]) (by rw [e1]; exact hk.out) (by simp [hx_ne]) ?_)
      | wp_step))
    rw [if_pos hall]
    have e3 : ((⟨#[hx (c / 16), hx (c % 16)]⟩ : Str).cps.toList) = [hx (c / 16), hx (c % 16)] := rfl
    have hk' : (int_private% "readNumeral") 0 (Int.toNat 16) [hx (c / 16), hx (c % 16)] = (int_private% "Numeral.value") (c : Int) := hk.out
    rw [e3, e1, hk']
    refine wpAny_mkInt (s := ⟨hp, g, d, tk, os⟩) ?_
    repeat (any_goals (first | assumption | wp_step))
    all_goals exact ⟨_, rfl, hq.out⟩
theorem int16 {prog : Program} {w : World} {A : Around} {Mut : List Addr} {s : Shared} {c : Nat} {v u : Value} (hc : c < 256) (p : (vS ⟨#[hx (c / 16), hx (c % 16)]⟩).on (vis ν Mut s.heap) v) (q : (vI 16).on (vis ν Mut s.heap) u) :
    Op ν prog w A Mut s (call (.type "int") [v, u]) (vI c) := .mk fun E => by
  obtain ⟨t, rfl⟩ := p
  obtain ⟨t', rfl⟩ := q
  exact callType_new F.called_int F.newNe_int (by kernel_rfl) (by kernel_rfl) (fun obj => by unfold argsOk; kernel_rfl) F.entry_int_new (hex_gives hc).meets (show (Made.int c).post _ s from ⟨rfl, Kp.tok, _, rfl⟩)
end Mine
set_option maxRecDepth 10000
namespace Mine
open PySem PySem.W PyProof.Rows PySem.Calls PySem.Spec
structure Dat (P : VP) (d : PyData) : Prop where
  rd : ∀ h v, P.on h v → ∃ as, Reads h v d as
  lay : d.canLay0 = true
  dep : d.depth ≤ 4
theorem Dat.i {n : Int} : Dat (vI n) (.int n) := ⟨fun h v ⟨t, e⟩ => ⟨[], e ▸ .int n t⟩, by simp [PyData.canLay0], by simp [PyData.depth]⟩
theorem Dat.s {x : Str} (hx : PyData.strOk x = true) : Dat (vS x) (.str x) := ⟨fun h v ⟨t, e⟩ => ⟨[], e ▸ .str x t⟩, by rw [PyData.canLay0]; exact hx, by simp [PyData.depth]⟩
inductive Dats (n : Nat) : List VP → List PyData → Prop
  | nil : Dats n [] []
  | cons {P d Ps ds} (h : Dat P d) (hn : d.depth ≤ n) (t : Dats n Ps ds) : Dats n (P :: Ps) (d :: ds)
theorem Dats.map {n : Nat} {α : Type} {f : α → VP} {g : α → PyData} : ∀ (l : List α), (∀ x ∈ l, Dat (f x) (g x) ∧ (g x).depth ≤ n) → Dats n (l.map f) (l.map g)
  | [], _ => .nil
  | x :: r, h => .cons (h x (.head _)).1 (h x (.head _)).2 (Dats.map r fun y hy => h y (.tail _ hy))
theorem Dats.rd {n : Nat} {h : Heap} : ∀ {Ps : List VP} {ds : List PyData} {vs : List Value}, Dats n Ps ds → All2 Ps h vs → ∃ as, ReadsAll h vs ds as
  | [], _, _, .nil, e => by cases e; exact ⟨[], .nil⟩
  | P :: Ps, _, _, .cons hd _ tl, ⟨v, r, e, p, q⟩ => by
    subst e
    obtain ⟨as, h1⟩ := hd.rd _ _ p
    obtain ⟨bs, h2⟩ := tl.rd q
    exact ⟨as ++ bs, .cons h1 h2⟩
theorem Dats.lay {n : Nat} : ∀ {Ps : List VP} {ds : List PyData}, Dats n Ps ds → PyData.canLayAll0 ds = true ∧ PyData.depthAll ds ≤ n
  | _, _, .nil => ⟨rfl, Nat.zero_le _⟩
  | _, _, .cons hd hn tl => by
    obtain ⟨h1, h2⟩ := tl.lay
    refine ⟨by rw [PyData.canLayAll0, hd.lay, h1]; rfl, ?_⟩
    rw [PyData.depthAll]
    exact Nat.max_le.mpr ⟨hn, h2⟩
theorem Dat.l {n : Nat} (hn : n < 4) {Ps : List VP} {ds : List PyData} (h : Dats n Ps ds) : Dat (vL Ps) (.list ds) :=
  ⟨fun hp v ⟨a, vs, e, ⟨c, l⟩, q⟩ => by
    obtain ⟨as, r⟩ := h.rd q
    exact ⟨a :: as, e ▸ .list l rfl rfl (by simpa using r)⟩, by rw [PyData.canLay0]; exact h.lay.1, by rw [PyData.depth]; have := h.lay.2; lia⟩
theorem reads_up {h h' : Heap} (k : Fl h h') {v : Value} {d : PyData} {as : List Addr} (x : Reads h v d as) : Reads h' v d as := PyProof.Rows.Reads.keeps k x
section
variable {ro : Nat} {prog : Program} {w : World} {A : Around} {Mut : List Addr} {s₁ s : Shared} {env : Env} {H : Heap} {whole : Sem Value} {pos : Pos} {l r : PySem.Expr}
theorem shapedD {P : VP} {d : PyData} (h : Dat P d) : SeqAt.shaped d = true := by
  unfold SeqAt.shaped
  rw [h.lay, Bool.true_and, decide_eq_true_eq]
  have := h.dep
  lia
theorem op_eqD (C : Cx ν ro A Mut H s) {P Q : VP} {d e : PyData} (hP : Dat P d) (hQ : Dat Q e) {v1 v2 : Value} (p1 : P.on (vis ν Mut s.heap) v1) (p2 : Q.on (vis ν Mut s.heap) v2) : Op ν prog w A Mut s (compareOp .Eq v1 v2) (vB (d.eqv e)) := .mk fun E => by
  obtain ⟨as, r1⟩ := hP.rd _ _ p1
  obtain ⟨bs, r2⟩ := hQ.rd _ _ p2
  exact eq_dataH (reads_up vis_le r1) (reads_up vis_le r2) (shapedD hP) (shapedD hQ) (by have := C.un; lia) ⟨Kp.refl _, rfl⟩
theorem op_neD (C : Cx ν ro A Mut H s) {P Q : VP} {d e : PyData} (hP : Dat P d) (hQ : Dat Q e) {v1 v2 : Value} (p1 : P.on (vis ν Mut s.heap) v1) (p2 : Q.on (vis ν Mut s.heap) v2) : Op ν prog w A Mut s (compareOp .NotEq v1 v2) (vB (!d.eqv e)) := .mk fun E => by
  obtain ⟨as, r1⟩ := hP.rd _ _ p1
  obtain ⟨bs, r2⟩ := hQ.rd _ _ p2
  exact ne_dataH (reads_up vis_le r1) (reads_up vis_le r2) (shapedD hP) (shapedD hQ) (by have := C.un; lia) ⟨Kp.refl _, rfl⟩
theorem Ev.eqD (C : Cx ν ro A Mut H s₁) {P Q : VP} {d e : PyData} (hP : Dat P d) (hQ : Dat Q e) (h1 : Ev ν prog w A Mut s₁ (eval l env) P) (h2 : Ev ν prog w A Mut s₁ (eval r env) Q) (hb : behindInMarks .Eq r = false := by rfl) :
    Ev ν prog w A Mut s₁ (eval (.Compare l [.Eq] [r] pos) env) (vB (d.eqv e)) := Ev.cmp h1 h2 (fun v1 v2 s k p1 p2 => op_eqD (C.at k) hP hQ p1 p2) hb
theorem Eb.eqD (C : Cx ν ro A Mut H s₁) {P Q : VP} {d e : PyData} (hP : Dat P d) (hQ : Dat Q e) (h1 : Ev ν prog w A Mut s₁ (eval l env) P) (h2 : Ev ν prog w A Mut s₁ (eval r env) Q) (hb : behindInMarks .Eq r = false := by rfl) :
    Eb ν prog w A s₁ (isTrue (.Compare l [.Eq] [r] pos) env whole) (d.eqv e) := Eb.cmp h1 h2 (fun v1 v2 s k p1 p2 => op_eqD (C.at k) hP hQ p1 p2) hb
theorem Eb.neD (C : Cx ν ro A Mut H s₁) {P Q : VP} {d e : PyData} (hP : Dat P d) (hQ : Dat Q e) (h1 : Ev ν prog w A Mut s₁ (eval l env) P) (h2 : Ev ν prog w A Mut s₁ (eval r env) Q) (hb : behindInMarks .NotEq r = false := by rfl) :
    Eb ν prog w A s₁ (isTrue (.Compare l [.NotEq] [r] pos) env whole) (!d.eqv e) := Eb.cmp h1 h2 (fun v1 v2 s k p1 p2 => op_neD (C.at k) hP hQ p1 p2) hb
theorem Eb.eqB {b c : Bool} (h1 : Ev ν prog w A Mut s₁ (eval l env) (vB b)) (h2 : Ev ν prog w A Mut s₁ (eval r env) (vB c)) (hb : behindInMarks .Eq r = false := by rfl) :
    Eb ν prog w A s₁ (isTrue (.Compare l [.Eq] [r] pos) env whole) (b == c) := Eb.cmp h1 h2 (fun v1 v2 s k p1 p2 => .mk fun E => by obtain rfl : v1 = .bool b := p1; obtain rfl : v2 = .bool c := p2; exact eq_bool ⟨Kp.refl _, rfl⟩) hb
theorem eqv_nil (ds : List PyData) : (PyData.list ds).eqv (.list []) = ds.isEmpty := by
  rw [PyData.eqv]
  cases ds <;> simp [PyData.eqvAll]
theorem outs_filter {α : Type} (l : List α) (f : α → VP) (b : α → Bool) (g : α → VP) : outsOf (l.map fun x => (f x, b x, g x)) = (l.filter b).map g := by
  unfold outsOf
  induction l with
  | nil => rfl
  | cons a r ih =>
    rw [List.map_cons, List.filter_cons, List.filter_cons]
    cases h : b a <;> simp [ih]
theorem Cx.in {N : List Addr} {s' : Shared} (C : Cx ν ro A Mut H s) (k : Kp ν s s') (o : Old (N ++ Mut) s'.heap) (f : Fl (vis ν Mut s.heap) (vis ν (N ++ Mut) s'.heap)) : Cx ν ro A (N ++ Mut) H s' :=
  ⟨C.hh, C.dep, C.un, k.le.tab C.tab, o, C.base.trans f, Nat.le_trans C.tk k.tk⟩
theorem Ev.compF {α : Type} {elt iter : PySem.Expr} {x : Str} {px : Pos} {ifs : List PySem.Expr} {scope : Scope} {cl : List (Str × Addr)} {Psrc : VP} (xs : List α) (f : α → VP) (b : α → Bool) (g : α → VP) (C : Cx ν ro A Mut H s₁)
    (hsrc : Ev ν prog w A Mut s₁ (eval iter env) Psrc)
    (hit : ∀ v s, Kp ν s₁ s → Cx ν ro A Mut H s → Psrc.on (vis ν Mut s.heap) v → Iter ν prog w A Mut s v (xs.map f))
    (body : ∀ t ∈ xs, ∀ C' N s₃ v, Kp ν s₁ s₃ → Cx ν ro A (N ++ Mut) H s₃ → Fl (vis ν Mut s₁.heap) (vis ν (N ++ Mut) s₃.heap) → Var (compEnvC scope cl C' env) s₃.heap x v → (f t).on (vis ν (N ++ Mut) s₃.heap) v →
      Turn ν prog w A (N ++ Mut) (compEnvC scope cl C' env) ifs elt (f t, b t, g t) s₃)
    (hsz : xs.length ≤ sizeLine)
    (hclos : closureFor scope env = pure cl) (hx : scope.names.lookup x = some .local)
    (hcell : ∀ y ∈ scope.names, y.2 ≠ .cell) (hnames : ∀ y ∈ scope.names, y.2 = .local → scope.names.lookup y.1 = some .local) (hkind : scope.kind = .function := by rfl)
    (hs : ∀ x, foldedSetIterable iter env x = pure x := by intro _; rfl) :
    Ev ν prog w A Mut s₁ (eval (.ListComp elt [⟨.Name x px, iter, ifs, 0⟩] scope pos) env) (vL ((xs.filter b).map g)) := by
  refine (Ev.comp (xs.map fun x => (f x, b x, g x)) C.tab C.old hsrc (fun v s k p => ?_) (fun t ht C' N s₃ v k₃ o₃ f₃ X₃ p₃ => ?_) (by rw [List.length_map]; exact hsz) hclos hx hcell hnames hkind hs).imp fun h v q => by rw [outs_filter] at q; exact q
  · rw [List.map_map]
    exact hit v s k (C.at k) p
  · obtain ⟨u, hu, rfl⟩ := List.mem_map.mp ht
    exact body u hu C' N s₃ v k₃ (C.in k₃ o₃ f₃) f₃ X₃ p₃
theorem Ev.compM {α : Type} {elt iter : PySem.Expr} {x : Str} {px : Pos} {scope : Scope} {cl : List (Str × Addr)} {Psrc : VP} (xs : List α) (f : α → VP) (g : α → VP) (C : Cx ν ro A Mut H s₁)
    (hsrc : Ev ν prog w A Mut s₁ (eval iter env) Psrc)
    (hit : ∀ v s, Kp ν s₁ s → Cx ν ro A Mut H s → Psrc.on (vis ν Mut s.heap) v → Iter ν prog w A Mut s v (xs.map f))
    (body : ∀ t ∈ xs, ∀ C' N s₃ v, Kp ν s₁ s₃ → Cx ν ro A (N ++ Mut) H s₃ → Fl (vis ν Mut s₁.heap) (vis ν (N ++ Mut) s₃.heap) → Var (compEnvC scope cl C' env) s₃.heap x v → (f t).on (vis ν (N ++ Mut) s₃.heap) v →
      Ev ν prog w A (N ++ Mut) s₃ (eval elt (compEnvC scope cl C' env)) (g t))
    (hsz : xs.length ≤ sizeLine)
    (hclos : closureFor scope env = pure cl) (hx : scope.names.lookup x = some .local)
    (hcell : ∀ y ∈ scope.names, y.2 ≠ .cell) (hnames : ∀ y ∈ scope.names, y.2 = .local → scope.names.lookup y.1 = some .local) (hkind : scope.kind = .function := by rfl)
    (hs : ∀ x, foldedSetIterable iter env x = pure x := by intro _; rfl) :
    Ev ν prog w A Mut s₁ (eval (.ListComp elt [⟨.Name x px, iter, [], 0⟩] scope pos) env) (vL (xs.map g)) := by
  have := Ev.compF (elt := elt) (px := px) (pos := pos) (ifs := []) xs f (fun _ => true) g C hsrc hit (fun t ht C' N s₃ v k₃ c₃ f₃ X₃ p₃ => Turn.none (body t ht C' N s₃ v k₃ c₃ f₃ X₃ p₃)) hsz hclos hx hcell hnames hkind hs
  have e : xs.filter (fun _ => true) = xs := List.filter_eq_self.mpr fun _ _ => rfl
  rw [e] at this
  exact this
theorem Ev.compFC {α : Type} {elt iter : PySem.Expr} {x : Str} {px : Pos} {ifs : List PySem.Expr} {scope : Scope} {cl : List (Str × Addr)} {Psrc : VP} (xs : List α) (f : α → VP) (b : α → Bool) (g : α → VP) (C : Cx ν ro A Mut H s₁)
    (hsrc : Ev ν prog w A Mut s₁ (eval iter env) Psrc)
    (hit : ∀ v s, Kp ν s₁ s → Cx ν ro A Mut H s → Psrc.on (vis ν Mut s.heap) v → Iter ν prog w A Mut s v (xs.map f))
    (body : ∀ t ∈ xs, ∀ C' a N s₃ v, Kp ν s₁ s₃ → Cx ν ro A (N ++ Mut) H s₃ → Fl (vis ν Mut s₁.heap) (vis ν (N ++ Mut) s₃.heap) → Var (compEnvC scope ((x, a) :: cl) C' env) s₃.heap x v → (f t).on (vis ν (N ++ Mut) s₃.heap) v →
      Turn ν prog w A (N ++ Mut) (compEnvC scope ((x, a) :: cl) C' env) ifs elt (f t, b t, g t) s₃)
    (hsz : xs.length ≤ sizeLine)
    (hclos : closureFor scope env = pure cl) (hcells : ∀ n, cellsFrom n scope.names cl = (x, n) :: cl) (hpush : ∀ h, pushCells h scope.names = h.push { cls := .type "cell", data := .cell none })
    (hx : ∀ C cl', (compEnvC scope cl' C env).kindOf x = some .cell) (hnames : ∀ y ∈ scope.names, y.2 = .local → scope.names.lookup y.1 = some .local) (hkind : scope.kind = .function := by rfl)
    (hs : ∀ x, foldedSetIterable iter env x = pure x := by intro _; rfl) :
    Ev ν prog w A Mut s₁ (eval (.ListComp elt [⟨.Name x px, iter, ifs, 0⟩] scope pos) env) (vL ((xs.filter b).map g)) := by
  refine (Ev.compC (xs.map fun x => (f x, b x, g x)) C.tab C.old hsrc (fun v s k p => ?_) (fun t ht C' a N s₃ v k₃ o₃ f₃ X₃ p₃ => ?_) (by rw [List.length_map]; exact hsz) hclos hcells hpush hx hnames hkind hs).imp fun h v q => by rw [outs_filter] at q; exact q
  · rw [List.map_map]
    exact hit v s k (C.at k) p
  · obtain ⟨u, hu, rfl⟩ := List.mem_map.mp ht
    exact body u hu C' a N s₃ v k₃ (C.in k₃ o₃ f₃) f₃ X₃ p₃
theorem Iter.ran {xv : Value} {n : Nat} (C : Cx ν ro A Mut H s) (x : (vR 0 n).on (vis ν Mut s.heap) xv) : Iter ν prog w A Mut s xv ((List.range n).map fun (i : Nat) => vI (i : Int)) := by
  have := Iter.range (prog := prog) (w := w) C.hh C.tab C.old x
  simpa using this
theorem Iter.lst {xv : Value} {Ps : List VP} (C : Cx ν ro A Mut H s) (x : (vL Ps).on (vis ν Mut s.heap) xv) : Iter ν prog w A Mut s xv Ps := Iter.list C.hh C.tab C.old x
end
end Mine
set_option maxRecDepth 10000
namespace Mine
open PySem PySem.W PyProof.Rows PySem.Calls PySem.Spec
theorem upd_ne {m : Str → Option Value} {x y : Str} {v : Value} (h : y ≠ x := by decide) : upd m x v y = m y := if_neg h
theorem upd_eq {m : Str → Option Value} {x : Str} {v : Value} : upd m x v x = some v := if_pos rfl
section
variable {ro : Nat} {prog : Program} {w : World} {A : Around} {Mut : List Addr} {s₀ s₁ s : Shared} {env : Env} {H : Heap} {whole : Sem Value} {pos : Pos} {l r : PySem.Expr} {m cm : Str → Option Value}
theorem Kp.fresh {h' : Heap} {tk : Nat} (t : Tab ν s.heap) (k : ∀ b o, b ≠ s.heap.objs.size → s.heap.get? b = some o → h'.get? b = some o) (q : s.toks ≤ tk) : Kp ν s { s with heap := h', toks := tk } :=
  Kp.both ((Le.refl s.heap).but (N := [s.heap.objs.size]) (fun b o nb e => k b o (by simpa using nb) e) (fun b hb => by rw [List.mem_singleton.mp hb]; exact none_of_ge (Nat.le_refl _)) (fun h => (size_ne t).1 (List.mem_singleton.mp h).symm)) q
theorem unpackT (C : Cx ν ro A Mut H s) {Ps : List VP} {v : Value} (p : (vT Ps).on (vis ν Mut s.heap) v) {E : Value → Shared → Prop} {Q : List Value → Shared → Prop} (h : ∀ vs s', Kp ν s s' → All2 Ps (vis ν Mut s'.heap) vs → Q vs s') :
    wpAny (model prog w) A (unpackItems v Ps.length none) Q E s := by
  obtain ⟨a, vs, rfl, l, q⟩ := p
  obtain ⟨n, e⟩ := ptup_le l vis_le
  have := q.length
  rw [show Ps.length = vs.toArray.size by simp [this]]
  refine wpAny_unpackItems_tuple C.hh ⟨_, e, rfl, n, rfl⟩ fun h' hk => ?_
  have k := Kp.fresh (ν := ν) (s := s) (tk := s.toks) C.tab (fun b o nb e => hk b o nb e) (Nat.le_refl _)
  exact h _ _ k (q.mono (k.vis _))
theorem unpackL2 (C : Cx ν ro A Mut H s) {P1 P2 : VP} {v : Value} (p : (vL [P1, P2]).on (vis ν Mut s.heap) v) {E : Value → Shared → Prop} {Q : List Value → Shared → Prop} (h : ∀ v1 v2 s', Kp ν s s' → P1.on (vis ν Mut s'.heap) v1 → P2.on (vis ν Mut s'.heap) v2 → Q [v1, v2] s') :
    wpAny (model prog w) A (unpackItems v 2 none) Q E s := by
  obtain ⟨a, vs, rfl, l, q⟩ := p
  obtain ⟨v1, _, rfl, q1, v2, _, rfl, q2, rfl⟩ := q
  have hl := (plist_le l vis_le).isList
  have lt : a < s.heap.objs.size := by obtain ⟨o, e, _⟩ := hl; exact Heap.lt_size e
  have W := Walks.list (prog := prog) (w := w) C.hh s.heap.objs.size a (Nat.ne_of_lt lt) #[v1, v2]
  unfold unpackItems
  refine wpAny_bind ?_
  unfold notIterableAtAll
  refine wpAny_bind (wpAny_specialOf hl.typeIs slot_list_iter.lookup ?_)
  refine wpAny_pure ?_
  simp only [Bool.false_eq_true, if_false]
  refine wpAny_bind (wpAny_holding (wpAny_pyIter_list hl ?_))
  refine wpAny_bind (wpAny_holding ?_)
  have st0 : (s.heap.push { cls := .type "list_iterator", data := .fields #[.ref a, .int 0 0] }).IsListIter s.heap.objs.size a 0 ∧ (s.heap.push { cls := .type "list_iterator", data := .fields #[.ref a, .int 0 0] }).IsList a #[v1, v2] :=
    ⟨⟨_, Heap.get?_push_size _ rfl, rfl, rfl⟩, list_le hl (fl_push _ _)⟩
  show wpAny _ _ (pyNext _ >>= _) _ _ _
  refine wpAny_bind (wpAny_with_toks (n := s.toks) (Nat.le_refl _) (W.item 0 _ _ _ (show 0 < 2 by decide) st0 fun u h₁ tk₁ hu st₁ k₁ t₁ => ?_))
  obtain rfl : v1 = u := by simpa using hu
  refine wpAny_bind (wpAny_holding ?_)
  show wpAny _ _ (pyNext _ >>= _) _ _ _
  refine wpAny_bind (wpAny_with_toks (n := tk₁) (Nat.le_refl _) (W.item 1 _ _ _ (show 1 < 2 by decide) st₁ fun u h₂ tk₂ hu st₂ k₂ t₂ => ?_))
  obtain rfl : v2 = u := by simpa using hu
  refine wpAny_bind (wpAny_holding (wpAny_pure ?_))
  refine wpAny_pure ?_
  refine wpAny_pure ?_
  rw [if_neg (by simp)]
  refine wpAny_bind (wpAny_holding (wpAny_with_toks (n := tk₂) (Nat.le_refl _) (W.done _ _ _ st₂ fun h₃ tk₃ k₃ t₃ => ?_)))
  simp only [Option.isSome_none, Bool.false_eq_true, if_false]
  refine wpAny_pure ?_
  have kp : Kp ν s { s with heap := h₃, toks := tk₃ } := Kp.fresh C.tab (fun b o nb e => k₃ b o (by simpa using nb) (k₂ b o (by simpa using nb) (k₁ b o (by simpa using nb) (Heap.get?_push_of_some _ e)))) (Nat.le_trans t₁ (Nat.le_trans t₂ t₃))
  exact h v1 v2 _ kp (P1.mono (kp.vis _) q1) (P2.mono (kp.vis _) q2)
theorem op_range2 {a : Int} {b : Int} {n : Nat} {v u : Value} (C : Cx ν ro A Mut H s) (hn : (b - a) = (n : Int)) (ha : 0 ≤ a) (hb : b < 2 ^ 62) (p : (vI a).on (vis ν Mut s.heap) v) (q : (vI b).on (vis ν Mut s.heap) u) : Op ν prog w A Mut s (call (.type "range") [v, u]) (vR a n) := .mk fun E => by
  obtain ⟨t, rfl⟩ := p
  obtain ⟨t', rfl⟩ := q
  refine call_range_2 ⟨Kp.both (fl_push _ _).le (by lia), _, b, _, _, _, rfl, vis_push C.old C.tab rfl, small_one (by lia) (by lia) (by lia) (by lia), ?_⟩
  have := rangeSize_one a b
  rw [this]
  lia
theorem aio_cons {t : Value → Sem Unit} {ts : List (Value → Sem Unit)} {x : Value} {xs : List Value} : assignInOrder (t :: ts) (x :: xs) = (do holding xs (t x); assignInOrder ts xs) := rfl
theorem aio_nil : assignInOrder [] [] = pure () := rfl
theorem Xs.assign2 (F : Fm ν env s₀ s m cm) (C : Cx ν ro A Mut H s) (hL : env.locals ∈ Mut) {x y : Str} {px py tp : Pos} {tk : Nat} {value : PySem.Expr} {P1 P2 : VP} {Q : Flow → Shared → Prop} (hv : Ev ν prog w A Mut s (eval value env) (vT [P1, P2]))
    (h : ∀ v1 v2 s', Fm ν env s₀ s' (upd (upd m y v2) x v1) cm → Cx ν ro A Mut H s' → Step ν (Env.mut env) Mut s s' → P1.on (vis ν Mut s'.heap) v1 → P2.on (vis ν Mut s'.heap) v2 → Q .next s') (hkx : env.kindOf x = some .local := by rfl) (hky : env.kindOf y = some .local := by rfl)
    (hs : swapsWithSole [.Tuple [.Name x px, .Name y py] tk tp] value pos.line env = pure false := by rfl)
    (hw : swappedStores [.Tuple [.Name x px, .Name y py] tk tp] value env = pure (some [x, y]) := by rfl) : Xs ν prog w A (exec (.Assign [.Tuple [.Name x px, .Name y py] tk tp] value pos) env) Q s := .mk fun E => by
  refine Assign_Tuple_swapped (names := [x, y]) (hv.use (Kp.refl _) fun v s₁ k₁ pv => ?_) hs hw
  apply unpackT (Ps := [P1, P2]) (C.at k₁) pv
  intro vs s₂ k₂ q
  obtain ⟨v1, _, rfl, q1, v2, _, rfl, q2, rfl⟩ := q
  simp only [List.reverse_cons, List.reverse_nil, List.nil_append, List.cons_append, List.map_cons, List.map_nil, aio_cons, aio_nil]
  refine wpAny_bind (wpAny_holding (wpAny_bindName ?_))
  refine (F.at (k₁.trans k₂)).store (C.at (k₁.trans k₂)) hL (fun s₃ F₃ C₃ st₃ => ?_) hky
  refine wpAny_bind (wpAny_holding (wpAny_bindName ?_))
  refine F₃.store C₃ hL (fun s₄ F₄ C₄ st₄ => ?_) hkx
  exact wpAny_pure (h v1 v2 s₄ F₄ C₄ ((Step.of (k₁.trans k₂)).trans (st₃.trans st₄)) (P1.mono (st₃.trans st₄).fl q1) (P2.mono (st₃.trans st₄).fl q2))
theorem Xs.assign3 (F : Fm ν env s₀ s m cm) (C : Cx ν ro A Mut H s) (hL : env.locals ∈ Mut) {x y z : Str} {px py pz tp : Pos} {tk : Nat} {value : PySem.Expr} {P1 P2 P3 : VP} {Q : Flow → Shared → Prop} (hv : Ev ν prog w A Mut s (eval value env) (vT [P1, P2, P3]))
    (h : ∀ v1 v2 v3 s', Fm ν env s₀ s' (upd (upd (upd m z v3) y v2) x v1) cm → Cx ν ro A Mut H s' → Step ν (Env.mut env) Mut s s' → P1.on (vis ν Mut s'.heap) v1 → P2.on (vis ν Mut s'.heap) v2 → P3.on (vis ν Mut s'.heap) v3 → Q .next s') (hkx : env.kindOf x = some .local := by rfl) (hky : env.kindOf y = some .local := by rfl) (hkz : env.kindOf z = some .local := by rfl)
    (hs : swapsWithSole [.Tuple [.Name x px, .Name y py, .Name z pz] tk tp] value pos.line env = pure false := by rfl)
    (hw : swappedStores [.Tuple [.Name x px, .Name y py, .Name z pz] tk tp] value env = pure (some [x, y, z]) := by rfl) : Xs ν prog w A (exec (.Assign [.Tuple [.Name x px, .Name y py, .Name z pz] tk tp] value pos) env) Q s := .mk fun E => by
  refine Assign_Tuple_swapped (names := [x, y, z]) (hv.use (Kp.refl _) fun v s₁ k₁ pv => ?_) hs hw
  apply unpackT (Ps := [P1, P2, P3]) (C.at k₁) pv
  intro vs s₂ k₂ q
  obtain ⟨v1, _, rfl, q1, v2, _, rfl, q2, v3, _, rfl, q3, rfl⟩ := q
  simp only [List.reverse_cons, List.reverse_nil, List.nil_append, List.cons_append, List.map_cons, List.map_nil, aio_cons, aio_nil]
  refine wpAny_bind (wpAny_holding (wpAny_bindName ?_))
  refine (F.at (k₁.trans k₂)).store (C.at (k₁.trans k₂)) hL (fun s₃ F₃ C₃ st₃ => ?_) hkz
  refine wpAny_bind (wpAny_holding (wpAny_bindName ?_))
  refine F₃.store C₃ hL (fun s₄ F₄ C₄ st₄ => ?_) hky
  refine wpAny_bind (wpAny_holding (wpAny_bindName ?_))
  refine F₄.store C₄ hL (fun s₅ F₅ C₅ st₅ => ?_) hkx
  have st := (st₃.trans st₄).trans st₅
  exact wpAny_pure (h v1 v2 v3 s₅ F₅ C₅ ((Step.of (k₁.trans k₂)).trans st) (P1.mono st.fl q1) (P2.mono st.fl q2) (P3.mono st.fl q3))
theorem tgt2 (F : Fm ν env s₀ s m cm) (C : Cx ν ro A Mut H s) (hM : ∀ a ∈ Env.mut env, a ∈ Mut) {x y : Str} {px py tp : Pos} {tk : Nat} {v : Value} {P1 P2 : VP} {E : Value → Shared → Prop} {Q : Unit → Shared → Prop} (pv : (vL [P1, P2]).on (vis ν Mut s.heap) v) (c : Addr) (hl : env.cells.lookup y = some c)
    (h : ∀ v1 v2 s', Fm ν env s₀ s' (upd m x v1) (upd cm y v2) → Cx ν ro A Mut H s' → Step ν (Env.mut env) Mut s s' → P1.on (vis ν Mut s'.heap) v1 → P2.on (vis ν Mut s'.heap) v2 → Q () s') (hkx : env.kindOf x = some .local := by rfl) (hky : env.kindOf y = some .cell := by rfl) :
    wpAny (model prog w) A (PySem.assign (.Tuple [.Name x px, .Name y py] tk tp) env v) Q E s := by
  rw [arm_assign_Tuple]
  refine wpAny_bind (wpAny_standAt ?_)
  show wpAny _ _ (unpack v [(false, PySem.assign (.Name x px) env), (false, PySem.assign (.Name y py) env)]) _ _ _
  unfold unpack
  show wpAny _ _ (do assignInOrder [PySem.assign (.Name x px) env, PySem.assign (.Name y py) env] (← holding [v] (unpackItems v 2 none))) _ _ _
  refine wpAny_bind (wpAny_holding (unpackL2 C pv fun v1 v2 s₂ k₂ q1 q2 => ?_))
  refine wpAny_bind (wpAny_holding (wpAny_assign_Name ((F.at k₂).store (C.at k₂) (hM _ (.head _)) (fun s₃ F₃ C₃ st₃ => ?_) hkx)))
  refine wpAny_bind (wpAny_holding (wpAny_assign_Name (F₃.storeC C₃ hM c hl (fun s₄ F₄ C₄ st₄ => ?_) hky)))
  exact wpAny_pure (h v1 v2 s₄ F₄ C₄ ((Step.of k₂).trans (st₃.trans st₄)) (P1.mono (st₃.trans st₄).fl q1) (P2.mono (st₃.trans st₄).fl q2))
theorem Xs.ifM {test : PySem.Expr} {body orelse : List Stmt} {b : Bool} {Q : Flow → Shared → Prop} (J : Shared → Prop) (ht : Eb ν prog w A s (isTrue test env (eval test env)) b)
    (h1 : b = true → ∀ s', Kp ν s s' → Xs ν prog w A (execs body env) (fun f s'' => f = .next ∧ J s'') s') (h2 : b = false → ∀ s', Kp ν s s' → Xs ν prog w A (execs orelse env) (fun f s'' => f = .next ∧ J s'') s')
    (h : ∀ s'', J s'' → Q .next s'') : Xs ν prog w A (exec (.If test body orelse pos) env) Q s :=
  Xs.if ht (fun hb s' k => (h1 hb s' k).imp fun f s'' y => by obtain ⟨rfl, j⟩ := y; exact h s'' j) (fun hb s' k => (h2 hb s' k).imp fun f s'' y => by obtain ⟨rfl, j⟩ := y; exact h s'' j)
end
end Mine
set_option maxRecDepth 10000
namespace Mine
open PySem PySem.W PyProof.Rows PySem.Calls PySem.Spec
structure Own (a : Addr) (Ps : List VP) (g h : Heap) : Prop where
  ex : ∃ vs : List Value, h.PlainList a vs.toArray ∧ All2 Ps g vs
theorem Own.keep {a : Addr} {Ps : List VP} {g g' h h' : Heap} (O : Own a Ps g h) (fg : Fl g g') (k : ∀ o, h.get? a = some o → h'.get? a = some o) : Own a Ps g' h' := by
  obtain ⟨vs, ⟨n, e⟩, q⟩ := O.ex
  exact ⟨vs, ⟨n, k _ e⟩, q.mono fg⟩
theorem Own.st {a : Addr} {Ps : List VP} {W M : List Addr} {s s' : Shared} (O : Own a Ps (vis ν M s.heap) s.heap) (st : Step ν W M s s') (aW : a ∉ W) (n57 : Off ν a) : Own a Ps (vis ν M s'.heap) s'.heap := by
  obtain ⟨vs, ⟨n, e⟩, q⟩ := O.ex
  exact ⟨vs, ⟨n, st.own a _ aW n57 e⟩, q.mono st.fl⟩
theorem Own.at {a : Addr} {Ps : List VP} {M : List Addr} {s s' : Shared} (O : Own a Ps (vis ν M s.heap) s.heap) (k : Kp ν s s') (n57 : Off ν a) : Own a Ps (vis ν M s'.heap) s'.heap := O.st (W := []) (Step.of k) (by simp) n57
theorem Own.stands {a : Addr} {Ps : List VP} {g h : Heap} (O : Own a Ps g h) : ∃ o, h.get? a = some o := by obtain ⟨_, ⟨n, e⟩, _⟩ := O.ex; exact ⟨_, e⟩
section
variable {ro : Nat} {prog : Program} {w : World} {A : Around} {Mut : List Addr} {s₀ s₁ s : Shared} {env : Env} {H : Heap} {whole : Sem Value} {pos : Pos} {l r : PySem.Expr} {m cm : Str → Option Value}
theorem Cx.own {a : Addr} {s' : Shared} (C : Cx ν ro A Mut H s) (k : Kp ν s s') (hn : s.heap.get? a = none) (he : ∃ o, s'.heap.get? a = some o) : Cx ν ro A (a :: Mut) H s' := by
  refine ⟨C.hh, C.dep, C.un, k.le.tab C.tab, fun b hb => ?_, C.base.trans (vis_more (N := [a]) k.le fun b hb => by rw [List.mem_singleton.mp hb]; exact hn), Nat.le_trans C.tk k.tk⟩
  rcases List.mem_cons.mp hb with rfl | hb
  · exact ⟨(fresh57 C.tab hn).1, he⟩
  · exact (C.old.le k.le) b hb
theorem vis_own {a : Addr} {s s' : Shared} (k : Kp ν s s') (hn : s.heap.get? a = none) : Fl (vis ν Mut s.heap) (vis ν (a :: Mut) s'.heap) :=
  vis_more (N := [a]) k.le fun b hb => by rw [List.mem_singleton.mp hb]; exact hn
theorem Own.free {a : Addr} {Ps : List VP} (O : Own a Ps (vis ν (a :: Mut) s.heap) s.heap) (n57 : Off ν a) (aM : a ∉ Mut) : (vL Ps).on (vis ν Mut s.heap) (.ref a) := by
  obtain ⟨vs, ⟨n, e⟩, q⟩ := O.ex
  exact ⟨a, vs, rfl, ⟨n, vis_get e aM n57⟩, q.mono (vis_sub fun b hb => .tail _ hb)⟩
theorem Cx.free {a : Addr} (C : Cx ν ro A (a :: Mut) H s) : Cx ν ro A Mut H s := Cx.drop (N := [a]) C
theorem Xs.newL (F : Fm ν env s₀ s m cm) (C : Cx ν ro A Mut H s) (hM : ∀ a ∈ Env.mut env, a ∈ Mut) {x : Str} {p lp : Pos} {elts : List PySem.Expr} {Ps : List VP} {Q : Flow → Shared → Prop} (hv : Es ν prog w A Mut s (spliced (backTo lp (starEach elts env))) Ps) (hsz : Ps.length ≤ sizeLine)
    (h : ∀ a s', s₀.heap.get? a = none → a ∉ Mut → Off ν a → Fm ν env s₀ s' (upd m x (.ref a)) cm → Cx ν ro A (a :: Mut) H s' → Fl (vis ν Mut s.heap) (vis ν (a :: Mut) s'.heap) → Step ν (Env.mut env) Mut s s' → Own a Ps (vis ν (a :: Mut) s'.heap) s'.heap → Q .next s') (hk : env.kindOf x = some .local := by rfl)
    (hs : swapsWith (.List elts lp) (some (.Name x p)) pos.line env = pure false := by rfl) : Xs ν prog w A (exec (.Assign [.Name x p] (.List elts lp) pos) env) Q s := .mk fun E => by
  refine wpAny_Assign_Name (List_ (wpAny_mono (hv.go s E (Kp.refl _)) (fun vs s₁ y => ?_) fun _ _ y => y)) hs
  obtain ⟨k₁, q⟩ := y
  have C₁ := C.at k₁
  refine wpAny_newObj_type ?_ (by show vs.toArray.size ≤ sizeLine; rw [List.size_toArray, q.length]; exact hsz)
  generalize hh : s₁.heap.push { cls := .type "list", dict := none, data := .seq vs.toArray } = h₂
  have k₂ : Kp ν s₁ { s₁ with heap := h₂ } := Kp.heap (hh ▸ (fl_push _ _).le)
  have hn₁ : s₁.heap.get? s₁.heap.objs.size = none := none_of_ge (Nat.le_refl _)
  have hnew : h₂.get? s₁.heap.objs.size = some { cls := .type "list", dict := none, data := .seq vs.toArray } := hh ▸ Heap.get?_push_size _ rfl
  have n57 : Off ν s₁.heap.objs.size := size_ne C₁.tab
  have nM : s₁.heap.objs.size ∉ Mut := C₁.old.new
  have before : ∀ {t : Shared}, Kp ν t s₁ → Tab ν t.heap → t.heap.get? s₁.heap.objs.size = none := fun {t} k tt => by
    cases e : t.heap.get? s₁.heap.objs.size with
    | none => rfl
    | some o => obtain ⟨sl, e'⟩ := k.le.frm _ o n57.1 e; rw [hn₁] at e'; cases e'
  have f0 : s₀.heap.get? s₁.heap.objs.size = none := before (F.k.trans k₁) F.tab
  have f1 : s.heap.get? s₁.heap.objs.size = none := before k₁ C.tab
  have C₂ : Cx ν ro A (s₁.heap.objs.size :: Mut) H { s₁ with heap := h₂ } := Cx.own C₁ k₂ hn₁ ⟨_, hnew⟩
  refine (F.at (k₁.trans k₂)).store C₂ (.tail _ (hM _ (.head _))) (fun s₃ F₃ C₃ st₃ => ?_) hk
  have aE : s₁.heap.objs.size ∉ Env.mut env := fun hm => nM (hM _ hm)
  have O₂ : Own s₁.heap.objs.size Ps (vis ν (s₁.heap.objs.size :: Mut) h₂) h₂ := ⟨vs, ⟨0, hnew⟩, q.mono (vis_own k₂ hn₁)⟩
  have fl := ((k₁.vis Mut).trans (vis_own k₂ hn₁)).trans st₃.fl
  exact h _ s₃ f0 nM n57 F₃ C₃ fl ⟨fl.trans (vis_sub fun b hb => .tail _ hb), fun b o nb n e => st₃.own b o nb n ((k₁.trans k₂).le.keep b o n e)⟩ (O₂.st st₃ aE n57)
theorem Xs.append {o e : PySem.Expr} {apos pos' : Pos} {a : Addr} {Ps : List VP} {P : VP} {Q : Flow → Shared → Prop} (F : Fm ν env s₀ s m cm) (C : Cx ν ro A Mut H s) (ho : Ev ν prog w A Mut s (eval o env) (vV (.ref a))) (aM : a ∈ Mut) (f0 : s₀.heap.get? a = none) (aE : a ∉ Env.mut env)
    (O : Own a Ps (vis ν Mut s.heap) s.heap) (he : Ev ν prog w A Mut s (eval e env) P) (hsz : Ps.length ≤ sizeLine)
    (h : ∀ s', Fm ν env s₀ s' m cm → Cx ν ro A Mut H s' → Step ν [a] Mut s s' → Own a (Ps ++ [P]) (vis ν Mut s'.heap) s'.heap → Q .next s')
    (hb : attributeBase o "append" env (eval o env) = eval o env := by rfl)
    (hform : ((backTo pos (starEach [e] env)).all (fun x => !x.1) && (backToKw pos (keywordEach [] env)).all (fun x => x.1.isSome)
      && decide (([e] : List PySem.Expr).length + ([] : List PySem.Keyword).length + (if ([] : List PySem.Keyword).isEmpty then 0 else 1) < 30)) = true := by rfl)
    (hl : (apos.endLine == pos.line) = true := by rfl) (ht : backTo pos (starEach [e] env) = [(false, eval e env)] := by rfl)
    (hi : interactive env = false := by rfl) (hs : swapsWith (.Call (.Attribute o "append" apos) [e] [] pos) none pos'.line env = pure false := by rfl) :
    Xs ν prog w A (exec (.Expr (.Call (.Attribute o "append" apos) [e] [] pos) pos') env) Q s := .mk fun E => by
  have n57 : Off ν a := fresh57 F.tab f0
  refine wpAny_Expr_any (wpAny_Call_append hb hform hl ht (ho.use (Kp.refl _) fun v s₁ k₁ p₁ => ?_)) hi hs
  obtain rfl : v = .ref a := p₁
  have O₁ := O.at k₁ n57
  obtain ⟨vs₁, ⟨n₁, e₁⟩, q₁⟩ := O₁.ex
  refine ⟨a, _, rfl, ⟨_, n₁, e₁, rfl, rfl, rfl⟩, he.use k₁ fun y s₂ k₂ p₂ => ?_⟩
  have O₂ := O₁.at k₂ n57
  obtain ⟨vs, l, q⟩ := O₂.ex
  refine wpAny_list_append_plain l (fun h' hl' hs' => ?_) (by rw [List.size_toArray, q.length]; exact hsz)
  have fc := (F.at (k₁.trans k₂)).change (tk := s₂.toks) hs' f0 (fun e => aE (e ▸ .head _)) (fun p hp e => aE (e ▸ .tail _ (List.mem_map.mpr ⟨p, hp, rfl⟩))) (Nat.le_refl _)
  have hd : ∃ o, h'.get? a = some o := by obtain ⟨n, e⟩ := hl'; exact ⟨_, e⟩
  have cc := (C.at (k₁.trans k₂)).change (tk := s₂.toks) hs' aM hd (Nat.le_refl _)
  have fl : Fl (vis ν Mut s₂.heap) (vis ν Mut h') := vis_change hs' aM
  refine h { s₂ with heap := h' } fc cc ((Step.of (k₁.trans k₂)).trans ⟨fl, fun b o nb _ e => (hs'.2 b fun q => nb (q ▸ .head _)).trans e⟩) ⟨vs ++ [y], by simpa using hl', ?_⟩
  exact All2.snoc (P.mono fl p₂) (q.mono fl)
end
end Mine
set_option maxRecDepth 100000
namespace Mine
open PySem PySem.W PyProof.Rows PySem.Calls PySem.Spec
namespace MF
theorem slot_md_get : Slot "method_descriptor" "__get__" "method_descriptor.__get__" :=
  .of (owner := "method_descriptor") (n := "__get__") (by rw [typeLookup_type, builtinLookup_eq_fast]; kernel_rfl) (by decide +kernel) (by decide +kernel) (by decide +kernel)
    (by first | exact .inl (by decide +kernel) | exact .inr (by decide +kernel)) (by rw [isSubtype_type]; kernel_rfl)
theorem entry_md_get : entryFor table "method_descriptor.__get__" = some Builtin.«method_descriptor.__get__» := entryFor_of_tree (by kernel_rfl)
theorem args_md_get (a b c : Value) : argsOk "method_descriptor.__get__" ⟨[a, b, c], []⟩ := by unfold argsOk; kernel_rfl
theorem no_set : typeLookup (.type "method_descriptor") "__set__" = pure none := by rw [typeLookup_type, builtinLookup_eq_fast]; kernel_rfl
theorem no_del : typeLookup (.type "method_descriptor") "__delete__" = pure none := by rw [typeLookup_type, builtinLookup_eq_fast]; kernel_rfl
theorem own_append : ".".intercalate ("list.append".cutAt '.').dropLast = "list" := by first | decide +kernel | kernel_rfl
theorem sub_ll : isSubtype (.type "list") (.type "list") = pure true := by rw [isSubtype_type]; kernel_rfl
theorem sub_own : isSubtype (.type "list") (.type (".".intercalate ("list.append".cutAt '.').dropLast)) = pure true := by rw [own_append]; exact sub_ll
end MF
noncomputable abbrev bmObj (a : Addr) : Obj := { cls := .type "builtin_function_or_method", data := .fields #[.builtin "list.append", .ref a] }
section
variable {prog : Program} {w : World} {A : Around} {E : Value → Shared → Prop} {h : Heap} {g : Array GenState} {d : Drawn} {t : Nat} {os : OsState} {a : Addr} {xs : Array Value} {n : Nat}
theorem bm_get {R : Result → Shared → Prop} (hx : h.get? a = some { cls := .type "list", data := .seq xs n }) (hq : R (.ok (.ret (.ref h.objs.size))) ⟨h.push (bmObj a), g, d, t, os⟩) :
    codeAny (model prog w) A (.call (.builtin "method_descriptor.__get__") ⟨[.builtin "list.append", .ref a, .type "list"], []⟩) R ⟨h, g, d, t, os⟩ := by
  have hT : (⟨h, g, d, t, os⟩ : Shared).TypeIs (.ref a) "list" := ⟨_, hx, rfl⟩
  have hT5 : (⟨h, g, d, t, os⟩ : Shared).TypeIs (.builtin "list.append") "method_descriptor" := type_list_append
  have f8 := MF.sub_own
  refine codeAny_call_builtin MF.slot_md_get.plain MF.entry_md_get (MF.slot_md_get.check _ _ _ _ _ _ _ _ hT5 (MF.args_md_get _ _ _) ?_)
  repeat (any_goals (first | assumption | wp_step))
theorem bm_entry {tk : Tok} {Q : Fin → Shared → Prop} (hx : h.get? a = some { cls := .type "list", data := .seq xs n }) (hq : Q (.done (.ret (.ref h.objs.size))) ⟨h.push (bmObj a), g, d, t, os⟩) :
    wpAny (model prog w) A (Builtin.«object.__getattribute__» ⟨[.ref a, .str "append" tk], []⟩) Q E ⟨h, g, d, t, os⟩ := by
  have hT : (⟨h, g, d, t, os⟩ : Shared).TypeIs (.ref a) "list" := ⟨_, hx, rfl⟩
  have hT5 : (⟨h, g, d, t, os⟩ : Shared).TypeIs (.builtin "list.append") "method_descriptor" := type_list_append
  have f4 := slot_list_append.lookup
  have f5 := type_list_append
  have f6 := MF.slot_md_get.lookup
  have f7 := MF.no_set
  have f8 := MF.no_del
  repeat (any_goals (first | assumption | wp_step))
  refine bm_get hx ?_
  exact wpAny_pure hq
theorem bm_call {tk : Tok} {R : Result → Shared → Prop} (hx : h.get? a = some { cls := .type "list", data := .seq xs n }) (hq : R (.ok (.ret (.ref h.objs.size))) ⟨h.push (bmObj a), g, d, t, os⟩) :
    codeAny (model prog w) A (.call (.builtin "list.__getattribute__") ⟨[.ref a, .str "append" tk], []⟩) R ⟨h, g, d, t, os⟩ :=
  codeAny_call_builtin PySem.F.slot_list_getattribute.plain PySem.F.entry_list_ga (PySem.F.slot_list_getattribute.check _ _ _ _ _ _ _ _ (show (⟨h, g, d, t, os⟩ : Shared).TypeIs (.ref a) "list" from ⟨_, hx, rfl⟩) (PySem.F.args_list_getattribute_2 _ _) (bm_entry hx hq))
theorem bm_by {tk : Tok} {Q : Value → Shared → Prop} (hx : h.get? a = some { cls := .type "list", data := .seq xs n }) (hq : Q (.ref h.objs.size) ⟨h.push (bmObj a), g, d, t, os⟩) :
    wpAny (model prog w) A (getAttrBy (.ref a) (.str "append" tk) true true) Q E ⟨h, g, d, t, os⟩ := by
  have hT : (⟨h, g, d, t, os⟩ : Shared).TypeIs (.ref a) "list" := ⟨_, hx, rfl⟩
  have f2 := PySem.F.slot_list_getattribute.lookup
  have f3 := PySem.F.slot_list_getattribute.bind (.ref a)
  repeat (any_goals (first | assumption | wp_step))
  refine bm_call hx ?_
  exact wpAny_pure hq
end
noncomputable def vBM (a : Addr) : VP := ⟨fun h v => ∃ b, v = .ref b ∧ h.get? b = some (bmObj a), fun x ⟨b, e, o⟩ => ⟨b, e, x _ _ o⟩⟩
section
variable {ro : Nat} {prog : Program} {w : World} {A : Around} {Mut : List Addr} {s₀ s₁ s : Shared} {env : Env} {H : Heap} {pos : Pos} {m cm : Str → Option Value}
theorem Ev.attrAppend {x : Str} {np : Pos} {a : Addr} {Ps : List VP} (C : Cx ν ro A Mut H s₁) (hf : Ev ν prog w A Mut s₁ (eval (.Name x np) env) (vV (.ref a))) (O : Own a Ps (vis ν Mut s₁.heap) s₁.heap) (n57 : Off ν a) :
    Ev ν prog w A Mut s₁ (eval (.Attribute (.Name x np) "append" pos) env) (vBM a) := .mk fun s E k => by
  refine Attribute_name (hf.use k fun v s' k1 p => ?_)
  obtain rfl : v = .ref a := p
  have O' := (O.at (k.trans k1) n57)
  obtain ⟨vs, ⟨n, e⟩, _⟩ := O'.ex
  show wpAny _ _ (mkText "append" >>= fun t => getAttrBy (.ref a) t true true) _ _ _
  refine wpAny_bind ?_
  show wpAny _ _ (fresh >>= fun t => pure (Value.str "append" t)) _ _ _
  refine wpAny_bind (wpAny_fresh ?_)
  refine wpAny_pure ?_
  have C' := C.at (k.trans k1)
  exact bm_by e ⟨k1.trans (Kp.both (fl_push _ _).le (Nat.le_succ _)), _, rfl, vis_push C'.old C'.tab rfl⟩
theorem Kept.bm {h : Heap} {a b : Addr} (e : h.get? b = some (bmObj a)) : Kept h (.ref b) := fun M => ⟨.machine, .inr (.inl rfl), (Looks.ld (part := none) e).andThen .now⟩
theorem check_bm {M : Model} {A : Around} {E : Value → Shared → Prop} {Q : Unit → Shared → Prop} {s : Shared} {a : Addr} {xs : Array Value} {n : Nat} {v : Value} (hx : s.heap.get? a = some { cls := .type "list", data := .seq xs n }) (h : Q () s) :
    wpAny M A (checkBoundCall "list.append" ⟨[.ref a, v], []⟩) Q E s := by
  obtain ⟨hp, g, d, tk, os⟩ := s
  have hT : (⟨hp, g, d, tk, os⟩ : Shared).TypeIs (.ref a) "list" := ⟨_, hx, rfl⟩
  unfold checkBoundCall
  rw [signature?_of (id := "list.append") (n := ['d', 'n', 'e', 'p', 'p', 'a']) (o := ['t', 's', 'i', 'l']) (by kernel_rfl) PySem.F.owner_list]
  have e1 : Manifest.sig_list.lookup (String.ofList ['d', 'n', 'e', 'p', 'p', 'a'].reverse) = some ⟨.oneArg, "list.append", "append", .self, [⟨"object", .posOnly, true⟩]⟩ := by kernel_rfl
  rw [e1]
  have e2 : builtinKind "list.append" = some .method := by decide +kernel
  rw [e2]
  have e3 : (Manifest.varargsMethods.contains "list.append" || false) = false := by decide +kernel
  have e4 : isSubtype (.type "list") (.type "module") = pure false := by rw [isSubtype_type]; kernel_rfl
  have e5 : isSubtype (.type "list") (.type "type") = pure false := by rw [isSubtype_type]; kernel_rfl
  show wpAny _ _ (isInstance (.ref a) (.type "module") >>= _) _ _ _
  refine wpAny_bind (wpAny_isInstance hT e4 ?_)
  dsimp only
  rw [e3]
  show wpAny _ _ (isType (.ref a) >>= _) _ _ _
  refine wpAny_bind ?_
  unfold isType
  have e6 : Bind.checkArgs "list.append" { machinery := .oneArg, full := toString (Bind.lastOf "list") ++ toString "." ++ toString (Bind.lastOf "list.append"), short := "append", receiver := .self, params := [{ name := "object", kind := .posOnly, required := true }] } ⟨[.ref a, v], []⟩ = pure () := by kernel_rfl
  repeat (any_goals (first | assumption | wp_step))
end
end Mine
set_option maxRecDepth 100000
namespace Mine
open PySem PySem.W PyProof.Rows PySem.Calls PySem.Spec
section
variable {ro : Nat} {prog : Program} {w : World} {A : Around} {Mut : List Addr} {s₀ s₁ s : Shared} {env : Env} {H : Heap} {pos : Pos} {m cm : Str → Option Value}
theorem quiet_la {as : Args} : (Code.builtin "list.append" as).quiet = true := Code.quiet_builtin _ (by decide +kernel)
theorem call_bm {E : Value → Shared → Prop} {a b : Addr} {items : Array Value} {x : Value} {Q : Value → Shared → Prop} (hb : s.heap.get? b = some (bmObj a)) (hl : s.heap.PlainList a items)
    (hQ : ∀ h', h'.PlainList a (items.push x) → Heap.SameBut a s.heap h' → Q .none { s with heap := h' }) (hsz : items.size ≤ sizeLine) : wpAny (model prog w) A (call (.ref b) [x]) Q E s := by
  obtain ⟨n, ho⟩ := hl
  refine wpAny_call (codeAny_of_tree ?_)
  show wpAny _ A.in1 (callAny (.ref b) ⟨[x], []⟩) _ _ s
  simp only [callAny]
  refine wpAny_bind (wpAny_load hb ?_)
  simp only [show (Value.type "builtin_function_or_method" == Value.type "method" || Value.type "builtin_function_or_method" == Value.type "builtin_function_or_method" || Value.type "builtin_function_or_method" == Value.type "method-wrapper") = true by decide, if_true]
  refine KFB.if_so (by decide) ?_
  refine wpAny_bind ?_
  refine check_bm ho ?_
  refine wpAny_bind (wpAny_pure (wpAny_pure ?_))
  refine ⟨quiet_la, codeAny_builtin entry_list_append ?_⟩
  show wpAny _ _ (updateSeq a (·.push x) >>= fun _ => ret .none) _ _ s
  refine wpAny_bind ?_
  refine wpAny_updateSeq ho rfl (wpAny_pure (hQ _ ⟨n + 1, ?_⟩ (Heap.SameBut.update ..))) hsz (by rw [Array.size_push]; lia)
  rw [Heap.get?_update_self _ ho (by rw [Obj.mapSeq_push_plain]; rfl), Obj.mapSeq_push_plain]
theorem Xs.addB {x : Str} {e : PySem.Expr} {np pos' : Pos} {a : Addr} {Ps : List VP} {P : VP} {Q : Flow → Shared → Prop} (F : Fm ν env s₀ s m cm) (C : Cx ν ro A Mut H s) (ho : Ev ν prog w A Mut s (eval (.Name x np) env) (vBM a)) (aM : a ∈ Mut) (f0 : s₀.heap.get? a = none) (aE : a ∉ Env.mut env)
    (O : Own a Ps (vis ν Mut s.heap) s.heap) (he : Ev ν prog w A Mut s (eval e env) P) (hsz : Ps.length ≤ sizeLine)
    (h : ∀ s', Fm ν env s₀ s' m cm → Cx ν ro A Mut H s' → Step ν [a] Mut s s' → Own a (Ps ++ [P]) (vis ν Mut s'.heap) s'.heap → Q .next s')
    (hst : starEach [e] env = (false, eval e env) :: starEach [] env := by rfl)
    (hi : interactive env = false := by rfl) (hs : swapsWith (.Call (.Name x np) [e] [] pos) none pos'.line env = pure false := by rfl) :
    Xs ν prog w A (exec (.Expr (.Call (.Name x np) [e] [] pos) pos') env) Q s := .mk fun E => by
  have n57 : Off ν a := fresh57 F.tab f0
  refine wpAny_Expr_any (wpAny_Call_NameR (ho.use (Kp.refl _) fun v s₁ k₁ p₁ => ?_)) hi hs
  obtain ⟨b, rfl, eb⟩ := p₁
  have O₁ := O.at k₁ n57
  have h2 : wpAny (model prog w) A (spliced (backTo pos (starEach [e] env))) (fun vs s' => Kept s'.heap (.ref b) ∧ wpAny (model prog w) A (call (.ref b) ([] ++ vs)) (fun _ => Q Flow.next) E s') E s₁ := by
    refine spliced_more (he.use k₁ fun y s₂ k₂ p₂ => ?_) hst
    refine spliced_none ?_
    have O₂ := O₁.at k₂ n57
    have eb₂ := vis_le _ _ ((k₂.vis _) _ _ eb)
    refine ⟨Kept.bm eb₂, ?_⟩
    obtain ⟨vs, l, q⟩ := O₂.ex
    show wpAny _ _ (call (.ref b) ([] ++ [y])) _ _ _
    refine call_bm eb₂ l (fun h' hl' hs' => ?_) (by rw [List.size_toArray, q.length]; exact hsz)
    have fc := (F.at (k₁.trans k₂)).change (tk := s₂.toks) hs' f0 (fun e => aE (e ▸ .head _)) (fun p hp e => aE (e ▸ .tail _ (List.mem_map.mpr ⟨p, hp, rfl⟩))) (Nat.le_refl _)
    have hd : ∃ o, h'.get? a = some o := by obtain ⟨n, e⟩ := hl'; exact ⟨_, e⟩
    have cc := (C.at (k₁.trans k₂)).change (tk := s₂.toks) hs' aM hd (Nat.le_refl _)
    have fl : Fl (vis ν Mut s₂.heap) (vis ν Mut h') := vis_change hs' aM
    refine h { s₂ with heap := h' } fc cc ((Step.of (k₁.trans k₂)).trans ⟨fl, fun b o nb _ e => (hs'.2 b fun q => nb (q ▸ .head _)).trans e⟩) ⟨vs ++ [y], by simpa using hl', ?_⟩
    exact All2.snoc (P.mono fl p₂) (q.mono fl)
  refine callWith_of (P := fun h => Kept h (.ref b)) (by rw [hst]; rfl) (fun h x => x _) ?_
  rw [hst] at h2 ⊢
  exact evalArgs_plain h2
end
end Mine
set_option maxRecDepth 10000
namespace Mine
open PySem PySem.W PyProof.Rows PySem.Calls PySem.Spec
noncomputable def nth (k : Nat) : Stmt := PySem.Challenge.pw_in0247_01.main.body.getD k (.Pass default)
noncomputable def fArgs : Stmt → Arguments
  | .FunctionDef _ a _ _ _ _ _ _ _ _ => a
  | _ => { posonlyargs := [], args := [], vararg := none, kwonlyargs := [], kw_defaults := [], kwarg := none, defaults := [] }
noncomputable def fBody : Stmt → List Stmt
  | .FunctionDef _ _ b _ _ _ _ _ _ _ => b
  | _ => []
noncomputable def fScope : Stmt → Scope
  | .FunctionDef _ _ _ _ _ _ sc _ _ _ => sc
  | _ => default
noncomputable abbrev fnTab : List (Str × Addr × Nat) := [("translate", 43, 3), ("escape", 55, 6), ("_translate", 62, 8), ("_join_translated_parts", 69, 9), ("unquote", 97, 22), ("quote", 104, 23), ("_unquote_match", 116, 27), ("header_decode", 123, 28),
  ("sorted_list_difference", 130, 30), ("_law_name", 135, 32), ("_law_items", 140, 33), ("_law_figures", 147, 34), ("_law_pattern", 154, 35), ("_law_tried", 159, 36), ("_law_read", 166, 37), ("_law_stands", 171, 38), ("_law_fits", 176, 39)]
noncomputable abbrev biTab : List (Str × Value) := [("len", .builtin "len"), ("range", .type "range"), ("ord", .builtin "ord"), ("chr", .builtin "chr"), ("sum", .builtin "sum"), ("min", .builtin "min"), ("list", .type "list"), ("sorted", .builtin "sorted"), ("int", .type "int"), ("str", .type "str"), ("isinstance", .builtin "isinstance"), ("object", .type "object"), ("IndexError", .type "IndexError")]
noncomputable abbrev T (l : List Nat) : Str := ⟨l.toArray⟩
noncomputable def hex2 (c : Nat) : Str := ⟨#[61, hx (c / 16), hx (c % 16)]⟩
structure Base (H : Heap) (mg mb : Str → Option Value) : Prop where
  ns : H.Ns mainGlobals mg
  bi : H.Ns builtinsNs mb
  gf : ∀ p ∈ fnTab, mg p.1 = some (.ref p.2.1) ∧ Def H p.2.1 p.1 (fArgs (nth p.2.2)) (fBody (nth p.2.2)) (fScope (nth p.2.2))
  gb : ∀ p ∈ biTab, mg p.1 = none ∧ mb p.1 = some p.2
  qmap : mg "_QUOPRI_MAP" = some (.ref 77) ∧ (vL ((List.range 256).map fun c => vS (hex2 c))).on H (.ref 77)
section
variable {ro : Nat} {prog : Program} {w : World} {A : Around} {Mut : List Addr} {s₁ s : Shared} {env : Env} {H : Heap} {mg mb : Str → Option Value}
theorem Base.fn {A' : Around} (B : Base H mg mb) {x : Str} {a : Addr} {k : Nat} {pos : Pos} (C : Cx ν ro A' Mut H s) (i : Nat) (hm : fnTab[i]? = some (x, a, k) := by rfl)
    (hk : env.scope.kind = .function := by rfl) (hg : env.globals = mainGlobals := by rfl) (hx : env.kindOf x = some .globalImplicit := by rfl) (hd : (x == ("__debug__" : Str)) = false := by decide) :
    Ev ν prog w A Mut s (eval (.Name x pos) env) (vV (.ref a)) :=
  Ev.global (B.ns.keeps C.base) (B.gf _ (List.mem_of_getElem? hm)).1 rfl hk hg hx hd
theorem Base.df (B : Base H mg mb) (i : Nat) {x : Str} {a : Addr} {k : Nat} (hm : fnTab[i]? = some (x, a, k) := by rfl) : Def H a x (fArgs (nth k)) (fBody (nth k)) (fScope (nth k)) :=
  (B.gf _ (List.mem_of_getElem? hm)).2
theorem Base.bn {A' : Around} (B : Base H mg mb) {x : Str} {v : Value} {pos : Pos} (C : Cx ν ro A' Mut H s) (i : Nat) (hm : biTab[i]? = some (x, v) := by rfl)
    (hk : env.scope.kind = .function := by rfl) (hg : env.globals = mainGlobals := by rfl) (hb : env.builtins = builtinsNs := by rfl) (hx : env.kindOf x = some .globalImplicit := by rfl) (hd : (x == ("__debug__" : Str)) = false := by decide) :
    Ev ν prog w A Mut s (eval (.Name x pos) env) (vV v) :=
  Ev.builtin (B.ns.keeps C.base) (B.gb _ (List.mem_of_getElem? hm)).1 (B.bi.keeps C.base) (B.gb _ (List.mem_of_getElem? hm)).2 hk hg hb hx hd
theorem Base.kept (B : Base H mg mb) (C : Cx ν ro A Mut H s) (i : Nat) {x : Str} {a : Addr} {k : Nat} (hm : fnTab[i]? = some (x, a, k) := by rfl) : Kept (vis ν Mut s.heap) (.ref a) := by
  obtain ⟨o, pm, cd, doc, h1, h2, h3⟩ := (B.df i hm).ex
  obtain ⟨oc, od, dt, sl⟩ := o
  dsimp only at h2
  subst h2
  exact Kept.fn ⟨oc, od, _, sl, C.base _ _ h1⟩
end
section
variable {ro : Nat} {prog : Program} {w : World} {A : Around} {Mut : List Addr} {s₁ s : Shared} {env : Env} {H : Heap} {mg mb : Str → Option Value}
theorem quote_ok (B : Base H mg mb) (C : Cx ν (ro + 1) A Mut H s) {c : Nat} {v : Value} (hc : c < 256) (p : (vS ⟨#[c]⟩).on (vis ν Mut s.heap) v) :
    Op ν prog w A Mut s (call (.ref 104) [v]) (vS (hex2 c)) := by
  refine fn_call C (B.df 5) (binds := [("c", v)]) (fun _ _ _ => rfl) (fun _ x hx => .inl (by rw [List.mem_singleton.mp hx]; rfl)) (fun L cd s' F C' fl => ?_) (by decide)
  refine Xs.cons (Xs.ret (P := vS (hex2 c)) ?_ fun v s'' k pv => ⟨v, rfl, F.k.trans k, pv⟩)
  refine Ev.itemL (Ps := (List.range 256).map fun c => vS (hex2 c)) (k := (c : Int)) (by lia) (by lia) ?_ (Ev.global (B.ns.keeps C'.base) B.qmap.1 ((vL _).mono C'.base B.qmap.2)) ?_
  · have : (List.range 256)[c]? = some c := by rw [List.getElem?_range]; exact hc
    rw [List.getElem?_map, Int.toNat_natCast, this]; rfl
  · refine Ev.callN (B.bn C' 2) Kept.builtin (Es.cons (Ev.name (F.var (x := "c") rfl) ((vS _).mono fl p)) Es.nil) fun vs s₂ k q => ?_
    obtain ⟨v', _, rfl, p', rfl⟩ := q
    exact op_ord p'
theorem join0 : ∀ ls : List (List Nat), Txt.join ⟨#[]⟩ (ls.map T) = T ls.flatten := by
  have key : ∀ ls : List (List Nat), Str.join ⟨#[]⟩ (ls.map T) = T ls.flatten := by
    intro ls
    induction ls with
    | nil => rfl
    | cons a r ih =>
      cases r with
      | nil => simp [Str.join]
      | cons b r =>
        show T a ++ ⟨#[]⟩ ++ Str.join ⟨#[]⟩ ((b :: r).map T) = _
        rw [ih]
        show (⟨a.toArray ++ #[] ++ ((b :: r).flatten).toArray⟩ : Str) = _
        simp
  intro ls
  rw [← key]
  exact StrLaws.glued_eq_join _ _
theorem joinFold : ∀ (ls : List (List Nat)) (n : Nat), (ls.map T).foldl (fun (x : Nat) (y : Str) => x + y.length + 0) n = n + ls.flatten.length
  | [], n => rfl
  | a :: r, n => by
    rw [List.map_cons, List.foldl_cons, joinFold r]
    simp [Str.length]
    lia
theorem joinOk0 {ls : List (List Nat)} (h : ls.flatten.length ≤ sizeLine) : JoinOk ⟨#[]⟩ (ls.map T) = true := by
  unfold JoinOk Builtin.Str.tooLong
  simp only [List.foldl_toArray', Bool.not_eq_true', decide_eq_false_iff_not]
  have := joinFold ls 0
  have e : (⟨#[]⟩ : Str).length = 0 := rfl
  rw [e]
  lia
theorem Ev.join0 {e : PySem.Expr} {ls : List (List Nat)} {k : Nat} {p apos pos : Pos} (he : Ev ν prog w A Mut s₁ (eval e env) (vL (ls.map fun l => vS (T l)))) (hsz : ls.flatten.length ≤ sizeLine)
    (hb : attributeBase (.Constant (.str (Str.ofString "")) k p) "join" env (eval (.Constant (.str (Str.ofString "")) k p) env) = eval (.Constant (.str (Str.ofString "")) k p) env := by rfl)
    (hform : ((((backTo pos (starEach [e] env)).all fun x => !x.fst) && (backToKw pos (keywordEach [] env)).all fun x => x.fst.isSome) && decide (([e].length + ([] : List PySem.Keyword).length + if ([] : List PySem.Keyword).isEmpty = true then 0 else 1) < 30)) = true := by rfl)
    (hl : (apos.endLine == pos.line) = true := by rfl)
    (he' : starEach [e] env = (false, eval e env) :: starEach [] env := by rfl) (hp : (backTo pos (starEach [] env)).any (·.1) = false := by rfl) :
    Ev ν prog w A Mut s₁ (eval (.Call (.Attribute (.Constant (.str (Str.ofString "")) k p) "join" apos) [e] [] pos) env) (vS (T ls.flatten)) := by
  refine Ev.meth PySem.F.plainAttrs_str PySem.F.slot_str_join PySem.F.type_str_join Ev.cStr (fun v s k p => ?_) (Es.cons he Es.nil he') (fun v vs s₂ k p q => ?_) hb hform hl he' hp
  · obtain ⟨t, rfl⟩ := p
    exact ⟨typeIs_str _ _ _, fun a e => by cases e⟩
  · obtain ⟨v', _, rfl, p', rfl⟩ := q
    have e : (ls.map fun l => vS (T l)) = (ls.map T).map vS := by simp
    rw [e] at p'
    have := op_join (prog := prog) (w := w) (A := A) (x := ⟨#[]⟩) (joinOk0 hsz) p p'
    rw [Mine.join0] at this
    exact this
theorem unquote_ok (B : Base H mg mb) (C : Cx ν (ro + 1) A Mut H s) {c : Nat} {v : Value} (hc : c < 256) (p : (vS (hex2 c)).on (vis ν Mut s.heap) v) :
    Op ν prog w A Mut s (call (.ref 97) [v]) (vS (T [c])) := by
  refine fn_call C (B.df 4) (binds := [("s", v)]) (fun _ _ _ => rfl) (fun _ x hx => .inl (by rw [List.mem_singleton.mp hx]; rfl)) (fun L cd s' F C' fl => ?_) (by decide)
  refine Xs.cons (Xs.ret (P := vS (T [c])) ?_ fun v s'' k pv => ⟨v, rfl, F.k.trans k, pv⟩)
  refine Ev.callN (B.bn C' 3) Kept.builtin (Es.cons (P := vI c) (Ev.callN (B.bn C' 8) Kept.type (Es.cons (Ev.sliceS C' (Ev.name (F.var (x := "s") rfl) ((vS _).mono fl p)) (.is Ev.cInt) (.is Ev.cInt) ?_) (Es.cons Ev.cInt Es.nil)) fun vs s₂ k q => ?_) Es.nil) fun vs s₂ k q => ?_
  · show (hex2 c).length ≤ _
    exact (by decide : 3 ≤ sizeLine)
  · obtain ⟨v1, _, rfl, p1, v2, _, rfl, p2, rfl⟩ := q
    have e : Txt.slice (hex2 c) (some 1) (some 3) = ⟨#[hx (c / 16), hx (c % 16)]⟩ := by
      rw [show (some (1 : Int)) = some ((1 : Nat) : Int) from rfl, show (some (3 : Int)) = some ((3 : Nat) : Int) from rfl, slice_ab]
      rfl
    rw [e] at p1
    exact int16 hc p1 p2
  · obtain ⟨v', _, rfl, p', rfl⟩ := q
    exact op_chr (by lia) p'
theorem divSmall {a b : Int} (h : b.natAbs < 2 ^ 60) : Builtin.divisionGoesByPylong a b = false := by
  unfold Builtin.divisionGoesByPylong
  have e : (if (b == 0) = true then 0 else b.natAbs.log2 / 30 + 1) ≤ 300 := by
    split
    · lia
    · have : b.natAbs.log2 < 60 := by
        rename_i hne
        have hb : b.natAbs ≠ 0 := by simpa using hne
        exact (Nat.log2_lt hb).mpr h
      lia
  simp only [Bool.and_eq_false_iff, decide_eq_false_iff_not]
  exact .inl (by lia)
theorem hexTxt_at {d : Nat} (h : d < 16) : (Str.ofString "0123456789ABCDEF").cps[d]? = some (hx d) := by
  have : ∀ d : Fin 16, (Str.ofString "0123456789ABCDEF").cps[d.val]? = some (hx d.val) := by decide
  exact this ⟨d, h⟩
theorem figures_ok (B : Base H mg mb) (C : Cx ν (ro + 1) A Mut H s) {c : Nat} {v : Value} (hc : c < 256) (p : (vS (T [c])).on (vis ν Mut s.heap) v) :
    Op ν prog w A Mut s (call (.ref 147) [v]) (vS (hex2 c)) := by
  refine fn_call C (B.df 11) (binds := [("sign", v)]) (fun _ _ _ => rfl) (fun _ x hx => .inl (by rw [List.mem_singleton.mp hx]; rfl)) (fun L cd s' F C' fl => ?_) (by decide)
  refine Xs.cons (Xs.ret (P := vS (hex2 c)) ?_ fun v s'' k pv => ⟨v, rfl, F.k.trans k, pv⟩)
  have h1 : (c : Int).fdiv 16 = ((c / 16 : Nat) : Int) := by rw [Int.fdiv_eq_ediv_of_nonneg _ (by decide)]; lia
  have h2 : (c : Int).fmod 16 = ((c % 16 : Nat) : Int) := by rw [Int.fmod_eq_emod_of_nonneg _ (by decide)]; lia
  refine (Ev.addS (x := ⟨#[61, hx (c / 16)]⟩) (y := ⟨#[hx (c % 16)]⟩) (show 2 + 1 ≤ sizeLine by decide) (Ev.addS (x := ⟨#[61]⟩) (y := ⟨#[hx (c / 16)]⟩) (show 1 + 1 ≤ sizeLine by decide) Ev.cStr (Ev.itemS (k := (c : Int).fdiv 16) ?_ ?_ ?_ Ev.cStr (Ev.divI C'.hh (by decide) (divSmall (by decide)) ?_ Ev.cInt))) (Ev.itemS (k := (c : Int).fmod 16) ?_ ?_ ?_ Ev.cStr (Ev.modI (by decide) ?_ Ev.cInt)))
  · lia
  · lia
  · rw [h1, Int.toNat_natCast]; exact hexTxt_at (by lia)
  · refine Ev.callN (B.bn C' 2) Kept.builtin (Es.cons (Ev.name (F.var (x := "sign") rfl) ((vS _).mono fl p)) Es.nil) fun vs s₂ k q => ?_
    obtain ⟨v', _, rfl, p', rfl⟩ := q
    exact op_ord p'
  · lia
  · lia
  · rw [h2, Int.toNat_natCast]; exact hexTxt_at (by lia)
  · refine Ev.callN (B.bn C' 2) Kept.builtin (Es.cons (Ev.name (F.var (x := "sign") rfl) ((vS _).mono fl p)) Es.nil) fun vs s₂ k q => ?_
    obtain ⟨v', _, rfl, p', rfl⟩ := q
    exact op_ord p'
theorem outs_true {α : Type} (l : List α) (f g : α → VP) : outsOf (l.map fun k => (f k, true, g k)) = l.map g := by
  unfold outsOf
  rw [List.filter_eq_self.mpr (by intro a ha; obtain ⟨_, _, rfl⟩ := List.mem_map.mp ha; rfl), List.map_map]
  rfl
theorem flat_single {α : Type} (l : List α) (f : α → Nat) : (l.map fun k => [f k]).flatten = l.map f := by
  induction l with
  | nil => rfl
  | cons a r ih => simp [ih]
noncomputable def sign7 : List Nat := [97, 98, 61, 233, 42, 95, 32]
noncomputable def nameSign (x : Int) (k : Nat) : Nat := sign7.getD (((x.fdiv 5).fdiv (7 ^ k)).fmod 7).toNat 0
noncomputable def nameOf (x : Int) : List Nat := (List.range (x.fmod 5).toNat).map (nameSign x)
theorem fmod_range (x : Int) {n : Int} (h : 0 < n) : 0 ≤ x.fmod n ∧ x.fmod n < n := by
  rw [Int.fmod_eq_emod_of_nonneg _ (by lia)]
  exact ⟨Int.emod_nonneg _ (by lia), Int.emod_lt_of_pos _ h⟩
theorem name_ok (B : Base H mg mb) (C : Cx ν (ro + 1) A Mut H s) {x : Int} {v₀ : Value} (p : (vI x).on (vis ν Mut s.heap) v₀) :
    Op ν prog w A Mut s (call (.ref 135) [v₀]) (vS (T (nameOf x))) := by
  refine fn_call C (B.df 9) (binds := [("x", v₀)]) (fun _ _ _ => rfl) (fun _ x hx => .inr (by rw [List.mem_singleton.mp hx]; exact ⟨rfl, rfl⟩)) (fun L cd s' F C' fl => ?_) (by decide)
  refine Xs.cons (Xs.ret (P := vS (T (nameOf x))) ?_ fun v s'' k pv => ⟨v, rfl, F.k.trans k, pv⟩)
  have hr := fmod_range x (n := 5) (by decide)
  have X : Var (envOfC "_law_name" (fScope (nth 32)) L 135 cd) s'.heap "x" v₀ := F.varC (x := "x") rfl (L + 1) rfl
  have nm : ∀ {pos : Pos}, Ev ν prog w (A.deeper (envOfC "_law_name" (fScope (nth 32)) L 135 cd)) (Env.mut (envOfC "_law_name" (fScope (nth 32)) L 135 cd) ++ Mut) s' (eval (.Name "x" pos) (envOfC "_law_name" (fScope (nth 32)) L 135 cd)) (vI x) := Ev.name X ((vI _).mono fl p)
  have hf : ((List.range (x.fmod 5).toNat).map fun k => [nameSign x k]).flatten = nameOf x := flat_single _ _
  rw [← hf]
  refine Ev.join0 ?_ (by rw [hf]; unfold nameOf; rw [List.length_map, List.length_range]; exact Nat.le_trans (Nat.le_of_lt (show _ < 5 by lia)) (by decide))
  · refine (Ev.comp (Psrc := vR 0 (x.fmod 5).toNat) (items := (List.range (x.fmod 5).toNat).map fun (k : Nat) => (vI (0 + (k : Int)), true, vS (T [nameSign x k]))) C'.tab C'.old ?_ ?_ ?_ ?_ rfl rfl ?_ ?_).imp ?_
    · refine Ev.callN (B.bn C' 1) Kept.type (Es.cons (Ev.modI (by decide) nm Ev.cInt) Es.nil) fun vs s₂ k q => ?_
      obtain ⟨v', _, rfl, p', rfl⟩ := q
      exact op_range (C'.at k) (by lia) (by rw [Int.toNat_of_nonneg hr.1]; exact p')
    · intro v s k p
      rw [List.map_map]
      exact Iter.range C'.hh (C'.at k).tab (C'.at k).old p
    · intro t ht C N s₃ v k₃ o₃ f₃ X₃ p₃
      obtain ⟨k, hk, rfl⟩ := List.mem_map.mp ht
      have hk5 : k < 5 := by have := List.mem_range.mp hk; lia
      refine Turn.none ?_
      have h7 : ((7 : Int) ^ k).natAbs < 2 ^ 60 ∧ (7 : Int) ^ k ≠ 0 := by
        have : k = 0 ∨ k = 1 ∨ k = 2 ∨ k = 3 ∨ k = 4 := by lia
        rcases this with rfl | rfl | rfl | rfl | rfl <;> decide
      have hm := fmod_range ((x.fdiv 5).fdiv (7 ^ k)) (n := 7) (by decide)
      have C₃ := C'.in k₃ o₃ f₃
      refine Ev.itemL (Ps := sign7.map fun c => vS (T [c])) (k := ((x.fdiv 5).fdiv (7 ^ k)).fmod 7) hm.1 (by lia) ?_ ?_ ?_
      · unfold nameSign
        have : (((x.fdiv 5).fdiv (7 ^ k)).fmod 7).toNat < sign7.length := by show _ < 7; lia
        rw [List.getElem?_map, List.getD_eq_getElem?_getD, List.getElem?_eq_getElem this]
        rfl
      · exact Ev.list C₃ (Es.cons Ev.cStr (Es.cons Ev.cStr (Es.cons Ev.cStr (Es.cons Ev.cStr (Es.cons Ev.cStr (Es.cons Ev.cStr (Es.cons Ev.cStr Es.nil))))))) (by decide)
      · have e7 : (7 : Int) ^ k = 7 ^ (0 + (k : Int)).toNat := by rw [Int.zero_add, Int.toNat_natCast]
        refine Ev.modI (by decide) (Ev.divI C₃.hh h7.2 (divSmall h7.1) (Ev.divI C₃.hh (by decide) (divSmall (by decide)) (Ev.name ((X.keeps k₃.le).comp rfl rfl fun c h => h) ((vI _).mono f₃ ((vI _).mono fl p))) Ev.cInt) ?_) Ev.cInt
        rw [e7]
        exact Ev.powI (by lia) (by lia) (by decide) Ev.cInt (Ev.name X₃ p₃)
    · rw [List.length_map, List.length_range]
      have : (x.fmod 5).toNat < 5 := by lia
      exact Nat.le_trans (Nat.le_of_lt this) (by decide)
    · decide
    · decide
    · intro h v q
      have e : outsOf ((List.range (x.fmod 5).toNat).map fun (k : Nat) => (vI (0 + (k : Int)), true, vS (T [nameSign x k]))) = (List.range (x.fmod 5).toNat).map fun k => vS (T [nameSign x k]) := outs_true _ _ _
      rw [e] at q
      rw [List.map_map]
      exact q
end
end Mine
set_option maxRecDepth 10000
namespace Mine
open PySem PySem.W PyProof.Rows PySem.Calls PySem.Spec
section
variable {ro : Nat} {prog : Program} {w : World} {A : Around} {Mut : List Addr} {s₀ s₁ s : Shared} {env : Env} {H : Heap} {pos : Pos} {m cm : Str → Option Value} {whole : Sem Value} {l r : PySem.Expr}
theorem Ev.fstr3 {e : PySem.Expr} {x1 x2 y : Str} {k1 k2 : Nat} {p1 p2 p3 : Pos} (he : Ev ν prog w A Mut s₁ (eval e env) (vS y)) (hy : x1.length + y.length + x2.length ≤ sizeLine) :
    Ev ν prog w A Mut s₁ (eval (.JoinedStr [.Constant (.str x1) k1 p1, .FormattedValue e (-1) none p2, .Constant (.str x2) k2 p3] pos) env) (vS (Str.empty ++ x1 ++ y ++ x2)) := .mk fun s E k => by
  have l0 : Str.empty.length = 0 := rfl
  refine JoinedStr_many (joinParts_cons (Constant_str ⟨by rw [strLen_append]; lia, ?_⟩))
  refine joinParts_cons (FormattedValue_plain (he.use (k.trans Kp.tok) fun v s' k1 p => ?_))
  obtain ⟨t, rfl⟩ := p
  refine wpAny_with_toks (n := s'.toks) (Nat.le_refl _) (formatField_str (fun t' tk ht => ?_) (by lia))
  refine ⟨by rw [strLen_append, strLen_append]; lia, ?_⟩
  show wpAny _ _ (joinParts _ [eval (.Constant (.str x2) k2 p3) env]) _ _ _
  refine joinParts_cons (Constant_str ⟨by rw [strLen_append, strLen_append, strLen_append]; lia, ?_⟩)
  refine joinParts_nil ?_ (by rw [strLen_append, strLen_append, strLen_append]; lia)
  refine ⟨((Kp.tok (s := s)).trans k1).trans (Kp.tok (Nat.le_trans ht (Nat.le_trans (Nat.le_succ _) (Nat.le_succ _)))), _, rfl⟩
noncomputable def vEl (st : Addr) : Option (List Nat) → VP
  | none => vV (.ref st)
  | some l => vS (T l)
theorem Eb.isNotStar {st : Addr} {o : Option (List Nat)} (h1 : Ev ν prog w A Mut s₁ (eval l env) (vEl st o)) (h2 : Ev ν prog w A Mut s₁ (eval r env) (vV (.ref st))) (hb : behindInMarks .IsNot r = false := by rfl) :
    Eb ν prog w A s₁ (isTrue (.Compare l [.IsNot] [r] pos) env whole) o.isSome :=
  Eb.cmp h1 h2 (fun v1 v2 s k p1 p2 => .mk fun E => by
    obtain rfl : v2 = .ref st := p2
    cases o with
    | none => obtain rfl : v1 = .ref st := p1; exact wpAny_isNot_ref_self ⟨Kp.refl _, rfl⟩
    | some l => obtain ⟨t, rfl⟩ : ∃ t, v1 = .str (T l) t := p1; exact wpAny_isNot_other rfl (by intro h; cases h) ⟨Kp.refl _, rfl⟩) hb
theorem Eb.isStar {st : Addr} {o : Option (List Nat)} (h1 : Ev ν prog w A Mut s₁ (eval l env) (vEl st o)) (h2 : Ev ν prog w A Mut s₁ (eval r env) (vV (.ref st))) (hb : behindInMarks .Is r = false := by rfl) :
    Eb ν prog w A s₁ (isTrue (.Compare l [.Is] [r] pos) env whole) o.isNone :=
  Eb.cmp h1 h2 (fun v1 v2 s k p1 p2 => .mk fun E => by
    obtain rfl : v2 = .ref st := p2
    cases o with
    | none => obtain rfl : v1 = .ref st := p1; exact wpAny_is_ref_self ⟨Kp.refl _, rfl⟩
    | some l => obtain ⟨t, rfl⟩ : ∃ t, v1 = .str (T l) t := p1; exact wpAny_is_other rfl (by intro h; cases h) ⟨Kp.refl _, rfl⟩) hb
theorem Xs.whileM {test : PySem.Expr} {body : List Stmt} {Q : Flow → Shared → Prop} (J : Shared → Prop) (I : Nat → Shared → Prop)
    (turn : ∀ n s, I n s → ∃ b, Eb ν prog w A s (isTrue test env (eval test env)) b ∧
      (b = true → ∀ s', Kp ν s s' → Xs ν prog w A (execs body env) (fun f s₃ => match f with | .next => ∃ k, k < n ∧ I k s₃ | .cont => ∃ k, k < n ∧ I k s₃ | .brk => J s₃ | .ret v => Q (.ret v) s₃) s') ∧ (b = false → ∀ s', Kp ν s s' → J s'))
    (n : Nat) (h : I n s) (hJ : ∀ s, J s → Q .next s) : Xs ν prog w A (exec (.While test body [] pos) env) Q s :=
  Xs.while I (fun n s hI => by
    obtain ⟨b, hb, h1, h2⟩ := turn n s hI
    exact ⟨b, hb, fun e s' k => (h1 e s' k).imp fun f s₃ y => by cases f <;> first | exact y | exact hJ _ y, fun e s' k => hJ _ (h2 e s' k)⟩) n h
end
end Mine
set_option maxRecDepth 100000
namespace Mine
open PySem PySem.W PyProof.Rows PySem.Calls PySem.Spec
noncomputable def CtxOk (ν : Nat) (A : Around) (s : Shared) : Prop := A.handled = none ∨ ∃ e o vs, A.handled = some (.ref e) ∧ s.heap.get? e = some o ∧ o.data = .fields vs ∧ vs[2]? = some .none ∧ Off ν e
theorem CtxOk.at {A : Around} {s s' : Shared} (x : CtxOk ν A s) (k : Kp ν s s') : CtxOk ν A s' := by
  rcases x with h | ⟨e, o, vs, h1, h2, h3, h4, h5⟩
  · exact .inl h
  · exact .inr ⟨e, o, vs, h1, k.le.keep _ _ h5 h2, h3, h4, h5⟩
namespace XF
theorem entry_unchain : entryFor table "proto.unchain" = some Builtin.«proto.unchain» := entryFor_of_tree (by kernel_rfl)
theorem plain_unchain : plainId "proto.unchain" = true := by decide +kernel
end XF
section
variable {prog : Program} {w : World} {A : Around} {E : Value → Shared → Prop} {s : Shared}
theorem raise_ix {α : Type} {msg : String} {Q : α → Shared → Prop} (hc : CtxOk ν A s)
    (h : ∀ h' tk e t c, (∀ b o, s.heap.get? b = some o → h'.get? b = some o) → s.heap.get? e = none → h'.get? e = some { cls := .type "IndexError", data := .fields #[t, .none, c, .none, .bool false, .none] } → (A.handled = none → c = .none) → s.toks ≤ tk → E (.ref e) { s with heap := h', toks := tk }) :
    wpAny (model prog w) A (raiseErrorWords "IndexError" msg : Sem α) Q E s := by
  unfold raiseErrorWords
  refine wpAny_bind (wpAny_mkText (wpAny_bind ?_))
  refine wpAny_newExc_plain plainExc_IndexError (fun h' e hm => ?_) (show 1 ≤ sizeLine by decide)
  obtain ⟨t, he, htn, ht⟩ := hm.there
  unfold raiseNew
  refine wpAny_bind (wpAny_handled ?_)
  rcases hc with hn | ⟨e1, o1, vs1, h1, h2, h3, h4, h5⟩
  · rw [hn]
    first
      | exact wpAny_throw (h h' _ e (.ref t) .none hm.keeps hm.new he (fun _ => rfl) (Nat.le_succ _))
      | exact wpAny_bind (wpAny_pure (wpAny_throw (h h' _ e (.ref t) .none hm.keeps hm.new he (fun _ => rfl) (Nat.le_succ _))))
  · rw [h1]
    have hne : e1 ≠ e := fun q => by rw [q, hm.new] at h2; cases h2
    have hb : (Value.ref e1 != Value.ref e) = true := by simpa using hne
    have h2' := hm.keeps _ _ h2
    dsimp only
    rw [if_pos hb]
    refine wpAny_bind (wpAny_holding (wpAny_runValue (codeAny_builtin XF.entry_unchain ?_)))
    rw [Around.under_plainId XF.plain_unchain _]
    unfold Builtin.«proto.unchain»
    dsimp only
    refine wpAny_bind (wpAny_field h2' h3 h4 ?_)
    have hz : (Value.none == Value.none) = true := rfl
    rw [if_pos hz]
    refine wpAny_bind (wpAny_pure (wpAny_pure ?_))
    show wpAny (model prog w) A (setField (.ref e) 2 (.ref e1) >>= fun _ => (throw (Value.ref e) : Sem α)) _ _ _
    refine wpAny_bind ?_
    refine wpAny_setField he rfl (show 2 < 6 by decide) ?_
    refine wpAny_throw ?_
    refine h (h'.update e (Obj.mapFields (·.setIfInBounds 2 (.ref e1)))) _ e (.ref t) (.ref e1) (fun b o hb => ?_) hm.new ?_ (fun hn => by rw [h1] at hn; cases hn) (Nat.le_succ _)
    · have : b ≠ e := fun q => by rw [q, hm.new] at hb; cases hb
      rw [Heap.get?_update_other _ _ (Ne.symm this)]
      exact hm.keeps _ _ hb
    · exact Heap.get?_update_self _ he rfl
theorem getItem_out {l : Addr} {items : Array Value} {k : Int} {t : Tok} {Q : Value → Shared → Prop} (hl : s.heap.IsList l items) (h0 : 0 ≤ k) (hout : (items.size : Int) ≤ k) (hk : k < 2 ^ 63) (hc : CtxOk ν A s)
    (hE : ∀ h' tk e t c, (∀ b o, s.heap.get? b = some o → h'.get? b = some o) → s.heap.get? e = none → h'.get? e = some { cls := .type "IndexError", data := .fields #[t, .none, c, .none, .bool false, .none] } → (A.handled = none → c = .none) → s.toks ≤ tk → E (.ref e) { s with heap := h', toks := tk }) :
    wpAny (model prog w) A (getItem (.ref l) (.int k t)) Q E s := by
  obtain ⟨o, ho, hcl, ne, hd⟩ := id hl
  unfold getItem
  refine wpAny_holding ?_
  refine wpAny_bind (wpAny_sequenceKey hl.typeIs (by decide) ?_)
  refine wpAny_bind (wpAny_callSpecial?_slot (name := Str.ofString "__getitem__") hl.typeIs slot_list_getitem (wpAny_call_entry slot_list_getitem hl.typeIs entry_list_getitem ?_ (args_list_getitem _ _)))
  show wpAny _ _ (Builtin.List.listSubscript? (.int k t) >>= _) _ _ s
  refine wpAny_bind (wpAny_listSubscript_int (fitsIndex_both (by lia) hk) ?_)
  clear hk
  cases k with
  | negSucc j => exact absurd h0 (by have := Int.negSucc_lt_zero j; lia)
  | ofNat j =>
    have hx : items[j]? = none := Array.getElem?_eq_none (by have : (items.size : Int) ≤ (j : Int) := hout; lia)
    show wpAny _ _ ((seqItemAt l j >>= fun r => pure (r.map (j, ·))) >>= _) _ _ s
    refine wpAny_bind (wpAny_bind (wpAny_seqItemAt ho hd (wpAny_pure ?_)))
    rw [hx]
    have hc' : CtxOk ν A.in1 s := hc
    first
      | exact wpAny_bind (wpAny_rule (raise_ix hc' hE))
      | exact wpAny_bind (wpAny_rule (wpAny_bind (raise_ix hc' hE)))
      | exact wpAny_bind (wpAny_bind (wpAny_rule (raise_ix hc' hE)))
      | exact wpAny_rule (raise_ix hc' hE)
end
end Mine
set_option maxRecDepth 100000
namespace Mine
open PySem PySem.W PyProof.Rows PySem.Calls PySem.Spec
noncomputable def Trc (h : Heap) (e T : Addr) (fl c : Value) : Prop :=
  ∃ oe vs oT ts, h.get? e = some oe ∧ oe.cls = .type "IndexError" ∧ oe.data = .fields vs ∧ vs[1]? = some (.ref T) ∧ vs[2]? = some c ∧ T ≠ e ∧ h.get? T = some oT ∧ oT.data = .fields ts ∧ ts[3]? = some fl
theorem Trc.keep {h h' : Heap} {e T : Addr} {fl c : Value} (x : Trc h e T fl c) (k : ∀ b o, b = e ∨ b = T → h.get? b = some o → h'.get? b = some o) : Trc h' e T fl c :=
  let ⟨oe, vs, oT, ts, a, b, c1, d, d2, f, g, i⟩ := x; ⟨oe, vs, oT, ts, k _ _ (.inl rfl) a, b, c1, d, d2, f, k _ _ (.inr rfl) g, i⟩
structure Stk (ν : Nat) (A : Around) (env : Env) (s : Shared) : Prop where
  fr : ∃ eL, A.frames = some [env, eL] ∧ eL.frame = some ν ∧ eL.scope.kind ≠ .module
  k : env.scope.kind ≠ .module
  f : env.frame = some env.locals
  nu : ∃ o, s.heap.get? ν = some o ∧ ∀ vs, o.data ≠ .fields vs
section
variable {M : Model} {A : Around} {E : Value → Shared → Prop} {s : Shared} {env : Env}
theorem note_first {e : Addr} {oe : Obj} {vs : Array Value} {c : Value} {Q : Unit → Shared → Prop} (S : Stk ν A env s) (hL : ∃ o, s.heap.get? env.locals = some o ∧ ∀ vs, o.data ≠ .fields vs)
    (he : s.heap.get? e = some oe) (hcl : oe.cls = .type "IndexError") (hd : oe.data = .fields vs) (h1 : vs[1]? = some .none) (h2 : vs[2]? = some c)
    (h : ∀ h' T, s.heap.get? T = none → Trc h' e T (rawInt env.locals) c → (∀ b o, b ≠ env.locals → b ≠ ν → b ≠ e → s.heap.get? b = some o → h'.get? b = some o) →
      (∀ b o, b = env.locals ∨ b = ν → s.heap.get? b = some o → ∃ sl, h'.get? b = some { o with slots := sl }) → Q () { s with heap := h' }) : wpAny M A (noteFrame (.ref e) env) Q E s := by
  obtain ⟨eL, hfr, f2, k2⟩ := S.fr
  obtain ⟨oL, hoL, dL⟩ := hL
  obtain ⟨oN, hoN, dN⟩ := S.nu
  have hsz : 1 < vs.size := (Array.getElem?_eq_some_iff.mp h1).1
  have eL' : e ≠ env.locals := fun q => by rw [q, hoL] at he; cases he; exact dL _ hd
  have eN' : e ≠ ν := fun q => by rw [q, hoN] at he; cases he; exact dN _ hd
  have ff : s.heap.FunFrames ⟨#[], default⟩ [env, eL] := ⟨S.k, ⟨env.locals, oL, S.f, rfl, hoL, dL⟩, k2, ⟨ν, oN, f2, rfl, hoN, dN⟩, trivial⟩
  unfold noteFrame
  simp only [S.f]
  refine wpAny_bind (wpAny_field he hd h1 ?_)
  rw [if_neg (by decide)]
  refine wpAny_bind (wpAny_frameOf_fun hfr ff S.f fun h₁ hs₁ => ?_)
  have hmem : ([env, eL].filterMap (·.frame)) = [env.locals, ν] := by simp [S.f, f2]
  rw [hmem] at hs₁
  refine wpAny_bind (wpAny_entryPlaceOf fun pl hpl => ?_)
  unfold EntryCells.newEntry newFields
  refine wpAny_bind (wpAny_newObj_type ?_ (hpl.sizeOk5 _ _ _ _ _))
  have he₁ : h₁.get? e = some oe := (hs₁.2.1 e (by simp [eL', eN'])).trans he
  generalize hT : ({ cls := .type "traceback", dict := none, data := .fields ([Value.none, .ref env.locals, .none, rawInt env.locals, .none] ++ (if pl.isEmpty then List.replicate 6 Value.none else pl)).toArray } : Obj) = oT
  have hTd : ∃ ts, oT.data = .fields ts ∧ ts[3]? = some (rawInt env.locals) := ⟨_, by rw [← hT], by simp⟩
  have hTf : oT.isFreed = false := by rw [← hT]; rfl
  have he₂ := Heap.get?_push_of_some (h := h₁) oT he₁
  have hTe : h₁.objs.size ≠ e := Nat.ne_of_gt (Heap.lt_size he₁)
  refine wpAny_setField he₂ hd hsz ?_
  have hd₃ := Obj.data_mapFields hd (·.setIfInBounds 1 (Value.ref h₁.objs.size))
  obtain ⟨ts, ht1, ht2⟩ := hTd
  refine h _ h₁.objs.size (by rw [hs₁.1]; exact none_of_ge (Nat.le_refl _)) ⟨_, _, oT, ts, Heap.get?_update_self _ he₂ (Obj.isFreed_of_fields hd₃), (Obj.cls_mapFields _ _).trans hcl, hd₃, by simp [hsz], by rw [Array.getElem?_setIfInBounds_ne (by decide)]; exact h2, hTe, ?_, ht1, ht2⟩ (fun b o b1 b2 b3 hb => ?_) (fun b o hb hbo => ?_)
  · rw [Heap.get?_update_other _ _ (Ne.symm hTe)]
    exact Heap.get?_push_size h₁ hTf
  · rw [Heap.get?_update_other _ _ (Ne.symm b3)]
    exact Heap.get?_push_of_some _ ((hs₁.2.1 b (by simp [b1, b2])).trans hb)
  · obtain ⟨sl, e1⟩ := hs₁.2.2 b o hbo
    refine ⟨sl, ?_⟩
    have : b ≠ e := hb.elim (fun q => by rw [q]; exact Ne.symm eL') fun q => by rw [q]; exact Ne.symm eN'
    rw [Heap.get?_update_other _ _ (Ne.symm this)]
    exact Heap.get?_push_of_some _ e1
theorem set_fly {e T : Addr} {fl c : Value} {f : Option Addr} {Q : Unit → Shared → Prop} (x : Trc s.heap e T fl c)
    (h : ∀ h', Heap.SameBut T s.heap h' → Trc h' e T (f.elim .none fun f => rawInt f) c → Q () { s with heap := h' }) : wpAny M A (setFlight (.ref e) f) Q E s := by
  obtain ⟨oe, vs, oT, ts, a1, a2, a3, a4, a5, a6, a7, a8, a9⟩ := x
  have hsz : 3 < ts.size := (Array.getElem?_eq_some_iff.mp a9).1
  unfold setFlight
  refine wpAny_bind (wpAny_field a1 a3 a4 ?_)
  rw [if_pos (show (Value.ref T != Value.none) = true from by simp)]
  have hd₃ := Obj.data_mapFields a8 (·.setIfInBounds 3 (f.elim Value.none fun f => rawInt f))
  refine wpAny_setField a7 a8 hsz (h _ (Heap.SameBut.update ..) ⟨oe, vs, _, _, ?_, a2, a3, a4, a5, a6, Heap.get?_update_self _ a7 (Obj.isFreed_of_fields hd₃), hd₃, by simp [hsz]⟩)
  rw [Heap.get?_update_other _ _ a6]
  exact a1
theorem note_again {e T : Addr} {c : Value} {Q : Unit → Shared → Prop} (hf : env.frame = some env.locals) (x : Trc s.heap e T (rawInt env.locals) c) (h : Q () s) : wpAny M A (noteFrame (.ref e) env) Q E s := by
  obtain ⟨oe, vs, oT, ts, a1, a2, a3, a4, a5, a6, a7, a8, a9⟩ := x
  unfold noteFrame
  simp only [hf]
  refine wpAny_bind (wpAny_field a1 a3 a4 ?_)
  rw [if_pos (show (Value.ref T != Value.none) = true from by simp)]
  refine wpAny_bind (wpAny_field a7 a8 a9 ?_)
  rw [if_pos (show (rawInt env.locals == rawInt env.locals) = true from by simp)]
  exact wpAny_pure h
theorem came_back {e T : Addr} {fl c : Value} (x : Trc s.heap e T fl c) (hf : env.frame = some env.locals)
    (h : ∀ h', Heap.SameBut T s.heap h' → Trc h' e T (rawInt env.locals) c → E (.ref e) { s with heap := h' }) : cameBackBy M A env E (.ref e) s := by
  obtain ⟨oe, vs, oT, ts, a1, a2, a3, a4, r⟩ := x
  show wpAny M A _ _ _ _
  refine wpAny_bind (wpAny_field a1 a3 a4 ?_)
  rw [if_neg (show ¬ ((Value.ref T == Value.none) = true) from by simp)]
  rw [hf]
  exact set_fly (f := some env.locals) ⟨oe, vs, oT, ts, a1, a2, a3, a4, r⟩ h
theorem pass_on {α : Type} {e T : Addr} {fl c : Value} {what : String} {Q : α → Shared → Prop} (x : Trc s.heap e T fl c) (hf : env.frame = some env.locals)
    (h : ∀ h', Heap.SameBut T s.heap h' → Trc h' e T (rawInt env.locals) c → E (.ref e) { s with heap := h' }) : wpAny M A (PySem.passOn what (.ref e) env : Sem α) Q E s := by
  obtain ⟨oe, vs, oT, ts, a1, a2, a3, a4, r⟩ := x
  unfold PySem.passOn
  refine wpAny_bind (wpAny_field a1 a3 a4 ?_)
  rw [if_neg (show ¬ ((Value.ref T == Value.none) = true) from by simp)]
  rw [hf]
  refine wpAny_bind (set_fly (f := some env.locals) ⟨oe, vs, oT, ts, a1, a2, a3, a4, r⟩ fun h' hs ht => wpAny_throw (h h' hs ht))
end
structure ExcR (L ν : Nat) (s s' : Shared) : Prop where
  ex : ∃ h tk, s' = { s with heap := h, toks := tk } ∧ s.toks ≤ tk
  keep : ∀ b o, b ≠ L → b ≠ ν → s.heap.get? b = some o → s'.heap.get? b = some o
  slots : ∀ b o, b = L ∨ b = ν → s.heap.get? b = some o → ∃ sl, s'.heap.get? b = some { o with slots := sl }
section
variable {ro : Nat} {prog : Program} {w : World} {A A' : Around} {Mut : List Addr} {s₀ s s' : Shared} {env : Env} {H : Heap} {m cm : Str → Option Value} {L : Addr}
theorem ExcR.nu57 (o : ∃ o, s.heap.get? ν = some o ∧ ∀ vs, o.data ≠ .fields vs) (t : Tab ν s.heap) : ν ≠ 57 := fun q => by
  obtain ⟨o, e, d⟩ := o
  obtain ⟨ps, e', _⟩ := t
  rw [q, e'] at e
  cases e
  exact d _ rfl
theorem ExcR.vis (X : ExcR L ν s s') (hL : L ∈ Mut) : Fl (vis ν Mut s.heap) (vis ν Mut s'.heap) := fun b o e => by
  obtain ⟨e1, n1, n2⟩ := vis_iff.mp e
  exact vis_iff.mpr ⟨X.keep b o (fun q => n1 (q ▸ hL)) n2.2 e1, n1, n2⟩
theorem Fm.exc (F : Fm ν env s₀ s m cm) (X : ExcR env.locals ν s s') (hc : env.cells = []) (h57 : ν ≠ 57) : Fm ν env s₀ s' m cm := by
  have offL := fresh57 F.tab F.freshL
  have inL : ∀ b o, s₀.heap.get? b = some o → b ≠ env.locals := fun b o e q => by rw [q, F.freshL] at e; cases e
  obtain ⟨h, tk, rfl, ht⟩ := X.ex
  refine ⟨F.k.to ⟨fun b o n e => X.keep b o (inL b o e) n.2 (F.k.le.keep b o n e), fun b o n e => ?_, fun t => ?_⟩ (Nat.le_trans F.k.tk ht), F.tab, F.kf, ?_, fun n c e => ?_, F.freshL, F.freshC, F.apart, F.neL⟩
  · obtain ⟨sl, e1⟩ := F.k.le.frm b o n e
    by_cases q : b = ν
    · obtain ⟨sl', e2⟩ := X.slots b _ (.inr q) e1
      exact ⟨sl', e2⟩
    · exact ⟨sl, X.keep b _ (inL b o e) q e1⟩
  · obtain ⟨ps, e, r, o, eo⟩ := F.k.le.tab t
    obtain ⟨sl, eo'⟩ := X.slots ν o (.inr rfl) eo
    exact ⟨ps, X.keep 57 _ (Ne.symm offL.1) (Ne.symm h57) e, r, _, eo'⟩
  · obtain ⟨o, es, ep, e, d, r⟩ := F.ns
    obtain ⟨sl, e'⟩ := X.slots _ o (.inl rfl) e
    exact ⟨_, es, ep, e', d, r⟩
  · rw [hc] at e; cases e
theorem Cx.exc (C : Cx ν ro A' Mut H s) (X : ExcR L ν s s') (hL : L ∈ Mut) (h57 : ν ≠ 57) : Cx ν ro A' Mut H s' := by
  have nL : L ≠ 57 := (C.old L hL).1
  refine ⟨C.hh, C.dep, C.un, ?_, fun a ha => ?_, C.base.trans (X.vis hL), ?_⟩
  · obtain ⟨ps, e, r, o, eo⟩ := C.tab
    obtain ⟨sl, eo'⟩ := X.slots ν o (.inr rfl) eo
    exact ⟨ps, X.keep 57 _ (Ne.symm nL) (Ne.symm h57) e, r, _, eo'⟩
  · obtain ⟨n, o, e⟩ := C.old a ha
    refine ⟨n, ?_⟩
    by_cases q : a = L ∨ a = ν
    · obtain ⟨sl, e'⟩ := X.slots a o q e; exact ⟨_, e'⟩
    · rw [not_or] at q; exact ⟨o, X.keep a o q.1 q.2 e⟩
  · obtain ⟨h, tk, rfl, ht⟩ := X.ex
    exact Nat.le_trans C.tk ht
theorem Cx.hide {N : List Addr} (C : Cx ν ro A' Mut H s) (C' : Cx ν ro A' Mut H s') (fl : Fl (vis ν Mut s.heap) (vis ν Mut s'.heap)) (hn : ∀ a ∈ N, s.heap.get? a = none ∧ ∃ o, s'.heap.get? a = some o) : Cx ν ro A' (N ++ Mut) H s' ∧ Fl (vis ν Mut s.heap) (vis ν (N ++ Mut) s'.heap) := by
  have fl' : Fl (Mine.vis ν Mut s.heap) (Mine.vis ν (N ++ Mut) s'.heap) := fun b o e => by
    obtain ⟨e1, n1, n2⟩ := vis_iff.mp e
    obtain ⟨f1, f2, f3⟩ := vis_iff.mp (fl b o e)
    refine vis_iff.mpr ⟨f1, fun hm => ?_, f3⟩
    rcases List.mem_append.mp hm with hm | hm
    · rw [(hn b hm).1] at e1; cases e1
    · exact n1 hm
  refine ⟨⟨C'.hh, C'.dep, C'.un, C'.tab, fun a ha => ?_, C.base.trans fl', C'.tk⟩, fl'⟩
  rcases List.mem_append.mp ha with ha | ha
  · exact ⟨(off_of C.tab (hn a ha).1).1, (hn a ha).2⟩
  · exact C'.old a ha
end
end Mine
set_option maxRecDepth 10000
namespace Mine
open PySem PySem.W PyProof.Rows PySem.Calls PySem.Spec
structure Fresh (ν : Nat) (A : Around) (s' s1 : Shared) (e : Addr) : Prop where
  ex : ∃ h' tk t c, s1 = { s' with heap := h', toks := tk } ∧ s'.toks ≤ tk ∧ (∀ b o, s'.heap.get? b = some o → h'.get? b = some o) ∧ s'.heap.get? e = none ∧
    h'.get? e = some { cls := .type "IndexError", data := .fields #[t, .none, c, .none, .bool false, .none] } ∧ (A.handled = none → c = .none)
section
variable {ro : Nat} {prog : Program} {w : World} {A A' : Around} {M : List Addr} {s₀ s₁ s : Shared} {env : Env} {H : Heap} {mg mb : Str → Option Value} {pos : Pos} {m cm : Str → Option Value} {l r : PySem.Expr}
theorem sub_raise {Ps : List VP} {k : Int} {E : Value → Shared → Prop} {Q : Value → Shared → Prop} (h1 : Ev ν prog w A M s₁ (eval l env) (vL Ps)) (h2 : Ev ν prog w A M s₁ (eval r env) (vI k)) (hk : (Ps.length : Int) ≤ k) (hk2 : k < 2 ^ 63) (hc : CtxOk ν A s₁) (k0 : Kp ν s₁ s)
    (hE : ∀ s' s1 e, Kp ν s s' → Fresh ν A s' s1 e → E (.ref e) s1)
    (hs : ∃ f : Value → Value → List Value, ∀ o i, subscripted r false o i = operate (f o i) (getItem o i) := by exact ⟨fun o i => [o, i], fun _ _ => rfl⟩) : wpAny (model prog w) A (eval (.Subscript l r pos) env) Q E s :=
  Subscript_ (h1.use k0 fun v1 s' k1 p1 => h2.use (k0.trans k1) fun v2 s'' k2 p2 => by
    obtain ⟨f, hf⟩ := hs
    obtain ⟨a, vs, rfl, l, q⟩ := (vL Ps).mono (k2.vis _) p1
    obtain ⟨t, rfl⟩ := p2
    have hl := (plist_le l vis_le).isList
    refine tail_any hl.typeIs slot_list_getitem.lookup (getItem_out hl (by lia) (by rw [List.size_toArray, q.length]; exact hk) hk2 (hc.at ((k0.trans k1).trans k2)) fun h' tk e t c e1 e2 e3 e4 e5 => ?_) (hf _ _)
    exact hE s'' _ e (k1.trans k2) ⟨h', tk, t, c, rfl, e5, e1, e2, e3, e4⟩)
theorem Fresh.note {s' s1 : Shared} {e : Addr} {E : Value → Shared → Prop} {Q : Unit → Shared → Prop} (x : Fresh ν A s' s1 e) (fr : ∃ eL, A.frames = some [env, eL] ∧ eL.frame = some ν ∧ eL.scope.kind ≠ .module) (hk : env.scope.kind ≠ .module) (hf : env.frame = some env.locals)
    (nu : ∃ o, s'.heap.get? ν = some o ∧ ∀ vs, o.data ≠ .fields vs) (hL : ∃ o, s'.heap.get? env.locals = some o ∧ ∀ vs, o.data ≠ .fields vs)
    (h : ∀ s2 T c, ExcR env.locals ν s' s2 → s'.heap.get? e = none → s'.heap.get? T = none → Trc s2.heap e T (rawInt env.locals) c → (A.handled = none → c = .none) → Q () s2) : wpAny (model prog w) A (noteFrame (.ref e) env) Q E s1 := by
  obtain ⟨h', tk, t, c, rfl, ht, e1, e2, e3, e4⟩ := x.ex
  obtain ⟨oN, hN, dN⟩ := nu
  obtain ⟨oL, hL, dL⟩ := hL
  refine note_first (c := c) ⟨fr, hk, hf, oN, e1 _ _ hN, dN⟩ ⟨oL, e1 _ _ hL, dL⟩ e3 rfl rfl rfl rfl fun h'' T n1 n2 n3 n4 => ?_
  refine h _ T c ⟨⟨h'', tk, rfl, ht⟩, fun b o b1 b2 hb => n3 b o b1 b2 (fun q => by rw [q, e2] at hb; cases hb) (e1 _ _ hb), fun b o hb hbo => n4 b o hb (e1 _ _ hbo)⟩ e2 ?_ n2 e4
  cases q : s'.heap.get? T with
  | none => rfl
  | some o => have := e1 _ _ q; rw [n1] at this; cases this
noncomputable abbrev eSl (L : Addr) (cd : Value) : Env := envOfC "sorted_list_difference" (fScope (nth 30)) L 130 cd
variable {L a b : Addr} {cd : Value} {ex ac ms us : List Str} {i j : Nat}
structure SSt (ν : Nat) (ro : Nat) (A : Around) (M : List Addr) (H : Heap) (L : Addr) (cd : Value) (s₀ : Shared) (ex ac ms us : List Str) (a b : Addr) (i j : Nat) (m cm : Str → Option Value) (s : Shared) : Prop where
  F : Fm ν (eSl L cd) s₀ s m cm
  C : Cx ν ro A M H s
  hM : L ∈ M
  aM : a ∈ M
  bM : b ∈ M
  fa : s₀.heap.get? a = none
  fb : s₀.heap.get? b = none
  ab : a ≠ b
  aL : a ≠ L
  bL : b ≠ L
  nu : ∃ o, s₀.heap.get? ν = some o ∧ ∀ vs, o.data ≠ .fields vs
  xv : ∃ v, m "expected" = some v ∧ (vL (ex.map vS)).on (vis ν M s.heap) v
  av : ∃ v, m "actual" = some v ∧ (vL (ac.map vS)).on (vis ν M s.heap) v
  mi : m "missing" = some (.ref a)
  un : m "unexpected" = some (.ref b)
  iv : ∃ t, m "i" = some (.int (i : Int) t)
  jv : ∃ t, m "j" = some (.int (j : Int) t)
  om : Own a (ms.map vS) (vis ν M s.heap) s.heap
  ou : Own b (us.map vS) (vis ν M s.heap) s.heap
theorem nu_kp {s s' : Shared} (x : ∃ o, s.heap.get? ν = some o ∧ ∀ vs, o.data ≠ .fields vs) (t : Tab ν s.heap) (k : Kp ν s s') : ∃ o, s'.heap.get? ν = some o ∧ ∀ vs, o.data ≠ .fields vs := by
  have h57 := ExcR.nu57 x t
  obtain ⟨o, e, d⟩ := x
  obtain ⟨sl, e'⟩ := k.le.frm _ _ h57 e
  exact ⟨_, e', d⟩
noncomputable abbrev slNames : List Str := ["expected", "actual", "missing", "unexpected"]
theorem SSt.offA (J : SSt ν ro A' M H L cd s₀ ex ac ms us a b i j m cm s) : Off ν a := fresh57 J.F.tab J.fa
theorem SSt.offB (J : SSt ν ro A' M H L cd s₀ ex ac ms us a b i j m cm s) : Off ν b := fresh57 J.F.tab J.fb
theorem SSt.n57 (J : SSt ν ro A' M H L cd s₀ ex ac ms us a b i j m cm s) : ν ≠ 57 := ExcR.nu57 J.nu J.F.tab
theorem SSt.nuS (J : SSt ν ro A' M H L cd s₀ ex ac ms us a b i j m cm s) : ∃ o, s.heap.get? ν = some o ∧ ∀ vs, o.data ≠ .fields vs := nu_kp J.nu J.F.tab J.F.k
theorem SSt.Ldata (J : SSt ν ro A' M H L cd s₀ ex ac ms us a b i j m cm s) : ∃ o, s.heap.get? (eSl L cd).locals = some o ∧ ∀ vs, o.data ≠ .fields vs := by
  obtain ⟨o, es, ep, e, d, _⟩ := J.F.ns
  exact ⟨o, e, fun vs q => by rw [d] at q; cases q⟩
theorem SSt.at {s' : Shared} (J : SSt ν ro A' M H L cd s₀ ex ac ms us a b i j m cm s) (k : Kp ν s s') : SSt ν ro A' M H L cd s₀ ex ac ms us a b i j m cm s' :=
  ⟨J.F.at k, J.C.at k, J.hM, J.aM, J.bM, J.fa, J.fb, J.ab, J.aL, J.bL, J.nu, let ⟨v, e, p⟩ := J.xv; ⟨v, e, (vL _).mono (k.vis _) p⟩, let ⟨v, e, p⟩ := J.av; ⟨v, e, (vL _).mono (k.vis _) p⟩, J.mi, J.un, J.iv, J.jv, J.om.at k J.offA, J.ou.at k J.offB⟩
theorem SSt.step {i' j' : Nat} {m' : Str → Option Value} {s' : Shared} (J : SSt ν ro A' M H L cd s₀ ex ac ms us a b i j m cm s) (F' : Fm ν (eSl L cd) s₀ s' m' cm) (C' : Cx ν ro A' M H s') (st : Step ν (Env.mut (eSl L cd)) M s s')
    (e : ∀ x ∈ slNames, m' x = m x) (ei : ∃ t, m' "i" = some (.int (i' : Int) t)) (ej : ∃ t, m' "j" = some (.int (j' : Int) t)) : SSt ν ro A' M H L cd s₀ ex ac ms us a b i' j' m' cm s' :=
  have aW : a ∉ Env.mut (eSl L cd) := by intro h; exact J.aL (List.mem_singleton.mp h)
  have bW : b ∉ Env.mut (eSl L cd) := by intro h; exact J.bL (List.mem_singleton.mp h)
  ⟨F', C', J.hM, J.aM, J.bM, J.fa, J.fb, J.ab, J.aL, J.bL, J.nu, (e "expected" (by decide)) ▸ (let ⟨v, e, p⟩ := J.xv; ⟨v, e, (vL _).mono st.fl p⟩), (e "actual" (by decide)) ▸ (let ⟨v, e, p⟩ := J.av; ⟨v, e, (vL _).mono st.fl p⟩), (e "missing" (by decide)).trans J.mi, (e "unexpected" (by decide)).trans J.un, ei, ej, J.om.st st aW J.offA, J.ou.st st bW J.offB⟩
theorem SSt.exc {s' : Shared} {e T : Addr} {fl c : Value} (J : SSt ν ro A' M H L cd s₀ ex ac ms us a b i j m cm s) (X : ExcR L ν s s') (ne : s.heap.get? e = none) (nT : s.heap.get? T = none) (t : Trc s'.heap e T fl c) : SSt ν ro A' (e :: T :: M) H L cd s₀ ex ac ms us a b i j m cm s' := by
  have C' := J.C.exc X J.hM J.n57
  have vfl := X.vis J.hM
  obtain ⟨oe, vs, oT, ts, t1, _, _, _, _, _, t2, _⟩ := t
  obtain ⟨C2, fl2⟩ := Cx.hide (N := [e, T]) J.C C' vfl (fun d hd => by
    rcases List.mem_cons.mp hd with rfl | hd
    · exact ⟨ne, _, t1⟩
    · rw [List.mem_singleton.mp hd]; exact ⟨nT, _, t2⟩)
  exact ⟨J.F.exc X rfl J.n57, C2, .tail _ (.tail _ J.hM), .tail _ (.tail _ J.aM), .tail _ (.tail _ J.bM), J.fa, J.fb, J.ab, J.aL, J.bL, J.nu, let ⟨v, e, p⟩ := J.xv; ⟨v, e, (vL _).mono fl2 p⟩, let ⟨v, e, p⟩ := J.av; ⟨v, e, (vL _).mono fl2 p⟩, J.mi, J.un, J.iv, J.jv,
    J.om.keep fl2 (fun o e => X.keep a o J.aL J.offA.2 e), J.ou.keep fl2 (fun o e => X.keep b o J.bL J.offB.2 e)⟩
theorem SSt.chg {h' : Heap} {T : Addr} (J : SSt ν ro A' M H L cd s₀ ex ac ms us a b i j m cm s) (hs : Heap.SameBut T s.heap h') (TM : T ∈ M) (hT : ∃ o, h'.get? T = some o) (f0 : s₀.heap.get? T = none) (Ta : a ≠ T) (Tb : b ≠ T) (TL : T ≠ L) : SSt ν ro A' M H L cd s₀ ex ac ms us a b i j m cm { s with heap := h' } := by
  have offT := fresh57 J.F.tab f0
  have fl : Fl (vis ν M s.heap) (vis ν M h') := vis_change hs TM
  exact ⟨J.F.change (tk := s.toks) hs f0 TL (fun p hp => by cases hp) (Nat.le_refl _), J.C.change (tk := s.toks) hs TM hT (Nat.le_refl _), J.hM, J.aM, J.bM, J.fa, J.fb, J.ab, J.aL, J.bL, J.nu, let ⟨v, e, p⟩ := J.xv; ⟨v, e, (vL _).mono fl p⟩, let ⟨v, e, p⟩ := J.av; ⟨v, e, (vL _).mono fl p⟩, J.mi, J.un, J.iv, J.jv,
    J.om.keep fl (fun o e => (hs.2 a Ta).trans e), J.ou.keep fl (fun o e => (hs.2 b Tb).trans e)⟩
theorem SSt.eX (J : SSt ν ro A' M H L cd s₀ ex ac ms us a b i j m cm s) {q : Pos} : Ev ν prog w A M s (eval (.Name "expected" q) (eSl L cd)) (vL (ex.map vS)) := by
  obtain ⟨v, e, p⟩ := J.xv
  exact Ev.name (J.F.var (x := "expected") e) p
theorem SSt.eA (J : SSt ν ro A' M H L cd s₀ ex ac ms us a b i j m cm s) {q : Pos} : Ev ν prog w A M s (eval (.Name "actual" q) (eSl L cd)) (vL (ac.map vS)) := by
  obtain ⟨v, e, p⟩ := J.av
  exact Ev.name (J.F.var (x := "actual") e) p
theorem SSt.eI (J : SSt ν ro A' M H L cd s₀ ex ac ms us a b i j m cm s) {q : Pos} : Ev ν prog w A M s (eval (.Name "i" q) (eSl L cd)) (vI (i : Int)) := by
  obtain ⟨t, e⟩ := J.iv
  exact Ev.name (J.F.var (x := "i") e) ⟨t, rfl⟩
theorem SSt.eJ (J : SSt ν ro A' M H L cd s₀ ex ac ms us a b i j m cm s) {q : Pos} : Ev ν prog w A M s (eval (.Name "j" q) (eSl L cd)) (vI (j : Int)) := by
  obtain ⟨t, e⟩ := J.jv
  exact Ev.name (J.F.var (x := "j") e) ⟨t, rfl⟩
end
end Mine
set_option maxRecDepth 100000
namespace Mine
open PySem PySem.W PyProof.Rows PySem.Calls PySem.Spec
namespace OF
theorem mro_object : mroOf (.type "object") = pure [.type "object"] := by rw [mroOf_type]; kernel_rfl
theorem lookup_new : typeLookup (.type "object") "__new__" = pure (some (.builtin "object.__new__")) := by rw [typeLookup_type, builtinLookup_eq_fast]; kernel_rfl
theorem sub_oo : isSubtype (.type "object") (.type "object") = pure true := by rw [isSubtype_type]; kernel_rfl
theorem made : Bind.madeBy (.type "object") = pure (some "object.__new__") := by first | kernel_rfl | exact madeBy_type mro_object lookup_new (by decide +kernel)
theorem madeHere : Bind.madeHere "object.__new__" (.type "object") = pure () := by kernel_rfl
end OF
noncomputable abbrev objObj : Obj := { cls := .type "object", data := .plain }
theorem object_new_meets : Meets (Builtin.«object.__new__» ⟨[.type "object"], []⟩) (fun _ R s => R (.ok (.ret (.ref s.heap.objs.size))) { s with heap := s.heap.push objObj }) := by
  intro prog w A R s h
  obtain ⟨hp, g, d, tk, os⟩ := s
  have f2 := OF.madeHere
  repeat (any_goals (first | assumption | wp_step))
namespace OF
theorem slot_init : Slot "object" "__init__" "object.__init__" :=
  .of (owner := "object") (n := "__init__") (by rw [typeLookup_type, builtinLookup_eq_fast]; kernel_rfl) (by decide +kernel) (by decide +kernel) (by decide +kernel)
    (by first | exact .inl (by decide +kernel) | exact .inr (by decide +kernel)) (by rw [isSubtype_type]; kernel_rfl)
theorem called : TypeCalled "object" "object.__new__" "object.__init__" := ⟨by decide +kernel, by decide +kernel, ⟨_, _, mro_object⟩, made, by decide +kernel, sub_oo, slot_init⟩
theorem args_init (a : Value) : argsOk "object.__init__" ⟨[a], []⟩ := by unfold argsOk; kernel_rfl
end OF
theorem object_init_ok {a : Addr} {o : Obj} : Meets (Builtin.«object.__init__» ⟨[.ref a], []⟩) (fun _ R s => s.heap.get? a = some o ∧ o.cls = .type "object" ∧ R (.ok (.ret .none)) s) := by
  intro prog w A R s ⟨h1, h2, h⟩
  obtain ⟨hp, g, d, tk, os⟩ := s
  have hT : (⟨hp, g, d, tk, os⟩ : Shared).TypeIs (.ref a) "object" := ⟨_, h1, h2⟩
  repeat (any_goals (first | assumption | wp_step))
theorem call_object {prog : Program} {w : World} {A : Around} {E : Value → Shared → Prop} {s : Shared} {Q : Value → Shared → Prop} (h : Q (.ref s.heap.objs.size) { s with heap := s.heap.push objObj }) : wpAny (model prog w) A (call (.type "object") []) Q E s := by
  refine callType_meets (Q₁ := fun obj s₁ => obj = .ref s.heap.objs.size ∧ s₁ = { s with heap := s.heap.push objObj }) OF.called (by kernel_rfl) (by kernel_rfl) F.entry_object_new F.entry_object_init object_new_meets ⟨rfl, rfl⟩ fun obj s₁ hq => ?_
  obtain ⟨rfl, rfl⟩ := hq
  have e : (s.heap.push objObj).get? s.heap.objs.size = some objObj := Heap.get?_push_size _ rfl
  exact ⟨⟨_, e, rfl⟩, OF.args_init _, _, object_init_ok (o := objObj), e, rfl, rfl, h⟩
end Mine
set_option maxRecDepth 10000
namespace Mine
open PySem PySem.W PyProof.Rows PySem.Calls PySem.Spec
noncomputable abbrev Item := Option (List Nat)
noncomputable def vItem : Item → VP
  | none => vN
  | some l => vS (T l)
noncomputable def item8 : List Item := [none, some [], some [97], some [98], some [61], some [233], some [42], some [95]]
noncomputable def itemAt (x : Int) (k : Nat) : Item := item8.getD ((x.fdiv (8 ^ k)).fmod 8).toNat none
noncomputable def itemsOf (x : Int) : List Item := (List.range 5).map (itemAt x)
section
variable {ro : Nat} {prog : Program} {w : World} {A : Around} {Mut : List Addr} {s₁ s : Shared} {env : Env} {H : Heap} {mg mb : Str → Option Value}
theorem items_ok (B : Base H mg mb) (C : Cx ν (ro + 1) A Mut H s) {x : Int} {v₀ : Value} (p : (vI x).on (vis ν Mut s.heap) v₀) :
    Op ν prog w A Mut s (call (.ref 140) [v₀]) (vL ((itemsOf x).map vItem)) := by
  refine fn_call C (B.df 10) (binds := [("number", v₀)]) (fun _ _ _ => rfl) (fun _ x hx => .inr (by rw [List.mem_singleton.mp hx]; exact ⟨rfl, rfl⟩)) (fun L cd s' F C' fl => ?_) (by decide)
  refine Xs.cons (Xs.ret (P := vL ((itemsOf x).map vItem)) ?_ fun v s'' k pv => ⟨v, rfl, F.k.trans k, pv⟩)
  have X : Var (envOfC "_law_items" (fScope (nth 33)) L 140 cd) s'.heap "number" v₀ := F.varC (x := "number") rfl (L + 1) rfl
  refine (Ev.comp (Psrc := vR 0 5) (items := (List.range 5).map fun (k : Nat) => (vI (0 + (k : Int)), true, vItem (itemAt x k))) C'.tab C'.old ?_ ?_ ?_ ?_ rfl rfl ?_ ?_).imp ?_
  · refine Ev.callN (B.bn C' 1) Kept.type (Es.cons Ev.cInt Es.nil) fun vs s₂ k q => ?_
    obtain ⟨v', _, rfl, p', rfl⟩ := q
    exact op_range (C'.at k) (by lia) p'
  · intro v s k p
    rw [List.map_map]
    exact Iter.range C'.hh (C'.at k).tab (C'.at k).old p
  · intro t ht C N s₃ v k₃ o₃ f₃ X₃ p₃
    obtain ⟨k, hk, rfl⟩ := List.mem_map.mp ht
    have hk5 : k < 5 := by have := List.mem_range.mp hk; lia
    refine Turn.none ?_
    have h7 : ((8 : Int) ^ k).natAbs < 2 ^ 60 ∧ (8 : Int) ^ k ≠ 0 := by
      have : k = 0 ∨ k = 1 ∨ k = 2 ∨ k = 3 ∨ k = 4 := by lia
      rcases this with rfl | rfl | rfl | rfl | rfl <;> decide
    have hm := fmod_range (x.fdiv (8 ^ k)) (n := 8) (by decide)
    have C₃ := C'.in k₃ o₃ f₃
    refine Ev.itemL (Ps := item8.map vItem) (k := (x.fdiv (8 ^ k)).fmod 8) hm.1 (by lia) ?_ ?_ ?_
    · unfold itemAt
      have : ((x.fdiv (8 ^ k)).fmod 8).toNat < item8.length := by show _ < 8; lia
      rw [List.getElem?_map, List.getD_eq_getElem?_getD, List.getElem?_eq_getElem this]
      rfl
    · exact Ev.list C₃ (Es.cons Ev.cNone (Es.cons Ev.cStr (Es.cons Ev.cStr (Es.cons Ev.cStr (Es.cons Ev.cStr (Es.cons Ev.cStr (Es.cons Ev.cStr (Es.cons Ev.cStr Es.nil)))))))) (by decide)
    · have e7 : (8 : Int) ^ k = 8 ^ (0 + (k : Int)).toNat := by rw [Int.zero_add, Int.toNat_natCast]
      refine Ev.modI (by decide) (Ev.divI C₃.hh h7.2 (divSmall h7.1) (Ev.name ((X.keeps k₃.le).comp rfl rfl fun c h => h) ((vI _).mono f₃ ((vI _).mono fl p))) ?_) Ev.cInt
      rw [e7]
      exact Ev.powI (by lia) (by lia) (by decide) Ev.cInt (Ev.name X₃ p₃)
  · exact (by decide : 5 ≤ sizeLine)
  · decide
  · decide
  · intro h v q
    have e : outsOf ((List.range 5).map fun (k : Nat) => (vI (0 + (k : Int)), true, vItem (itemAt x k))) = (List.range 5).map fun k => vItem (itemAt x k) := outs_true _ _ _
    rw [e] at q
    unfold itemsOf
    rw [List.map_map]
    exact q
end
end Mine
set_option maxRecDepth 10000
namespace Mine
open PySem PySem.W PyProof.Rows PySem.Calls PySem.Spec
noncomputable abbrev RItem := List Nat × Bool
noncomputable def vRd (i : RItem) : VP := vL [vS (T i.1), vB i.2]
noncomputable abbrev vRs (is : List RItem) : VP := vL (is.map vRd)
noncomputable def misses (items : List RItem) (name : List Nat) (p : Nat) (k : Nat) : Bool :=
  Txt.contains (T (items.getD k ([], false)).1) (T [name.getD (p + k) 0]) == (items.getD k ([], false)).2
noncomputable def standsF (items : List RItem) (name : List Nat) (p : Nat) : Bool :=
  decide (p + items.length ≤ name.length) && ((List.range items.length).filter (misses items name p)).isEmpty
section
variable {ro : Nat} {prog : Program} {w : World} {A : Around} {Mut : List Addr} {s₁ s : Shared} {env : Env} {H : Heap} {mg mb : Str → Option Value}
theorem Ev.lenS (B : Base H mg mb) (C : Cx ν ro A Mut H s₁) {e : PySem.Expr} {l : List Nat} {np pos : Pos} (h : Ev ν prog w A Mut s₁ (eval e env) (vS (T l))) (hl : l.length < 2 ^ 63)
    (hk : env.scope.kind = .function := by rfl) (hg : env.globals = mainGlobals := by rfl) (hb : env.builtins = builtinsNs := by rfl) (hx : env.kindOf "len" = some .globalImplicit := by rfl)
    (he : starEach [e] env = (false, eval e env) :: starEach [] env := by rfl) : Ev ν prog w A Mut s₁ (eval (.Call (.Name "len" np) [e] [] pos) env) (vI l.length) :=
  Ev.callN (B.bn C 0 rfl hk hg hb hx) Kept.builtin (Es.cons h Es.nil he) (fun vs s₂ k q => by
    obtain ⟨v', _, rfl, p', rfl⟩ := q
    have := op_lenS (prog := prog) (w := w) (A := A) (x := T l) (by simpa [Str.length] using hl) p'
    simpa [Str.length] using this) he (by cases pos; rfl)
theorem Ev.lenL (B : Base H mg mb) (C : Cx ν ro A Mut H s₁) {e : PySem.Expr} {Ps : List VP} {np pos : Pos} (h : Ev ν prog w A Mut s₁ (eval e env) (vL Ps)) (hl : Ps.length < 2 ^ 63)
    (hk : env.scope.kind = .function := by rfl) (hg : env.globals = mainGlobals := by rfl) (hb : env.builtins = builtinsNs := by rfl) (hx : env.kindOf "len" = some .globalImplicit := by rfl)
    (he : starEach [e] env = (false, eval e env) :: starEach [] env := by rfl) : Ev ν prog w A Mut s₁ (eval (.Call (.Name "len" np) [e] [] pos) env) (vI Ps.length) :=
  Ev.callN (B.bn C 0 rfl hk hg hb hx) Kept.builtin (Es.cons h Es.nil he) (fun vs s₂ k q => by
    obtain ⟨v', _, rfl, p', rfl⟩ := q
    exact op_lenL hl p') he (by cases pos; rfl)
theorem Ev.range1 (B : Base H mg mb) (C : Cx ν ro A Mut H s₁) {e : PySem.Expr} {n : Nat} {np pos : Pos} (h : Ev ν prog w A Mut s₁ (eval e env) (vI n)) (hl : n < 2 ^ 62)
    (hk : env.scope.kind = .function := by rfl) (hg : env.globals = mainGlobals := by rfl) (hb : env.builtins = builtinsNs := by rfl) (hx : env.kindOf "range" = some .globalImplicit := by rfl)
    (he : starEach [e] env = (false, eval e env) :: starEach [] env := by rfl) : Ev ν prog w A Mut s₁ (eval (.Call (.Name "range" np) [e] [] pos) env) (vR 0 n) :=
  Ev.callN (B.bn C 1 rfl hk hg hb hx) Kept.type (Es.cons h Es.nil he) (fun vs s₂ k q => by
    obtain ⟨v', _, rfl, p', rfl⟩ := q
    exact op_range (C.at k) hl p') he (by cases pos; rfl)
theorem stands_ok (B : Base H mg mb) (C : Cx ν (ro + 1) A Mut H s) {items : List RItem} {name : List Nat} {p : Nat} {vi vn vp : Value} (hi : (vRs items).on (vis ν Mut s.heap) vi) (hn : (vS (T name)).on (vis ν Mut s.heap) vn) (hp : (vI p).on (vis ν Mut s.heap) vp)
    (li : items.length < 1000) (ln : name.length < 1000) (lp : p < 1000000) :
    Op ν prog w A Mut s (call (.ref 171) [vi, vn, vp]) (vB (standsF items name p)) := by
  refine fn_call C (B.df 15) (binds := [("items", vi), ("name", vn), ("place", vp)]) (fun _ _ _ => rfl) (fun _ x hx => .inr ?_) (fun L cd s' F C' fl => ?_) (by decide)
  · simp only [List.mem_cons, List.not_mem_nil, or_false] at hx
    rcases hx with rfl | rfl | rfl <;> exact ⟨rfl, rfl⟩
  have vI' : ∀ {pos : Pos} {s₂ : Shared}, Kp ν s' s₂ → Ev ν prog w (A.deeper (envOfC "_law_stands" (fScope (nth 38)) L 171 cd)) (Env.mut (envOfC "_law_stands" (fScope (nth 38)) L 171 cd) ++ Mut) s₂ (eval (.Name "items" pos) (envOfC "_law_stands" (fScope (nth 38)) L 171 cd)) (vRs items) :=
    fun k => (Ev.name (F.varC (x := "items") rfl (L + 1) rfl) ((vRs _).mono fl hi)).at k
  have vN' : ∀ {pos : Pos} {s₂ : Shared}, Kp ν s' s₂ → Ev ν prog w (A.deeper (envOfC "_law_stands" (fScope (nth 38)) L 171 cd)) (Env.mut (envOfC "_law_stands" (fScope (nth 38)) L 171 cd) ++ Mut) s₂ (eval (.Name "name" pos) (envOfC "_law_stands" (fScope (nth 38)) L 171 cd)) (vS (T name)) :=
    fun k => (Ev.name (F.varC (x := "name") rfl (L + 2) rfl) ((vS _).mono fl hn)).at k
  have vP' : ∀ {pos : Pos} {s₂ : Shared}, Kp ν s' s₂ → Ev ν prog w (A.deeper (envOfC "_law_stands" (fScope (nth 38)) L 171 cd)) (Env.mut (envOfC "_law_stands" (fScope (nth 38)) L 171 cd) ++ Mut) s₂ (eval (.Name "place" pos) (envOfC "_law_stands" (fScope (nth 38)) L 171 cd)) (vI p) :=
    fun k => (Ev.name (F.varC (x := "place") rfl (L + 3) rfl) ((vI _).mono fl hp)).at k
  have li' : (items.map vRd).length < 2 ^ 63 := by rw [List.length_map]; lia
  refine Xs.cons (Xs.if (b := decide (name.length < p + items.length)) ?_ (fun hb s₂ k₂ => ?_) (fun hb s₂ k₂ => ?_))
  · refine (Eb.or2 (b := false) (c := decide (name.length < p + items.length)) ?_ fun _ => ?_).eq (by simp)
    · exact (Eb.ltI (vP' (Kp.refl _)) Ev.cInt).eq (by simp)
    · refine (Eb.gtI (x := (p : Int) + (items.length : Int)) (y := name.length) (Ev.addI (vP' (Kp.refl _)) ((Ev.lenL B C' (vI' (Kp.refl _)) li').imp fun h v q => by simpa using q)) (Ev.lenS B C' (vN' (Kp.refl _)) (by lia))).eq ?_
      apply decide_eq_decide.mpr
      lia
  · refine Xs.cons (Xs.ret (Mut := Env.mut (envOfC "_law_stands" (fScope (nth 38)) L 171 cd) ++ Mut) (P := vB false) Ev.cBool fun v s'' k pv => ⟨v, rfl, F.k.trans (k₂.trans k), ?_⟩)
    have : standsF items name p = false := by
      unfold standsF
      rw [decide_eq_true_eq] at hb
      rw [decide_eq_false (by lia)]
      rfl
    rw [this]
    exact pv
  · refine Xs.nil ?_
    rw [decide_eq_false_iff_not] at hb
    have hle : p + items.length ≤ name.length := by lia
    have C₂ := C'.at k₂
    refine Xs.cons (Xs.ret (P := vB (standsF items name p)) ?_ fun v s'' k pv => ⟨v, rfl, F.k.trans (k₂.trans k), pv⟩)
    have e : standsF items name p = (PyData.list (((List.range items.length).filter (misses items name p)).map fun (k : Nat) => PyData.int (k : Int))).eqv (.list []) := by
      rw [eqv_nil]
      unfold standsF
      rw [decide_eq_true hle, Bool.true_and]
      cases (List.range items.length).filter (misses items name p) <;> rfl
    rw [e]
    refine Ev.eqD C₂ (Dat.l (n := 0) (by decide) (Dats.map (f := fun (k : Nat) => vI (k : Int)) (g := fun (k : Nat) => PyData.int (k : Int)) _ fun k _ => ⟨Dat.i, by simp [PyData.depth]⟩)) (Dat.l (n := 0) (by decide) .nil) ?_ (Ev.list C₂ Es.nil (by decide))
    refine Ev.compF (Psrc := vR 0 items.length) (List.range items.length) (fun (k : Nat) => vI (k : Int)) (misses items name p) (fun (k : Nat) => vI (k : Int)) C₂ (Ev.range1 B C₂ ((Ev.lenL B C₂ (vI' k₂) li').imp fun h v q => by simpa using q) (by lia)) (fun v s k c q => Iter.ran c q) (fun t ht C' N s₃ v k₃ C₃ f₃ X₃ p₃ => ?_) (by rw [List.length_range]; exact Nat.le_trans (Nat.le_of_lt li) (by decide)) rfl rfl (by decide) (by decide)
    have ht' := List.mem_range.mp ht
    have gi : (items.map vRd)[(t : Int).toNat]? = some (vRd (items.getD t ([], false))) := by
      rw [Int.toNat_natCast, List.getElem?_map, List.getD_eq_getElem?_getD, List.getElem?_eq_getElem ht']; rfl
    have V1 : ∀ {pos : Pos}, _ := fun {pos : Pos} => Ev.name (prog := prog) (w := w) (pos := pos) (A := A.deeper (envOfC "_law_stands" (fScope (nth 38)) L 171 cd)) X₃ p₃
    refine Turn.one (Eb.eqB (Mut := N ++ (Env.mut (envOfC "_law_stands" (fScope (nth 38)) L 171 cd) ++ Mut)) (b := Txt.contains (T (items.getD t ([], false)).1) (T [name.getD (p + t) 0])) (c := (items.getD t ([], false)).2) ?_ ?_) fun _ => V1
    · refine Ev.cmp (P1 := vS (T [name.getD (p + t) 0])) (P2 := vS (T (items.getD t ([], false)).1)) ?_ ?_ (fun v1 v2 s k p1 p2 => op_inS p1 p2)
      · refine Ev.itemS (x := T name) (k := (p : Int) + (t : Int)) (by lia) (by lia) ?_ (Ev.name ((F.varC (x := "name") rfl (L + 2) rfl).keeps (k₂.trans k₃).le |>.comp rfl rfl fun c h => h) ((vS _).mono f₃ ((vS _).mono (k₂.vis _) ((vS _).mono fl hn)))) (Ev.addI (Ev.name ((F.varC (x := "place") rfl (L + 3) rfl).keeps (k₂.trans k₃).le |>.comp rfl rfl fun c h => h) ((vI _).mono f₃ ((vI _).mono (k₂.vis _) ((vI _).mono fl hp)))) V1)
        have : ((p : Int) + (t : Int)).toNat = p + t := by lia
        rw [this, List.getD_eq_getElem?_getD, List.getElem?_eq_getElem (by lia)]
        simp
      · exact Ev.itemL (Ps := [vS (T (items.getD t ([], false)).1), vB (items.getD t ([], false)).2]) (k := 0) (by decide) (by decide) rfl (Ev.itemL (by lia) (by lia) gi (Ev.name ((F.varC (x := "items") rfl (L + 1) rfl).keeps (k₂.trans k₃).le |>.comp rfl rfl fun c h => h) ((vRs _).mono f₃ ((vRs _).mono (k₂.vis _) ((vRs _).mono fl hi)))) V1) Ev.cInt
    · exact Ev.itemL (Ps := [vS (T (items.getD t ([], false)).1), vB (items.getD t ([], false)).2]) (k := 1) (by decide) (by decide) rfl (Ev.itemL (by lia) (by lia) gi (Ev.name ((F.varC (x := "items") rfl (L + 1) rfl).keeps (k₂.trans k₃).le |>.comp rfl rfl fun c h => h) ((vRs _).mono f₃ ((vRs _).mono (k₂.vis _) ((vRs _).mono fl hi)))) V1) Ev.cInt
end
end Mine
set_option maxRecDepth 10000
namespace Mine
open PySem PySem.W PyProof.Rows PySem.Calls PySem.Spec
noncomputable def takes (l name : List Nat) (k : Nat) : Bool := decide (k < name.length) && (l == [] || l == [name.getD k 0])
noncomputable def tryStep (name : List Nat) (ps : List Nat) : Item → List Nat
  | none => (List.range (name.length + 1)).filter fun k => ps.any fun p => decide (p ≤ k)
  | some l => (ps.filter (takes l name)).map (· + 1)
noncomputable def triedP (items : List Item) (name : List Nat) : List Nat := items.foldl (tryStep name) [0]
noncomputable def triedF (items : List Item) (name : List Nat) : Bool := (triedP items name).any (· == name.length)
theorem tryStep_bound {name ps : List Nat} {it : Item} (h : ∀ p ∈ ps, p ≤ name.length) (hn : ps.length ≤ name.length + 1) : (∀ p ∈ tryStep name ps it, p ≤ name.length) ∧ (tryStep name ps it).length ≤ name.length + 1 := by
  cases it with
  | none =>
    refine ⟨fun p hp => ?_, ?_⟩
    · have := List.mem_range.mp (List.mem_filter.mp hp).1; lia
    · refine Nat.le_trans (List.length_filter_le _ _) ?_
      rw [List.length_range]
      exact Nat.le_refl _
  | some l =>
    refine ⟨fun p hp => ?_, ?_⟩
    · obtain ⟨q, hq, rfl⟩ := List.mem_map.mp hp
      have := (List.mem_filter.mp hq).2
      unfold takes at this
      simp only [Bool.and_eq_true, decide_eq_true_eq] at this
      lia
    · show ((ps.filter _).map _).length ≤ _
      rw [List.length_map]
      exact Nat.le_trans (List.length_filter_le _ _) hn
theorem triedP_bound (items : List Item) (name : List Nat) : (∀ p ∈ triedP items name, p ≤ name.length) ∧ (triedP items name).length ≤ name.length + 1 := by
  have key : ∀ (items : List Item) (ps : List Nat), (∀ p ∈ ps, p ≤ name.length) → ps.length ≤ name.length + 1 → (∀ p ∈ items.foldl (tryStep name) ps, p ≤ name.length) ∧ (items.foldl (tryStep name) ps).length ≤ name.length + 1 := by
    intro items
    induction items with
    | nil => intro ps h hn; exact ⟨h, hn⟩
    | cons a r ih => intro ps h hn; have := tryStep_bound (it := a) h hn; exact ih _ this.1 this.2
  exact key items [0] (by simp) (by simp)
theorem beqT (a b : List Nat) : (T a == T b) = (a == b) := by
  rw [Bool.eq_iff_iff, beq_iff_eq, beq_iff_eq]
  constructor
  · intro h; have := congrArg (fun x : Str => x.cps.toList) h; simpa using this
  · intro h; rw [h]
noncomputable def vMin (ns : List Int) : VP := ⟨fun h v => ∃ M t, v = .int M t ∧ M ∈ ns ∧ ∀ a ∈ ns, M ≤ a, fun _ x => x⟩
section
variable {ro : Nat} {prog : Program} {w : World} {A : Around} {Mut : List Addr} {s₁ s : Shared} {env : Env} {H : Heap} {mg mb : Str → Option Value}
theorem tried_ok (B : Base H mg mb) (C : Cx ν (ro + 1) A Mut H s) {items : List Item} {name : List Nat} {vi vn : Value} (hi : (vL (items.map vItem)).on (vis ν Mut s.heap) vi) (hn : (vS (T name)).on (vis ν Mut s.heap) vn)
    (ln : name.length < 1000) :
    Op ν prog w A Mut s (call (.ref 159) [vi, vn]) (vB (triedF items name)) := by
  refine fn_call C (B.df 13) (binds := [("items", vi), ("name", vn)]) (fun _ _ _ => rfl) (fun _ x hx => ?_) (fun L cd s' F C' fl => ?_) (by decide)
  · simp only [List.mem_cons, List.not_mem_nil, or_false] at hx
    rcases hx with rfl | rfl
    · exact .inl rfl
    · exact .inr ⟨rfl, rfl⟩
  have hM : ∀ a ∈ Env.mut (envOfC "_law_tried" (fScope (nth 36)) L 159 cd) ++ [], a ∈ Env.mut (envOfC "_law_tried" (fScope (nth 36)) L 159 cd) ++ Mut := fun a ha => List.mem_append_left _ (by simpa using ha)
  have hM' : ∀ a ∈ Env.mut (envOfC "_law_tried" (fScope (nth 36)) L 159 cd), a ∈ Env.mut (envOfC "_law_tried" (fScope (nth 36)) L 159 cd) ++ Mut := fun a ha => List.mem_append_left _ ha
  have hn' := (vS (T name)).mono fl hn
  refine Xs.cons (Xs.assignC F C' hM' (P := vL [vI (0 : Nat)]) (Ev.list C' (Es.cons Ev.cInt Es.nil) (by show 1 ≤ sizeLine; decide)) (L + 2) rfl fun v₁ s₁ F₁ C₁ st₁ p₁ => ?_)
  refine Xs.cons (Xs.for [] (fun i g h m cm => cm "name" = some vn ∧ (vS (T name)).on g vn ∧ ∃ u, cm "places" = some u ∧ (vL ((triedP (items.take i) name).map fun (k : Nat) => vI (k : Int))).on g u) ?_ F₁ C₁ hM (Ev.name (F₁.var (x := "items") rfl) ((vL _).mono (fl.trans st₁.fl) hi)) (fun v s k q => Iter.lst (C₁.at k) q) ?_ ?_ ?_)
  · rintro i g g' h h' m cm fg _ ⟨h1, h2, u, h3, h4⟩
    exact ⟨h1, (vS _).mono fg h2, u, h3, (vL _).mono fg h4⟩
  · intro N s₂ k₂ f₂
    refine ⟨rfl, (vS _).mono f₂ ((vS _).mono st₁.fl hn'), v₁, rfl, ?_⟩
    exact (vL _).mono f₂ p₁
  · rintro N i p s₂ v m cm hp F₂ C₂ f₂ ⟨h1, h2, u, h3, h4⟩ pv E
    obtain ⟨it, hit, rfl⟩ : ∃ it, items[i]? = some it ∧ vItem it = p := by
      rw [List.getElem?_map] at hp
      cases h : items[i]? with
      | none => rw [h] at hp; cases hp
      | some it => rw [h] at hp; exact ⟨it, rfl, Option.some.inj hp⟩
    have hM₂ : ∀ a ∈ Env.mut (envOfC "_law_tried" (fScope (nth 36)) L 159 cd), a ∈ N ++ (Env.mut (envOfC "_law_tried" (fScope (nth 36)) L 159 cd) ++ Mut) := fun a ha => List.mem_append_right _ (hM' a ha)
    refine wpAny_assign_Name (F₂.storeC C₂ hM₂ (L + 3) rfl fun s₃ F₃ C₃ st₃ => ?_)
    have tk : triedP (items.take (i + 1)) name = tryStep name (triedP (items.take i) name) it := by
      have : items.take (i + 1) = items.take i ++ [it] := by rw [List.take_add_one, hit]; rfl
      unfold triedP
      rw [this, List.foldl_append]
      rfl
    have bd := triedP_bound (items.take i) name
    have goal : ∀ (v' : Value) (s₄ : Shared), Fm ν (envOfC "_law_tried" (fScope (nth 36)) L 159 cd) s s₄ m (upd (upd cm "item" v) "places" v') → Cx ν ro (A.deeper (envOfC "_law_tried" (fScope (nth 36)) L 159 cd)) (N ++ (Env.mut (envOfC "_law_tried" (fScope (nth 36)) L 159 cd) ++ Mut)) H s₄ →
        Step ν (Env.mut (envOfC "_law_tried" (fScope (nth 36)) L 159 cd)) (N ++ (Env.mut (envOfC "_law_tried" (fScope (nth 36)) L 159 cd) ++ Mut)) s₃ s₄ → (vL ((tryStep name (triedP (items.take i) name) it).map fun (k : Nat) => vI (k : Int))).on (vis ν (N ++ (Env.mut (envOfC "_law_tried" (fScope (nth 36)) L 159 cd) ++ Mut)) s₄.heap) v' →
        ∃ m₃ cm₃, Fm ν (envOfC "_law_tried" (fScope (nth 36)) L 159 cd) s s₄ m₃ cm₃ ∧ Cx ν ro (A.deeper (envOfC "_law_tried" (fScope (nth 36)) L 159 cd)) (N ++ (Env.mut (envOfC "_law_tried" (fScope (nth 36)) L 159 cd) ++ Mut)) H s₄ ∧ Step ν (Env.mut (envOfC "_law_tried" (fScope (nth 36)) L 159 cd) ++ []) (N ++ (Env.mut (envOfC "_law_tried" (fScope (nth 36)) L 159 cd) ++ Mut)) s₂ s₄ ∧
          cm₃ "name" = some vn ∧ (vS (T name)).on (vis ν (N ++ (Env.mut (envOfC "_law_tried" (fScope (nth 36)) L 159 cd) ++ Mut)) s₄.heap) vn ∧ ∃ u, cm₃ "places" = some u ∧ (vL ((triedP (items.take (i + 1)) name).map fun (k : Nat) => vI (k : Int))).on (vis ν (N ++ (Env.mut (envOfC "_law_tried" (fScope (nth 36)) L 159 cd) ++ Mut)) s₄.heap) u := by
      intro v' s₄ F₄ C₄ st₄ q
      refine ⟨_, _, F₄, C₄, (st₃.trans st₄).wide (fun a ha => by simpa using ha), ?_, ?_, v', ?_, ?_⟩
      · exact Eq.trans upd_ne (Eq.trans upd_ne h1)
      · exact (vS _).mono (st₃.fl.trans st₄.fl) h2
      · exact upd_eq
      · rw [tk]; exact q
    have n₃ := (vS (T name)).mono st₃.fl h2
    have u₃ := (vL ((triedP (items.take i) name).map fun (k : Nat) => vI (k : Int))).mono st₃.fl h4
    have Xn : Var (envOfC "_law_tried" (fScope (nth 36)) L 159 cd) s₃.heap "name" vn := F₃.varC (x := "name") (Eq.trans upd_ne h1) (L + 1) rfl
    have Xp : Var (envOfC "_law_tried" (fScope (nth 36)) L 159 cd) s₃.heap "places" u := F₃.varC (x := "places") (Eq.trans upd_ne h3) (L + 2) rfl
    have Xi : Var (envOfC "_law_tried" (fScope (nth 36)) L 159 cd) s₃.heap "item" v := F₃.varC (x := "item") upd_eq (L + 3) rfl
    refine Xs.cons (Xs.if (b := it.isNone) ?_ (fun hb s₄ k₄ => ?_) (fun hb s₄ k₄ => ?_))
    · refine (Ev.isNone (v := v) (Ev.name (Mut := Mut) Xi rfl)).eq ?_
      cases it with
      | none => obtain rfl : v = .none := pv; rfl
      | some l => obtain ⟨t, rfl⟩ : ∃ t, v = .str (T l) t := pv; rfl
    · -- a star
      obtain rfl : it = none := by cases it with | none => rfl | some _ => cases hb
      have C₄ := C₃.at k₄
      refine Xs.cons (Xs.assignC (F₃.at k₄) C₄ hM₂ (P := vL ((tryStep name (triedP (items.take i) name) none).map fun (k : Nat) => vI (k : Int))) ?_ (L + 2) rfl fun v' s₅ F₅ C₅ st₅ q => ?_)
      · refine Ev.compF (Psrc := vR 0 (name.length + 1)) (List.range (name.length + 1)) (fun (k : Nat) => vI (k : Int)) (fun k => (triedP (items.take i) name).any fun p => decide (p ≤ k)) (fun (k : Nat) => vI (k : Int)) C₄
          ((Ev.range1 B C₄ ((Ev.addI (Ev.lenS B C₄ ((Ev.name Xn n₃).at k₄) (by lia)) Ev.cInt).imp fun h v q => by simpa using q) (by lia))) (fun v s k c q => Iter.ran c q) (fun t ht C'' N' s₅ v k₅ C₅ f₅ X₅ p₅ => ?_) (by rw [List.length_range]; exact Nat.le_trans (show name.length + 1 ≤ 1000 by lia) (by decide)) rfl rfl (by decide) (by decide)
        refine Turn.one ?_ fun _ => Ev.name X₅ p₅
        have Xn₅ := Xn.keeps (k₄.trans k₅).le
        have Xp₅ := Xp.keeps (k₄.trans k₅).le
        have n₅ := (vS (T name)).mono f₅ ((vS (T name)).mono (k₄.vis _) n₃)
        have u₅ := (vL ((triedP (items.take i) name).map fun (k : Nat) => vI (k : Int))).mono f₅ ((vL ((triedP (items.take i) name).map fun (k : Nat) => vI (k : Int))).mono (k₄.vis _) u₃)
        have em : ((triedP (items.take i) name).map fun (k : Nat) => vI (k : Int)) ++ [vI ((name.length : Int) + 1)] = (((triedP (items.take i) name).map fun (k : Nat) => (k : Int)) ++ [(name.length : Int) + 1]).map vI := by simp
        refine Eb.cmp (P1 := vI (t : Int)) (P2 := vMin (((triedP (items.take i) name).map fun (k : Nat) => (k : Int)) ++ [(name.length : Int) + 1])) (Ev.name X₅ p₅) ?_ ?_
        · refine Ev.callN (Ps := [vL (((triedP (items.take i) name).map fun (k : Nat) => vI (k : Int)) ++ [vI ((name.length : Int) + 1)])]) (B.bn C₅ 5) Kept.builtin (Es.cons (Ev.addL C₅ ?_ (Ev.name (Xp₅.comp rfl rfl fun c h => h) u₅) (Ev.list C₅ (Es.cons (Ev.addI (Ev.lenS B C₅ (Ev.name (Xn₅.comp rfl rfl fun c h => h) n₅) (by lia)) Ev.cInt) Es.nil) (by show 1 ≤ sizeLine; decide))) Es.nil) fun vs s₆ k₆ q => ?_
          · rw [List.length_map]
            exact Nat.le_trans (show _ + 1 ≤ 1100 by lia) (by decide)
          · obtain ⟨v', _, rfl, p', rfl⟩ := q
            rw [em] at p'
            exact op_min C₅.hh (by simp) p'
        · intro v1 v2 s₆ k₆ q1 q2
          obtain ⟨t1, rfl⟩ := q1
          obtain ⟨M, t2, rfl, hm, hle⟩ := q2
          refine .mk fun E => ge_int ⟨Kp.refl _, ?_⟩
          have ht' := List.mem_range.mp ht
          congr 1
          rw [Bool.eq_iff_iff, decide_eq_true_eq, List.any_eq_true]
          constructor
          · intro h
            rcases List.mem_append.mp hm with hm | hm
            · obtain ⟨a, ha, rfl⟩ := List.mem_map.mp hm
              exact ⟨a, ha, by rw [decide_eq_true_eq]; lia⟩
            · rw [List.mem_singleton.mp hm] at h
              lia
          · rintro ⟨a, ha, h⟩
            rw [decide_eq_true_eq] at h
            have := hle (a : Int) (List.mem_append_left _ (List.mem_map.mpr ⟨a, ha, rfl⟩))
            lia
      · exact Xs.nil (Xs.nil (goal v' s₅ F₅ C₅ ((Step.of k₄).trans st₅) q))
    · -- a sign, or any
      obtain ⟨l, rfl⟩ : ∃ l, it = some l := by cases it with | none => cases hb | some l => exact ⟨l, rfl⟩
      have C₄ := C₃.at k₄
      refine Xs.cons (Xs.assignC (F₃.at k₄) C₄ hM₂ (P := vL ((tryStep name (triedP (items.take i) name) (some l)).map fun (k : Nat) => vI (k : Int))) ?_ (L + 2) rfl fun v' s₅ F₅ C₅ st₅ q => ?_)
      · show Ev _ _ _ _ _ _ _ (vL (((List.filter (takes l name) (triedP (items.take i) name)).map (· + 1)).map fun (k : Nat) => vI (k : Int)))
        rw [List.map_map]
        refine Ev.compF (triedP (items.take i) name) (fun (k : Nat) => vI (k : Int)) (takes l name) _ C₄ ((Ev.name Xp u₃).at k₄) (fun v s k c q => Iter.lst c q) (fun t ht C'' N' s₅ v₅ k₅ C₅ f₅ X₅ p₅ => ?_) (Nat.le_trans bd.2 (Nat.le_trans (show name.length + 1 ≤ 1000 by lia) (by decide))) rfl rfl (by decide) (by decide)
        have Xn₅ := Xn.keeps (k₄.trans k₅).le
        have Xi₅ := Xi.keeps (k₄.trans k₅).le
        have n₅ := (vS (T name)).mono f₅ ((vS (T name)).mono (k₄.vis _) n₃)
        refine Turn.one (Eb.and2 ?_ fun hlt => ?_) fun _ => Ev.addI (Ev.name X₅ p₅) Ev.cInt
        · refine (Eb.ltI (Ev.name X₅ p₅) (Ev.lenS B C₅ (Ev.name (Xn₅.comp rfl rfl fun c h => h) n₅) (by lia))).eq ?_
          exact decide_eq_decide.mpr (by lia)
        · rw [decide_eq_true_eq] at hlt
          have e1 : (l == [] || l == [name.getD t 0]) = ([T [], T [name.getD t 0]].any (· == T l)) := by
            simp only [List.any_cons, List.any_nil, Bool.or_false, beqT]
            rw [Bool.beq_comm (a := ([] : List Nat)), Bool.beq_comm (a := [name.getD t 0])]
          rw [e1]
          refine Eb.cmp (P1 := vS (T l)) (P2 := vL ([T [], T [name.getD t 0]].map vS)) (Ev.name (Xi₅.comp rfl rfl fun c h => h) ((vS (T l)).mono f₅ ((vS (T l)).mono (k₄.vis _) ((vS (T l)).mono st₃.fl pv)))) (Ev.list C₅ (Es.cons Ev.cStr (Es.cons ?_ Es.nil)) (by show 2 ≤ sizeLine; decide)) (fun v1 v2 s₆ k₆ q1 q2 => op_inL q1 q2)
          refine Ev.itemS (x := T name) (k := (t : Int)) (by lia) (by lia) ?_ (Ev.name (Xn₅.comp rfl rfl fun c h => h) n₅) (Ev.name X₅ p₅)
          rw [Int.toNat_natCast, List.getD_eq_getElem?_getD, List.getElem?_eq_getElem hlt]
          simp
      · exact Xs.nil (Xs.nil (goal v' s₅ F₅ C₅ ((Step.of k₄).trans st₅) q))
  · intro s₂ m cm F₂ C₂ f₂ ⟨h1, h2, u, h3, h4⟩
    have n₃ := h2
    rw [List.length_map, List.take_length] at h4
    refine Xs.cons (Xs.ret (P := vB (triedF items name)) ?_ fun v s'' k pv => ⟨v, rfl, F₂.k.trans k, pv⟩)
    have e : triedF items name = ((triedP items name).map fun (k : Nat) => (k : Int)).any (· == (name.length : Int)) := by
      unfold triedF
      rw [List.any_map]
      congr 1
      funext k
      simp only [Function.comp]
      rw [Bool.eq_iff_iff, beq_iff_eq, beq_iff_eq]
      lia
    rw [e]
    refine Ev.cmp (P1 := vI name.length) (P2 := vL (((triedP items name).map fun (k : Nat) => (k : Int)).map vI)) (Ev.lenS B C₂ (Ev.name (F₂.varC (x := "name") h1 (L + 1) rfl) h2) (by lia)) (Ev.name (F₂.varC (x := "places") h3 (L + 2) rfl) ?_) fun v1 v2 s k q1 q2 => op_inI q1 q2
    rw [List.map_map]
    exact h4
end
end Mine
set_option maxRecDepth 10000
namespace Mine
open PySem PySem.W PyProof.Rows PySem.Calls PySem.Spec
noncomputable abbrev PartR := List Nat × List RItem
noncomputable def vPart (p : PartR) : VP := vL [vS (T p.1), vRs p.2]
noncomputable def starA : List Nat := [40, 63, 62, 46, 42, 63]
noncomputable def starB : List Nat := [46, 42]
noncomputable def found1 (name : List Nat) (place : Nat) (p : PartR) : List Nat :=
  if p.1 = starA then (((List.range (name.length + 1 - place)).map (place + ·)).filter (standsF p.2 name)).take 1 else [place]
noncomputable def found2 (name : List Nat) (place : Nat) (p : PartR) : List Nat :=
  if p.1 = starB then (if place + p.2.length ≤ name.length then [name.length - p.2.length] else []) else found1 name place p
noncomputable def fitsGo (name : List Nat) : Nat → List PartR → Bool
  | place, [] => place == name.length
  | place, p :: r => match found2 name place p with
    | [] => false
    | f :: _ => standsF p.2 name f && fitsGo name (f + p.2.length) r
noncomputable def fitsF (parts : List PartR) (name : List Nat) : Bool := fitsGo name 0 parts
theorem stands_le {is : List RItem} {name : List Nat} {p : Nat} (h : standsF is name p = true) : p + is.length ≤ name.length := by
  unfold standsF at h
  rw [Bool.and_eq_true, decide_eq_true_eq] at h
  exact h.1
theorem found1_le {name : List Nat} {place : Nat} {p : PartR} (h : place ≤ name.length) : ∀ f ∈ found1 name place p, f ≤ name.length := by
  unfold found1
  intro f hf
  split at hf
  · have h1 := List.mem_of_mem_take hf
    obtain ⟨q, hq, rfl⟩ := List.mem_map.mp (List.mem_filter.mp h1).1
    have := List.mem_range.mp hq
    lia
  · rw [List.mem_singleton.mp hf]; exact h
theorem found2_le {name : List Nat} {place : Nat} {p : PartR} (h : place ≤ name.length) : ∀ f ∈ found2 name place p, f ≤ name.length := by
  unfold found2
  intro f hf
  split at hf
  · split at hf
    · rw [List.mem_singleton.mp hf]; lia
    · cases hf
  · exact found1_le h f hf
theorem eqT (a b : List Nat) : ((T a == T b) = true) ↔ a = b := by rw [beqT, beq_iff_eq]
section
variable {ro : Nat} {prog : Program} {w : World} {A : Around} {Mut : List Addr} {s₁ s : Shared} {env : Env} {H : Heap} {mg mb : Str → Option Value}
noncomputable abbrev eFits (L : Addr) (cd : Value) : Env := envOfC "_law_fits" (fScope (nth 39)) L 176 cd
set_option maxHeartbeats 1000000 in
theorem fits_ok (B : Base H mg mb) (C : Cx ν (ro + 2) A Mut H s) {parts : List PartR} {name : List Nat} {vp vn : Value} (hp : (vL (parts.map vPart)).on (vis ν Mut s.heap) vp) (hn : (vS (T name)).on (vis ν Mut s.heap) vn)
    (ln : name.length < 999) (lp : ∀ p ∈ parts, p.2.length < 1000) :
    Op ν prog w A Mut s (call (.ref 176) [vp, vn]) (vB (fitsF parts name)) := by
  refine fn_call C (B.df 16) (binds := [("parts", vp), ("name", vn)]) (fun _ _ _ => rfl) (fun _ x hx => ?_) (fun L cd s' F C' fl => ?_) (by decide)
  · simp only [List.mem_cons, List.not_mem_nil, or_false] at hx
    rcases hx with rfl | rfl
    · exact .inl rfl
    · exact .inr ⟨rfl, rfl⟩
  have hM' : ∀ a ∈ Env.mut (eFits L cd), a ∈ Env.mut (eFits L cd) ++ Mut := fun a ha => List.mem_append_left _ ha
  have hn' := (vS (T name)).mono fl hn
  refine Xs.cons (Xs.assign F C' (hM' _ (.head _)) (P := vI (0 : Nat)) Ev.cInt fun v₁ s₁ F₁ C₁ st₁ p₁ => ?_)
  refine Xs.cons (Xs.for [] (fun i g h m cm => cm "name" = some vn ∧ (vS (T name)).on g vn ∧ ∃ u pl, m "place" = some u ∧ (vI (pl : Nat)).on g u ∧ pl ≤ name.length ∧ fitsF parts name = fitsGo name pl (parts.drop i)) ?_ F₁ C₁ (fun a ha => hM' a (by simpa using ha)) (Ev.name (F₁.var (x := "parts") rfl) ((vL _).mono (fl.trans st₁.fl) hp)) (fun v s k q => Iter.lst (C₁.at k) q) ?_ ?_ ?_)
  · rintro i g g' h h' m cm fg _ ⟨h1, h2, u, pl, h3, h4⟩
    exact ⟨h1, (vS _).mono fg h2, u, pl, h3, (vI _).mono fg h4.1, h4.2⟩
  · intro N s₂ k₂ f₂
    exact ⟨rfl, (vS _).mono f₂ ((vS _).mono st₁.fl hn'), v₁, 0, rfl, (vI _).mono f₂ p₁, Nat.zero_le _, rfl⟩
  · rintro N i p s₂ v m cm hpi F₂ C₂ f₂ ⟨h1, h2, u, pl, h3, h4, hle, hfit⟩ pv E
    obtain ⟨⟨st, is⟩, hit, rfl⟩ : ∃ it, parts[i]? = some it ∧ vPart it = p := by
      rw [List.getElem?_map] at hpi
      cases h : parts[i]? with
      | none => rw [h] at hpi; cases hpi
      | some it => rw [h] at hpi; exact ⟨it, rfl, Option.some.inj hpi⟩
    have lis : is.length < 1000 := lp (st, is) (List.mem_of_getElem? hit)
    have lis' : (is.map vRd).length < 2 ^ 63 := by rw [List.length_map]; lia
    have hdrop : parts.drop i = (st, is) :: parts.drop (i + 1) := by
      have hlt := (List.getElem?_eq_some_iff.mp hit).1
      rw [List.drop_eq_getElem_cons hlt]
      have := List.getElem?_eq_getElem hlt
      rw [hit] at this
      rw [Option.some.inj this]
    rw [hdrop] at hfit
    have hM₂ : ∀ a ∈ Env.mut (eFits L cd), a ∈ N ++ (Env.mut (eFits L cd) ++ Mut) := fun a ha => List.mem_append_right _ (hM' a ha)
    refine tgt2 F₂ C₂ hM₂ pv (L + 2) rfl fun v1 v2 s₃ F₃ C₃ st₃ q1 q2 => ?_
    have n₃ := (vS (T name)).mono st₃.fl h2
    have u₃ := (vI (pl : Nat)).mono st₃.fl h4
    let J : List Nat → Shared → Prop := fun fd s₄ => ∃ vf, Fm ν (eFits L cd) s s₄ (upd (upd m "star" v1) "found" vf) (upd cm "items" v2) ∧ Cx ν (ro + 1) (A.deeper (eFits L cd)) (N ++ (Env.mut (eFits L cd) ++ Mut)) H s₄ ∧ Step ν (Env.mut (eFits L cd)) (N ++ (Env.mut (eFits L cd) ++ Mut)) s₃ s₄ ∧ (vL (fd.map fun (k : Nat) => vI (k : Int))).on (vis ν (N ++ (Env.mut (eFits L cd) ++ Mut)) s₄.heap) vf
    refine Xs.cons (Xs.assign F₃ C₃ (hM₂ _ (.head _)) (P := vL ([pl].map fun (k : Nat) => vI (k : Int))) (Ev.list C₃ (Es.cons (Ev.name (F₃.var (x := "place") (Eq.trans upd_ne h3)) u₃) Es.nil) (by show 1 ≤ sizeLine; decide)) fun vf s₄ F₄ C₄ st₄ p₄ => ?_)
    have upd2 : ∀ {vf vf' : Value}, upd (upd (upd m "star" v1) "found" vf) "found" vf' = upd (upd m "star" v1) "found" vf' := by
      intro vf vf'; funext y; by_cases h : y = Str.ofString "found" <;> simp [upd, h]
    have nm : ∀ {s₅ : Shared} {vf : Value}, Fm ν (eFits L cd) s s₅ (upd (upd m "star" v1) "found" vf) (upd cm "items" v2) → Step ν (Env.mut (eFits L cd)) (N ++ (Env.mut (eFits L cd) ++ Mut)) s₃ s₅ →
        Var (eFits L cd) s₅.heap "name" vn ∧ Var (eFits L cd) s₅.heap "items" v2 ∧ Var (eFits L cd) s₅.heap "place" u ∧ Var (eFits L cd) s₅.heap "star" v1 ∧ (vS (T name)).on (vis ν (N ++ (Env.mut (eFits L cd) ++ Mut)) s₅.heap) vn ∧ (vRs is).on (vis ν (N ++ (Env.mut (eFits L cd) ++ Mut)) s₅.heap) v2 ∧ (vI (pl : Nat)).on (vis ν (N ++ (Env.mut (eFits L cd) ++ Mut)) s₅.heap) u ∧ (vS (T st)).on (vis ν (N ++ (Env.mut (eFits L cd) ++ Mut)) s₅.heap) v1 :=
      fun F₅ st₅ => ⟨F₅.varC (x := "name") (Eq.trans upd_ne h1) (L + 1) rfl, F₅.varC (x := "items") upd_eq (L + 2) rfl, F₅.var (x := "place") (Eq.trans upd_ne (Eq.trans upd_ne h3)), F₅.var (x := "star") (Eq.trans upd_ne upd_eq), (vS (T name)).mono st₅.fl n₃, (vRs is).mono st₅.fl q2, (vI (pl : Nat)).mono st₅.fl u₃, (vS (T st)).mono st₅.fl q1⟩
    obtain ⟨Xn, Xi, Xp, Xs', n₄, i₄, u₄, t₄⟩ := nm F₄ st₄
    refine Xs.cons (Xs.ifM (J (found1 name pl (st, is))) (b := T st == T starA) (Eb.eqS (Ev.name Xs' t₄) Ev.cStr) (fun hb s₅ k₅ => ?_) (fun hb s₅ k₅ => ?_) fun s₅ j₅ => ?_)
    · -- the star that is gone over
      have hst : st = starA := (eqT st starA).mp hb
      have C₅ := C₄.at k₅
      refine Xs.cons (Xs.assign (F₄.at k₅) C₅ (hM₂ _ (.head _)) (P := vL ((found1 name pl (st, is)).map fun (k : Nat) => vI (k : Int))) ?_ fun vf' s₆ F₆ C₆ st₆ p₆ => Xs.nil ⟨rfl, vf', upd2 ▸ F₆, C₆, st₄.trans ((Step.of k₅).trans st₆), p₆⟩)
      have e0 : found1 name pl (st, is) = (((List.range (name.length + 1 - pl)).map (pl + ·)).filter (standsF is name)).take ((1 : Nat)) := by unfold found1; rw [if_pos hst]
      rw [e0, List.map_take, ← lpick_to]
      refine Ev.sliceL C₅ ?_ .no (.is Ev.cInt) .no (by decide) ?_
      · refine Ev.compF (Psrc := vR pl (name.length + 1 - pl)) ((List.range (name.length + 1 - pl)).map (pl + ·)) (fun (k : Nat) => vI (k : Int)) (standsF is name) (fun (k : Nat) => vI (k : Int)) C₅ ?_ (fun v s k c q => ?_) (fun t ht C'' N' s₆ v₆ k₆ C₆ f₆ X₆ p₆ => ?_) ?_ rfl rfl (by decide) (by decide)
        · refine Ev.callN (Ps := [vI (pl : Nat), vI ((name.length : Int) + 1)]) (B.bn C₅ 1) Kept.type (Es.cons ((Ev.name Xp u₄).at k₅) (Es.cons (Ev.addI (Ev.lenS B C₅ ((Ev.name Xn n₄).at k₅) (by lia)) Ev.cInt) Es.nil)) fun vs s₆ k₆ q => ?_
          obtain ⟨w1, _, rfl, r1, w2, _, rfl, r2, rfl⟩ := q
          exact op_range2 (C₅.at k₆) (by lia) (by lia) (by lia) r1 r2
        · have := Iter.range (prog := prog) (w := w) c.hh c.tab c.old q
          rw [List.map_map]
          refine (show (List.range (name.length + 1 - pl)).map (fun (i : Nat) => vI ((pl : Int) + (i : Int))) = _ from ?_) ▸ this
          apply List.map_congr_left
          intro a ha
          simp
        · obtain ⟨d, hd, rfl⟩ := List.mem_map.mp ht
          have := List.mem_range.mp hd
          have V1 : ∀ {pos : Pos}, _ := fun {pos : Pos} => Ev.name (prog := prog) (w := w) (pos := pos) (A := A.deeper (eFits L cd)) X₆ p₆
          have kk := k₅.trans k₆
          refine Turn.one (Eb.bool (Mut := N' ++ (N ++ (Env.mut (eFits L cd) ++ Mut))) (Ev.callN (Ps := [vRs is, vS (T name), vI ((pl + d : Nat) : Int)]) (B.fn C₆ 15) (B.kept C₆ 15) (Es.cons (Ev.name ((Xi.keeps kk.le).comp rfl rfl fun c h => h) ((vRs is).mono f₆ ((vRs is).mono (k₅.vis _) i₄))) (Es.cons (Ev.name ((Xn.keeps kk.le).comp rfl rfl fun c h => h) ((vS (T name)).mono f₆ ((vS (T name)).mono (k₅.vis _) n₄))) (Es.cons V1 Es.nil))) fun vs s₇ k₇ q => ?_)) fun _ => V1
          obtain ⟨w1, _, rfl, r1, w2, _, rfl, r2, w3, _, rfl, r3, rfl⟩ := q
          exact stands_ok B (C₆.at k₇) r1 r2 r3 lis (by lia) (by lia)
        · rw [List.length_map, List.length_range]
          exact Nat.le_trans (show _ ≤ 1000 by lia) (by decide)
      · rw [List.length_map]
        refine Nat.le_trans (List.length_filter_le _ _) ?_
        rw [List.length_map, List.length_range]
        exact Nat.le_trans (show _ ≤ 1000 by lia) (by decide)
    · refine Xs.nil ⟨rfl, vf, F₄.at k₅, C₄.at k₅, st₄.trans (Step.of k₅), ?_⟩
      have : ¬ st = starA := fun e => by rw [(eqT st starA).mpr e] at hb; cases hb
      unfold found1
      rw [if_neg this]
      exact (vL _).mono (k₅.vis _) p₄
    obtain ⟨vf₅, F₅, C₅, st₅, p₅⟩ := j₅
    obtain ⟨Xn, Xi, Xp, Xs', n₅, i₅, u₅, t₅⟩ := nm F₅ st₅
    refine Xs.cons (Xs.ifM (J (found2 name pl (st, is))) (b := T st == T starB) (Eb.eqS (Ev.name Xs' t₅) Ev.cStr) (fun hb s₆ k₆ => ?_) (fun hb s₆ k₆ => ?_) fun s₆ j₆ => ?_)
    · have hst : st = starB := (eqT st starB).mp hb
      have C₆ := C₅.at k₆
      refine Xs.cons (Xs.assign (F₅.at k₆) C₆ (hM₂ _ (.head _)) (P := vL ((found2 name pl (st, is)).map fun (k : Nat) => vI (k : Int))) ?_ fun vf' s₇ F₇ C₇ st₇ p₇ => Xs.nil ⟨rfl, vf', upd2 ▸ F₇, C₇, st₅.trans ((Step.of k₆).trans st₇), p₇⟩)
      have e0 : found2 name pl (st, is) = (if pl + is.length ≤ name.length then [name.length - is.length] else []) := by unfold found2; rw [if_pos hst]
      have sub : ∀ {p1 p2 p3 p4 p5 p6 p7 : Pos}, Ev ν prog w (A.deeper (eFits L cd)) (N ++ (Env.mut (eFits L cd) ++ Mut)) s₆ (eval (.BinOp (.Call (.Name "len" p1) [.Name "name" p2] [] p3) .Sub (.Call (.Name "len" p4) [.Name "items" p5] [] p6) p7) (eFits L cd)) (vI ((name.length : Int) - (is.length : Int))) :=
        fun {p1 p2 p3 p4 p5 p6 p7} => Ev.subI (Ev.lenS B C₆ ((Ev.name Xn n₅).at k₆) (by lia)) ((Ev.lenL B C₆ ((Ev.name Xi i₅).at k₆) lis').imp fun h v q => by simpa using q)
      rw [e0]
      refine Ev.ifExp (b := decide ((pl : Int) ≤ (name.length : Int) - (is.length : Int))) (Eb.geI sub ((Ev.name Xp u₅).at k₆)) (fun hb' => ?_) (fun hb' => ?_)
      · rw [decide_eq_true_eq] at hb'
        rw [if_pos (by lia)]
        refine Ev.list C₆ (Es.cons ?_ Es.nil) (by show 1 ≤ sizeLine; decide)
        have : ((name.length - is.length : Nat) : Int) = (name.length : Int) - (is.length : Int) := by lia
        show Ev _ _ _ _ _ _ _ (vI ((name.length - is.length : Nat) : Int))
        rw [this]
        exact sub
      · rw [decide_eq_false_iff_not] at hb'
        rw [if_neg (by lia)]
        exact Ev.list C₆ Es.nil (by decide)
    · refine Xs.nil ⟨rfl, vf₅, F₅.at k₆, C₅.at k₆, st₅.trans (Step.of k₆), ?_⟩
      have : ¬ st = starB := fun e => by rw [(eqT st starB).mpr e] at hb; cases hb
      unfold found2
      rw [if_neg this]
      exact (vL _).mono (k₆.vis _) p₅
    obtain ⟨vf₆, F₆, C₆, st₆, p₆⟩ := j₆
    obtain ⟨Xn, Xi, Xp, Xs', n₆, i₆, u₆, t₆⟩ := nm F₆ st₆
    have Xf : Var (eFits L cd) s₆.heap "found" vf₆ := F₆.var (x := "found") upd_eq
    have fle := found2_le (p := (st, is)) hle
    have hgo : fitsGo name pl ((st, is) :: parts.drop (i + 1)) = match found2 name pl (st, is) with
      | [] => false
      | f :: _ => standsF is name f && fitsGo name (f + is.length) (parts.drop (i + 1)) := rfl
    rw [hgo] at hfit
    have dat : Dat (vL ((found2 name pl (st, is)).map fun (k : Nat) => vI (k : Int))) (.list ((found2 name pl (st, is)).map fun (k : Nat) => PyData.int (k : Int))) :=
      Dat.l (n := 0) (by decide) (Dats.map (f := fun (k : Nat) => vI (k : Int)) (g := fun (k : Nat) => PyData.int (k : Int)) _ fun k _ => ⟨Dat.i, by simp [PyData.depth]⟩)
    have hemp : ∀ {p1 p2 p3 : Pos} {whole : Sem Value}, Eb ν prog w (A.deeper (eFits L cd)) s₆ (isTrue (.Compare (.Name "found" p1) [.Eq] [.List [] p2] p3) (eFits L cd) whole) (found2 name pl (st, is)).isEmpty := by
      intro p1 p2 p3 whole
      refine (Eb.eqD C₆ dat (Dat.l (n := 0) (by decide) .nil) (Ev.name Xf p₆) (Ev.list C₆ Es.nil (by decide))).eq ?_
      rw [eqv_nil]
      cases found2 name pl (st, is) <;> rfl
    cases hf : found2 name pl (st, is) with
    | nil =>
      rw [hf] at hfit hemp
      refine Xs.cons (Xs.if (b := true) (Eb.or2 (c := true) hemp fun h => by cases h) (fun _ s₇ k₇ => ?_) (fun h => by cases h))
      refine Xs.cons (Xs.ret (Mut := N ++ (Env.mut (eFits L cd) ++ Mut)) (P := vB false) Ev.cBool fun v₇ s₈ k₈ p₈ => ⟨v₇, rfl, F₆.k.trans (k₇.trans k₈), ?_⟩)
      rw [hfit]
      exact p₈
    | cons f fr =>
      rw [hf] at hfit hemp p₆
      have lf : f ≤ name.length := fle f (by rw [hf]; exact .head _)
      have f0 : ∀ {p1 p2 p3 : Pos} {s₇ : Shared}, Kp ν s₆ s₇ → Ev ν prog w (A.deeper (eFits L cd)) (N ++ (Env.mut (eFits L cd) ++ Mut)) s₇ (eval (.Subscript (.Name "found" p1) (.Constant (.int 0) 0 p2) p3) (eFits L cd)) (vI (f : Int)) :=
        fun {p1 p2 p3 s₇} k => Ev.itemL (Ps := (f :: fr).map fun (k : Nat) => vI (k : Int)) (k := 0) (by decide) (by decide) rfl ((Ev.name Xf p₆).at k) Ev.cInt
      have hstand : ∀ {p1 p2 p3 p4 p5 p6 p7 : Pos}, Eb ν prog w (A.deeper (eFits L cd)) s₆ (isTrue (.Call (.Name "_law_stands" p1) [.Name "items" p2, .Name "name" p3, .Subscript (.Name "found" p4) (.Constant (.int 0) 0 p5) p6] [] p7) (eFits L cd) (eval (.Call (.Name "_law_stands" p1) [.Name "items" p2, .Name "name" p3, .Subscript (.Name "found" p4) (.Constant (.int 0) 0 p5) p6] [] p7) (eFits L cd))) (standsF is name f) := by
        intro p1 p2 p3 p4 p5 p6 p7
        refine Eb.bool (Mut := N ++ (Env.mut (eFits L cd) ++ Mut)) (Ev.callN (Ps := [vRs is, vS (T name), vI (f : Int)]) (B.fn C₆ 15) (B.kept C₆ 15) (Es.cons (Ev.name Xi i₆) (Es.cons (Ev.name Xn n₆) (Es.cons (f0 (Kp.refl _)) Es.nil))) fun vs s₇ k₇ q => ?_)
        obtain ⟨w1, _, rfl, r1, w2, _, rfl, r2, w3, _, rfl, r3, rfl⟩ := q
        exact stands_ok B (C₆.at k₇) r1 r2 r3 lis (by lia) (by lia)
      refine Xs.cons (Xs.if (b := !standsF is name f) ((Eb.or2 (b := false) hemp fun _ => Eb.not hstand).eq (by simp)) (fun hb s₇ k₇ => ?_) (fun hb s₇ k₇ => ?_))
      · refine Xs.cons (Xs.ret (Mut := N ++ (Env.mut (eFits L cd) ++ Mut)) (P := vB false) Ev.cBool fun v₇ s₈ k₈ p₈ => ⟨v₇, rfl, F₆.k.trans (k₇.trans k₈), ?_⟩)
        have : standsF is name f = false := by simpa using hb
        rw [hfit]
        simp only [this, Bool.false_and]
        exact p₈
      · have hs : standsF is name f = true := by simpa using hb
        have sle := stands_le hs
        refine Xs.nil (Xs.cons (Xs.assign (F₆.at k₇) (C₆.at k₇) (hM₂ _ (.head _)) (P := vI ((f + is.length : Nat) : Int)) ?_ fun v₈ s₈ F₈ C₈ st₈ p₈ => Xs.nil ?_))
        · refine (Ev.addI (f0 k₇) ((Ev.lenL B (C₆.at k₇) ((Ev.name Xi i₆).at k₇) lis').imp fun h v q => by simpa using q)).imp fun h v q => ?_
          obtain ⟨t, rfl⟩ := q
          exact ⟨t, by simp⟩
        · have stt := st₆.trans ((Step.of k₇).trans st₈)
          refine ⟨_, _, F₈, C₈, (st₃.trans stt).wide (fun a ha => by simpa using ha), Eq.trans upd_ne h1, (vS (T name)).mono stt.fl n₃, v₈, f + is.length, upd_eq, p₈, sle, ?_⟩
          rw [hfit]
          simp only [hs, Bool.true_and]
  · intro s₂ m cm F₂ C₂ f₂ ⟨h1, h2, u, pl, h3, h4, hle, hfit⟩
    rw [List.length_map, List.drop_length] at hfit
    refine Xs.cons (Xs.ret (P := vB (fitsF parts name)) ?_ fun v s'' k pv => ⟨v, rfl, F₂.k.trans k, pv⟩)
    rw [hfit]
    have e : fitsGo name pl [] = ((pl : Int) == (name.length : Int)) := by
      show (pl == name.length) = _
      rw [Bool.eq_iff_iff, beq_iff_eq, beq_iff_eq]
      lia
    rw [e]
    exact Ev.eqI (Ev.name (F₂.var (x := "place") h3) h4) (Ev.lenS B C₂ (Ev.name (F₂.varC (x := "name") h1 (L + 1) rfl) h2) (by lia))
end
end Mine
set_option maxRecDepth 10000
namespace Mine
open PySem PySem.W PyProof.Rows PySem.Calls PySem.Spec
noncomputable def patOf (wr : Bool) : Item → List Nat
  | none => [42]
  | some [] => if wr then [61, 63, 63] else [63]
  | some (c :: _) => if wr then [61, hx (c / 16), hx (c % 16)] else if c == 42 || c == 63 || c == 91 then [91, c, 93] else [c]
noncomputable def itemOk (it : Item) : Prop := it = none ∨ it = some [] ∨ ∃ c, c < 256 ∧ it = some [c]
noncomputable def patTxt (wr : Bool) (items : List Item) : List Nat := (items.map (patOf wr)).flatten
theorem patOf_one (c : Nat) : patOf false (some [c]) = if c == 42 || c == 63 || c == 91 then [91, c, 93] else [c] := rfl
theorem patOf_len (wr : Bool) (it : Item) : (patOf wr it).length ≤ 3 := by
  unfold patOf
  split
  · decide
  · split <;> decide
  · split
    · simp
    · split <;> simp
theorem flat_len {α : Type} {k : Nat} (f : α → List Nat) (h : ∀ a, (f a).length ≤ k) : ∀ l : List α, (l.map f).flatten.length ≤ l.length * k
  | [] => by simp
  | a :: r => by
    have := flat_len f h r
    have := h a
    rw [List.map_cons, List.flatten_cons, List.length_append, List.length_cons, Nat.succ_mul]
    lia
section
variable {ro : Nat} {prog : Program} {w : World} {A : Around} {Mut : List Addr} {s₁ s : Shared} {env : Env} {H : Heap} {mg mb : Str → Option Value}
noncomputable abbrev ePat (L : Addr) (cd : Value) : Env := envOfC "_law_pattern" (fScope (nth 35)) L 154 cd
theorem pattern_ok (B : Base H mg mb) (C : Cx ν (ro + 2) A Mut H s) {items : List Item} {wr : Bool} {vi vw : Value} (hi : (vL (items.map vItem)).on (vis ν Mut s.heap) vi) (hw : (vB wr).on (vis ν Mut s.heap) vw)
    (li : items.length < 1000) (ok : ∀ it ∈ items, itemOk it) :
    Op ν prog w A Mut s (call (.ref 154) [vi, vw]) (vS (T (patTxt wr items))) := by
  refine fn_call C (B.df 12) (binds := [("items", vi), ("written", vw)]) (fun _ _ _ => rfl) (fun _ x hx => ?_) (fun L cd s' F C' fl => ?_) (by decide)
  · simp only [List.mem_cons, List.not_mem_nil, or_false] at hx
    rcases hx with rfl | rfl <;> exact .inl rfl
  have hM' : ∀ a ∈ Env.mut (ePat L cd), a ∈ Env.mut (ePat L cd) ++ Mut := fun a ha => List.mem_append_left _ ha
  refine Xs.cons (Xs.newL F C' hM' (Ps := []) Es.nil (by decide) fun a s₁ f0 aM a57 F₁ C₁ fl₁ st₁ O₁ => ?_)
  have aE : a ∉ Env.mut (ePat L cd) := fun h => aM (hM' _ h)
  refine Xs.cons (Xs.for [a] (fun i g h m cm => m "written" = some vw ∧ m "texts" = some (.ref a) ∧ Own a ((items.take i).map fun it => vS (T (patOf wr it))) g h) ?_ F₁ C₁ ?_ (Ev.name (F₁.var (x := "items") rfl) ((vL _).mono (fl.trans fl₁) hi)) (fun v s k q => Iter.lst (C₁.at k) q) ?_ ?_ ?_)
  · rintro i g g' h h' m cm fg ko ⟨h1, h2, O⟩
    exact ⟨h1, h2, O.keep fg fun o e => ko a (.head _) o e⟩
  · intro b hb
    rcases List.mem_append.mp hb with hb | hb
    · exact .tail _ (hM' b hb)
    · rw [List.mem_singleton.mp hb]; exact .head _
  · intro N s₂ k₂ f₂
    refine ⟨rfl, rfl, O₁.keep f₂ fun o e => ?_⟩
    obtain ⟨vs, ⟨n, e'⟩, _⟩ := O₁.ex
    rw [e'] at e
    cases e
    exact k₂.le.keep a _ a57 e'
  · rintro N i p s₂ v m cm hpi F₂ C₂ f₂ ⟨h1, h2, O₂⟩ pv E
    obtain ⟨it, hit, rfl⟩ : ∃ it, items[i]? = some it ∧ vItem it = p := by
      rw [List.getElem?_map] at hpi
      cases h : items[i]? with
      | none => rw [h] at hpi; cases hpi
      | some it => rw [h] at hpi; exact ⟨it, rfl, Option.some.inj hpi⟩
    have hM₂ : ∀ b ∈ Env.mut (ePat L cd), b ∈ N ++ (a :: (Env.mut (ePat L cd) ++ Mut)) := fun b hb => List.mem_append_right _ (.tail _ (hM' b hb))
    have aM₂ : a ∈ N ++ (a :: (Env.mut (ePat L cd) ++ Mut)) := List.mem_append_right _ (.head _)
    refine wpAny_assign_Name (F₂.store C₂ (hM₂ _ (.head _)) fun s₃ F₃ C₃ st₃ => ?_)
    have O₃ := O₂.st st₃ aE a57
    have q₃ := (vItem it).mono st₃.fl pv
    have Xi : Var (ePat L cd) s₃.heap "item" v := F₃.var (x := "item") upd_eq
    have Xw : Var (ePat L cd) s₃.heap "written" vw := F₃.var (x := "written") (Eq.trans upd_ne h1)
    have Xt : Var (ePat L cd) s₃.heap "texts" (.ref a) := F₃.var (x := "texts") (Eq.trans upd_ne h2)
    obtain rfl : vw = .bool wr := hw
    have eW : ∀ {s₄ : Shared} {pos : Pos}, Kp ν s₃ s₄ → Eb ν prog w (A.deeper (ePat L cd)) s₄ (isTrue (.Name "written" pos) (ePat L cd) (eval (.Name "written" pos) (ePat L cd))) wr :=
      fun {s₄ pos} k => Eb.bool (Mut := N ++ (a :: (Env.mut (ePat L cd) ++ Mut))) ((Ev.name (P := vB wr) Xw rfl).at k)
    have eN : ∀ {s₄ : Shared} {p1 p2 p3 : Pos} {whole : Sem Value}, Kp ν s₃ s₄ → Eb ν prog w (A.deeper (ePat L cd)) s₄ (isTrue (.Compare (.Name "item" p1) [.Is] [.Constant .none 0 p2] p3) (ePat L cd) whole) it.isNone := by
      intro s₄ p1 p2 p3 whole k
      refine (Ev.isNone (v := v) ((Ev.name (Mut := Mut) Xi rfl).at k)).eq ?_
      cases it with
      | none => obtain rfl : v = .none := pv; rfl
      | some l => obtain ⟨t, rfl⟩ : ∃ t, v = .str (T l) t := pv; rfl
    have tk : (items.take (i + 1)).map (fun it => vS (T (patOf wr it))) = (items.take i).map (fun it => vS (T (patOf wr it))) ++ [vS (T (patOf wr it))] := by
      rw [List.take_add_one, hit]; simp
    have len : ((items.take i).map fun it => vS (T (patOf wr it))).length ≤ sizeLine := by
      rw [List.length_map, List.length_take]
      exact Nat.le_trans (show _ ≤ 1000 by lia) (by decide)
    have fin : ∀ (s₄ s₅ : Shared), Kp ν s₃ s₄ → Fm ν (ePat L cd) s s₅ (upd m "item" v) cm → Cx ν (ro + 1) (A.deeper (ePat L cd)) (N ++ (a :: (Env.mut (ePat L cd) ++ Mut))) H s₅ → Step ν [a] (N ++ (a :: (Env.mut (ePat L cd) ++ Mut))) s₄ s₅ →
        Own a ((items.take i).map (fun it => vS (T (patOf wr it))) ++ [vS (T (patOf wr it))]) (vis ν (N ++ (a :: (Env.mut (ePat L cd) ++ Mut))) s₅.heap) s₅.heap →
        ∃ m₃ cm₃, Fm ν (ePat L cd) s s₅ m₃ cm₃ ∧ Cx ν (ro + 1) (A.deeper (ePat L cd)) (N ++ (a :: (Env.mut (ePat L cd) ++ Mut))) H s₅ ∧ Step ν (Env.mut (ePat L cd) ++ [a]) (N ++ (a :: (Env.mut (ePat L cd) ++ Mut))) s₂ s₅ ∧
          m₃ "written" = some (.bool wr) ∧ m₃ "texts" = some (.ref a) ∧ Own a ((items.take (i + 1)).map fun it => vS (T (patOf wr it))) (vis ν (N ++ (a :: (Env.mut (ePat L cd) ++ Mut))) s₅.heap) s₅.heap := by
      intro s₄ s₅ k F₅ C₅ st₅ O₅
      refine ⟨_, _, F₅, C₅, (st₃.wide fun b hb => List.mem_append_left _ hb).trans ((Step.of k).trans (st₅.wide fun b hb => List.mem_append_right _ hb)), Eq.trans upd_ne h1, Eq.trans upd_ne h2, ?_⟩
      rw [tk]
      exact O₅
    refine Xs.cons (Xs.if (b := it.isNone || it == some []) (Eb.or2 (b := it.isNone) (c := it == some []) (eN (Kp.refl _)) fun hn => ?_) (fun hb s₄ k₄ => ?_) (fun hb s₄ k₄ => ?_))
    · cases it with
      | none => cases hn
      | some l =>
        refine (Eb.eqS (x := T l) (y := T []) (Ev.name Xi q₃) Ev.cStr).eq ?_
        rw [beqT]
        rfl
    · refine Xs.cons (Xs.append (F₃.at k₄) (C₃.at k₄) ((Ev.name Xt rfl).at k₄) aM₂ f0 aE (O₃.at k₄ a57) (P := vS (T (patOf wr it))) ?_ len fun s₅ F₅ C₅ st₅ O₅ => Xs.nil (Xs.nil (fin s₄ s₅ k₄ F₅ C₅ st₅ O₅)))
      refine Ev.ifExp (eN k₄) (fun hn => ?_) (fun hn => ?_)
      · obtain rfl : it = none := by cases it with | none => rfl | some _ => cases hn
        exact Ev.cStr
      · obtain rfl : it = some [] := by
          cases it with
          | none => cases hn
          | some l => simpa using hb
        refine Ev.ifExp (eW k₄) (fun hr => ?_) (fun hr => ?_)
        · subst hr; exact Ev.cStr
        · subst hr; exact Ev.cStr
    · obtain ⟨c, hc, rfl⟩ : ∃ c, c < 256 ∧ it = some [c] := by
        rcases ok it (List.mem_of_getElem? hit) with rfl | rfl | h
        · cases hb
        · cases hb
        · exact h
      have C₄ := C₃.at k₄
      have q₄ := (vS (T [c])).mono (k₄.vis _) q₃
      have eI : ∀ {pos : Pos}, Ev ν prog w (A.deeper (ePat L cd)) (N ++ (a :: (Env.mut (ePat L cd) ++ Mut))) s₄ (eval (.Name "item" pos) (ePat L cd)) (vS (T [c])) := fun {pos} => (Ev.name Xi q₃).at k₄
      refine Xs.cons (Xs.append (F₃.at k₄) C₄ ((Ev.name Xt rfl).at k₄) aM₂ f0 aE (O₃.at k₄ a57) (P := vS (T (patOf wr (some [c])))) ?_ len fun s₅ F₅ C₅ st₅ O₅ => Xs.nil (Xs.nil (fin s₄ s₅ k₄ F₅ C₅ st₅ O₅)))
      refine Ev.ifExp (eW k₄) (fun hr => ?_) (fun hr => ?_)
      · subst hr
        refine Ev.callN (Ps := [vS (T [c])]) (B.fn C₄ 11) (B.kept C₄ 11) (Es.cons eI Es.nil) fun vs s₅ k₅ q => ?_
        obtain ⟨w1, _, rfl, r1, rfl⟩ := q
        exact figures_ok B (C₄.at k₅) hc r1
      · subst hr
        refine Ev.ifExp (b := [T [42], T [63], T [91]].any (· == T [c])) (Eb.cmp (P1 := vS (T [c])) (P2 := vL ([T [42], T [63], T [91]].map vS)) eI (Ev.list C₄ (Es.cons Ev.cStr (Es.cons Ev.cStr (Es.cons Ev.cStr Es.nil))) (by decide)) fun v1 v2 s k q1 q2 => op_inL q1 q2) (fun hr => ?_) (fun hr => ?_)
        · have : patOf false (some [c]) = [91, c, 93] := by
            simp only [List.any_cons, List.any_nil, Bool.or_false, beqT] at hr
            rw [patOf_one, if_pos]
            simp at hr ⊢
            lia
          rw [this]
          exact Ev.addS (x := T [91, c]) (y := T [93]) (show 2 + 1 ≤ sizeLine by decide) (Ev.addS (x := T [91]) (y := T [c]) (show 1 + 1 ≤ sizeLine by decide) Ev.cStr eI) Ev.cStr
        · have : patOf false (some [c]) = [c] := by
            simp only [List.any_cons, List.any_nil, Bool.or_false, beqT] at hr
            rw [patOf_one, if_neg]
            simp at hr ⊢
            lia
          rw [this]
          exact eI
  · intro s₂ m cm F₂ C₂ f₂ ⟨h1, h2, O₂⟩
    rw [List.length_map, List.take_length] at O₂
    have v₂ := O₂.free a57 aM
    refine Xs.cons (Xs.ret (Mut := Env.mut (ePat L cd) ++ Mut) (P := vS (T (patTxt wr items))) ?_ fun v s'' k pv => ⟨v, rfl, F₂.k.trans k, pv⟩)
    refine Ev.join0 (ls := items.map (patOf wr)) (Ev.name (F₂.var (x := "texts") h2) ?_) ?_
    · rw [List.map_map]
      exact v₂
    · exact Nat.le_trans (flat_len _ (patOf_len wr) items) (Nat.le_trans (show _ ≤ 3000 by lia) (by decide))
end
end Mine
set_option maxRecDepth 10000
namespace Mine
open PySem PySem.W PyProof.Rows PySem.Calls PySem.Spec
noncomputable abbrev El := Option (List Nat)
noncomputable abbrev txt (e : El) : List Nat := e.getD []
noncomputable def segs : Nat → List El → List (List Nat)
  | 0, _ => []
  | _ + 1, [] => []
  | f + 1, _ :: r => if r = [] then [[46, 42]] else if r.dropWhile (·.isSome) = [] then [[46, 42], ((r.takeWhile (·.isSome)).map txt).flatten]
    else ([40, 63, 62, 46, 42, 63] ++ ((r.takeWhile (·.isSome)).map txt).flatten ++ [41]) :: segs f (r.dropWhile (·.isSome))
noncomputable def pieces (els : List El) : List (List Nat) := (els.takeWhile (·.isSome)).map txt ++ segs els.length (els.dropWhile (·.isSome))
noncomputable def joinF (els : List El) : List Nat := [40, 63, 115, 58] ++ (pieces els).flatten ++ [41, 92, 90]
theorem split_at {els : List El} {i : Nat} (h1 : ∀ j, j < i → (els.getD j none).isSome = true) (hi : i ≤ els.length) (h2 : i < els.length → (els.getD i none).isSome = false) : els.takeWhile (·.isSome) = els.take i ∧ els.dropWhile (·.isSome) = els.drop i := by
  induction els generalizing i with
  | nil => simp at hi; subst hi; exact ⟨rfl, rfl⟩
  | cons e r ih =>
    cases i with
    | zero =>
      have := h2 (by simp)
      simp only [List.getD_cons_zero] at this
      simp [List.takeWhile_cons, List.dropWhile_cons, this]
    | succ i =>
      have h0 := h1 0 (by lia)
      simp only [List.getD_cons_zero] at h0
      have := ih (i := i) (fun j hj => by have := h1 (j + 1) (by lia); simpa using this) (by simpa using hi) (fun h => by have := h2 (by simpa using h); simpa using this)
      simp [List.takeWhile_cons, List.dropWhile_cons, h0, this.1, this.2]
section
variable {ro : Nat} {prog : Program} {w : World} {A : Around} {Mut : List Addr} {s₀ s₁ s : Shared} {env : Env} {H : Heap} {mg mb : Str → Option Value}
structure JSt (ν : Nat) (ro : Nat) (A : Around) (M : List Addr) (H : Heap) (env : Env) (s₀ : Shared) (els : List El) (st a : Addr) (ps : List (List Nat)) (i : Nat) (m cm : Str → Option Value) (s : Shared) : Prop where
  F : Fm ν env s₀ s m cm
  C : Cx ν ro A M H s
  inp : ∃ v, m "inp" = some v ∧ (vL (els.map (vEl st))).on (vis ν M s.heap) v
  star : m "STAR" = some (.ref st)
  iv : ∃ t, m "i" = some (.int (i : Int) t)
  nv : ∃ t, m "n" = some (.int (els.length : Int) t)
  add : ∃ v, m "add" = some v ∧ (vBM a).on (vis ν M s.heap) v
  own : Own a (ps.map fun l => vS (T l)) (vis ν M s.heap) s.heap
theorem JSt.at {M : List Addr} {els : List El} {st a : Addr} {ps : List (List Nat)} {i : Nat} {m cm : Str → Option Value} {s' : Shared} (J : JSt ν ro A M H env s₀ els st a ps i m cm s) (n57 : Off ν a) (k : Kp ν s s') : JSt ν ro A M H env s₀ els st a ps i m cm s' :=
  ⟨J.F.at k, J.C.at k, let ⟨v, e, p⟩ := J.inp; ⟨v, e, (vL _).mono (k.vis _) p⟩, J.star, J.iv, J.nv, let ⟨v, e, p⟩ := J.add; ⟨v, e, (vBM a).mono (k.vis _) p⟩, J.own.at k n57⟩
theorem JSt.step {M : List Addr} {els : List El} {st a : Addr} {ps : List (List Nat)} {i j : Nat} {m cm m' : Str → Option Value} {s' : Shared} {W : List Addr} (J : JSt ν ro A M H env s₀ els st a ps i m cm s) (n57 : Off ν a) (aW : a ∉ W) (F' : Fm ν env s₀ s' m' cm) (C' : Cx ν ro A M H s') (stp : Step ν W M s s')
    (e1 : m' "inp" = m "inp") (e2 : m' "STAR" = m "STAR") (e3 : m' "n" = m "n") (e4 : m' "add" = m "add") (e5 : ∃ t, m' "i" = some (.int (j : Int) t)) : JSt ν ro A M H env s₀ els st a ps j m' cm s' :=
  ⟨F', C', let ⟨v, e, p⟩ := J.inp; ⟨v, e1.trans e, (vL _).mono stp.fl p⟩, e2.trans J.star, e5, e3 ▸ J.nv, let ⟨v, e, p⟩ := J.add; ⟨v, e4.trans e, (vBM a).mono stp.fl p⟩, J.own.st stp aW n57⟩
theorem JSt.push {M : List Addr} {els : List El} {st a : Addr} {ps : List (List Nat)} {l : List Nat} {i : Nat} {m cm : Str → Option Value} {s' : Shared} (J : JSt ν ro A M H env s₀ els st a ps i m cm s) (F' : Fm ν env s₀ s' m cm) (C' : Cx ν ro A M H s') (stp : Step ν [a] M s s')
    (O : Own a (ps.map (fun l => vS (T l)) ++ [vS (T l)]) (vis ν M s'.heap) s'.heap) : JSt ν ro A M H env s₀ els st a (ps ++ [l]) i m cm s' :=
  ⟨F', C', let ⟨v, e, p⟩ := J.inp; ⟨v, e, (vL _).mono stp.fl p⟩, J.star, J.iv, J.nv, let ⟨v, e, p⟩ := J.add; ⟨v, e, (vBM a).mono stp.fl p⟩, by rw [List.map_append]; exact O⟩
section
variable {M : List Addr} {els : List El} {st a : Addr} {ps : List (List Nat)} {i : Nat} {L : Addr} {cd : Value}
noncomputable abbrev eJoin (L : Addr) (cd : Value) : Env := envOfC "_join_translated_parts" (fScope (nth 9)) L 69 cd
theorem JSt.eI (J : JSt ν ro A M H (eJoin L cd) s₀ els st a ps i m cm s) {p : Pos} : Ev ν prog w A M s (eval (.Name "i" p) (eJoin L cd)) (vI (i : Int)) := by
  obtain ⟨t, e⟩ := J.iv
  exact Ev.name (J.F.var (x := "i") e) ⟨t, rfl⟩
theorem JSt.eN (J : JSt ν ro A M H (eJoin L cd) s₀ els st a ps i m cm s) {p : Pos} : Ev ν prog w A M s (eval (.Name "n" p) (eJoin L cd)) (vI (els.length : Int)) := by
  obtain ⟨t, e⟩ := J.nv
  exact Ev.name (J.F.var (x := "n") e) ⟨t, rfl⟩
theorem JSt.eS (J : JSt ν ro A M H (eJoin L cd) s₀ els st a ps i m cm s) {p : Pos} : Ev ν prog w A M s (eval (.Name "STAR" p) (eJoin L cd)) (vV (.ref st)) := Ev.name (J.F.var (x := "STAR") J.star) rfl
theorem JSt.eA (J : JSt ν ro A M H (eJoin L cd) s₀ els st a ps i m cm s) {p : Pos} : Ev ν prog w A M s (eval (.Name "add" p) (eJoin L cd)) (vBM a) := by
  obtain ⟨v, e, q⟩ := J.add
  exact Ev.name (J.F.var (x := "add") e) q
theorem JSt.item (J : JSt ν ro A M H (eJoin L cd) s₀ els st a ps i m cm s) (hi : i < els.length) (hn : els.length < 1000) {p1 p2 p3 : Pos} : Ev ν prog w A M s (eval (.Subscript (.Name "inp" p1) (.Name "i" p2) p3) (eJoin L cd)) (vEl st (els.getD i none)) := by
  obtain ⟨v, e, q⟩ := J.inp
  refine Ev.itemL (Ps := els.map (vEl st)) (k := (i : Int)) (by lia) (by lia) ?_ (Ev.name (J.F.var (x := "inp") e) q) J.eI
  rw [Int.toNat_natCast, List.getElem?_map, List.getD_eq_getElem?_getD, List.getElem?_eq_getElem hi]; rfl
theorem JSt.test (J : JSt ν ro A M H (eJoin L cd) s₀ els st a ps i m cm s) (hn : els.length < 1000) {p1 p2 p3 p4 p5 p6 p7 p8 p9 : Pos} {whole : Sem Value} :
    Eb ν prog w A s (isTrue (.BoolOp .And [.Compare (.Name "i" p1) [.Lt] [.Name "n" p2] p3, .Compare (.Subscript (.Name "inp" p4) (.Name "i" p5) p6) [.IsNot] [.Name "STAR" p7] p8] p9) (eJoin L cd) whole) (decide (i < els.length) && (els.getD i none).isSome) :=
  Eb.and2 ((Eb.ltI J.eI J.eN).eq (decide_eq_decide.mpr (by lia))) fun h => Eb.isNotStar (J.item (of_decide_eq_true h) hn) J.eS
end
end
end Mine
set_option maxRecDepth 10000
namespace Mine
open PySem PySem.W PyProof.Rows PySem.Calls PySem.Spec
section
variable {ro : Nat} {prog : Program} {w : World} {A : Around} {Mut M : List Addr} {s₀ s₁ s : Shared} {env : Env} {H : Heap} {mg mb : Str → Option Value} {els : List El} {st a b : Addr} {ps : List (List Nat)} {i : Nat} {L : Addr} {cd : Value} {m cm : Str → Option Value}
theorem JSt.free (J : JSt ν ro A (b :: M) H env s₀ els st a ps i m cm s) : JSt ν ro A M H env s₀ els st a ps i m cm s :=
  ⟨J.F, J.C.free, let ⟨v, e, p⟩ := J.inp; ⟨v, e, (vL _).mono (vis_sub fun c hc => .tail _ hc) p⟩, J.star, J.iv, J.nv, let ⟨v, e, p⟩ := J.add; ⟨v, e, (vBM a).mono (vis_sub fun c hc => .tail _ hc) p⟩, J.own.keep (vis_sub fun c hc => .tail _ hc) fun _ e => e⟩
theorem JSt.deep {s' : Shared} {m' : Str → Option Value} {W : List Addr} (J : JSt ν ro A M H env s₀ els st a ps i m cm s) (n57 : Off ν a) (aW : a ∉ W) (F' : Fm ν env s₀ s' m' cm) (C' : Cx ν ro A (b :: M) H s') (fl : Fl (vis ν M s.heap) (vis ν (b :: M) s'.heap)) (stp : Step ν W M s s')
    (e1 : m' "inp" = m "inp") (e2 : m' "STAR" = m "STAR") (e3 : m' "n" = m "n") (e4 : m' "add" = m "add") (e5 : m' "i" = m "i") : JSt ν ro A (b :: M) H env s₀ els st a ps i m' cm s' := by
  refine ⟨F', C', let ⟨v, e, p⟩ := J.inp; ⟨v, e1.trans e, (vL _).mono fl p⟩, e2.trans J.star, e5 ▸ J.iv, e3 ▸ J.nv, let ⟨v, e, p⟩ := J.add; ⟨v, e4.trans e, (vBM a).mono fl p⟩, ?_⟩
  obtain ⟨vs, ⟨n, e⟩, q⟩ := J.own.ex
  exact ⟨vs, ⟨n, stp.own a _ aW n57 e⟩, q.mono fl⟩
theorem some_txt {e : El} (h : e.isSome = true) : e = some (txt e) := by cases e with | none => cases h | some l => rfl
theorem take_txt {els : List El} {i : Nat} (hi : i < els.length) : (els.take (i + 1)).map txt = (els.take i).map txt ++ [txt (els.getD i none)] := by
  rw [List.take_add_one, List.map_append, List.getElem?_eq_getElem hi, List.getD_eq_getElem?_getD, List.getElem?_eq_getElem hi]
  rfl
theorem join_lead (B : Base H mg mb) {Q : Flow → Shared → Prop} {p1 p2 p3 p4 p5 p6 p7 p8 p9 q1 q2 q3 q4 q5 q6 q7 q8 q9 r2 : Pos} (hn : els.length < 900) (aM : a ∈ M) (f0 : s₀.heap.get? a = none) (aE : a ∉ Env.mut (eJoin L cd)) (hM : ∀ x ∈ Env.mut (eJoin L cd), x ∈ M)
    (J : JSt ν ro A M H (eJoin L cd) s₀ els st a [] 0 m cm s) (hr : m "res" = some (.ref a))
    (h : ∀ i m s', JSt ν ro A M H (eJoin L cd) s₀ els st a ((els.take i).map txt) i m cm s' → m "res" = some (.ref a) → i ≤ els.length → (∀ j, j < i → (els.getD j none).isSome = true) → (i < els.length → (els.getD i none).isSome = false) → Q .next s') :
    Xs ν prog w A (exec (.While (.BoolOp .And [.Compare (.Name "i" p1) [.Lt] [.Name "n" p2] p3, .Compare (.Subscript (.Name "inp" p4) (.Name "i" p5) p6) [.IsNot] [.Name "STAR" p7] p8] p9)
      [.Expr (.Call (.Name "add" q1) [.Subscript (.Name "inp" q2) (.Name "i" q3) q4] [] q5) q6, .AugAssign (.Name "i" q7) .Add (.Constant (.int 1) 0 q8) q9] [] r2) (eJoin L cd)) Q s := by
  have n57 : Off ν a := fresh57 J.F.tab f0
  refine Xs.while (fun k s => ∃ i m, i + k = els.length ∧ JSt ν ro A M H (eJoin L cd) s₀ els st a ((els.take i).map txt) i m cm s ∧ m "res" = some (.ref a) ∧ ∀ j, j < i → (els.getD j none).isSome = true) ?_ els.length ⟨0, m, by lia, J, hr, fun j hj => absurd hj (Nat.not_lt_zero _)⟩
  rintro k s ⟨i, m, hk, J, hr, hs⟩
  refine ⟨_, J.test (by lia), fun hb s₁ k₁ => ?_, fun hb s₁ k₁ => ?_⟩
  · rw [Bool.and_eq_true, decide_eq_true_eq] at hb
    have J₁ := J.at n57 k₁
    have hi := hb.1
    have it := some_txt hb.2
    refine Xs.cons (Xs.addB J₁.F J₁.C J₁.eA aM f0 aE J₁.own (P := vS (T (txt (els.getD i none)))) ((J₁.item hi (by lia)).imp fun g v q => by rw [it] at q; exact q) (by rw [List.length_map, List.length_map, List.length_take]; exact Nat.le_trans (show _ ≤ 900 by lia) (by decide)) (fun s₂ F₂ C₂ st₂ O₂ => ?_) rfl rfl rfl)
    have J₂ := J₁.push F₂ C₂ st₂ O₂
    obtain ⟨t, e⟩ := J₂.iv
    refine Xs.cons (Xs.augI J₂.F J₂.C (hM _ (.head _)) e Ev.cInt (fun t' s₃ F₃ C₃ st₃ => ?_) rfl)
    refine Xs.nil ⟨els.length - (i + 1), by lia, i + 1, upd m "i" (.int ((i : Int) + 1) t'), by lia, ?_, Eq.trans upd_ne hr, fun j hj => ?_⟩
    · rw [take_txt hi]
      exact J₂.step n57 aE F₃ C₃ st₃ upd_ne upd_ne upd_ne upd_ne ⟨t', upd_eq⟩
    · by_cases hji : j = i
      · subst hji; exact hb.2
      · exact hs j (by lia)
  · refine h i m s₁ (J.at n57 k₁) hr (by lia) hs fun hlt => ?_
    rw [decide_eq_true hlt, Bool.true_and] at hb
    exact hb
theorem join_inner (B : Base H mg mb) {Q : Flow → Shared → Prop} {p1 p2 p3 p4 p5 p6 p7 p8 p9 q1 q2 q3 q4 q5 q6 q7 q8 q9 r1 r2 : Pos} (hn : els.length < 900) (aM : a ∈ M) (f0 : s₀.heap.get? a = none) (aE : a ∉ Env.mut (eJoin L cd)) (hM : ∀ x ∈ Env.mut (eJoin L cd), x ∈ M)
    (bM : b ∉ M) (g0 : s₀.heap.get? b = none) {j : Nat} (hj : j ≤ els.length) (J : JSt ν ro A (b :: M) H (eJoin L cd) s₀ els st a ps j m cm s) (hr : m "res" = some (.ref a)) (hf : m "fixed" = some (.ref b)) (O : Own b [] (vis ν (b :: M) s.heap) s.heap)
    (h : ∀ i m s', JSt ν ro A (b :: M) H (eJoin L cd) s₀ els st a ps i m cm s' → m "res" = some (.ref a) → m "fixed" = some (.ref b) → Own b ((((els.drop j).take (i - j)).map txt).map fun l => vS (T l)) (vis ν (b :: M) s'.heap) s'.heap → j ≤ i → i ≤ els.length → (∀ x, j ≤ x → x < i → (els.getD x none).isSome = true) → (i < els.length → (els.getD i none).isSome = false) → Q .next s')
    (hl : (q2.endLine == q5.line) = true) :
    Xs ν prog w A (exec (.While (.BoolOp .And [.Compare (.Name "i" p1) [.Lt] [.Name "n" p2] p3, .Compare (.Subscript (.Name "inp" p4) (.Name "i" p5) p6) [.IsNot] [.Name "STAR" p7] p8] p9)
      [.Expr (.Call (.Attribute (.Name "fixed" q1) "append" q2) [.Subscript (.Name "inp" q3) (.Name "i" q4) q6] [] q5) q7, .AugAssign (.Name "i" q8) .Add (.Constant (.int 1) 0 q9) r1] [] r2) (eJoin L cd)) Q s := by
  have n57 : Off ν a := fresh57 J.F.tab f0
  have m57 : Off ν b := fresh57 J.F.tab g0
  have bE : b ∉ Env.mut (eJoin L cd) := fun hm => bM (hM _ hm)
  have ab : a ≠ b := fun e => bM (e ▸ aM)
  refine Xs.while (fun k s => ∃ i m, i + k = els.length ∧ j ≤ i ∧ JSt ν ro A (b :: M) H (eJoin L cd) s₀ els st a ps i m cm s ∧ m "res" = some (.ref a) ∧ m "fixed" = some (.ref b) ∧ Own b ((((els.drop j).take (i - j)).map txt).map fun l => vS (T l)) (vis ν (b :: M) s.heap) s.heap ∧ ∀ x, j ≤ x → x < i → (els.getD x none).isSome = true) ?_ (els.length - j) ⟨j, m, by lia, Nat.le_refl _, J, hr, hf, by rw [Nat.sub_self]; exact O, fun x h1 h2 => absurd h2 (by lia)⟩
  rintro k s ⟨i, m, hk, hji, J, hr, hf, O, hs⟩
  refine ⟨_, J.test (by lia), fun hb s₁ k₁ => ?_, fun hb s₁ k₁ => ?_⟩
  · rw [Bool.and_eq_true, decide_eq_true_eq] at hb
    have J₁ := J.at n57 k₁
    have O₁ := O.at k₁ m57
    have hi := hb.1
    have it := some_txt hb.2
    refine Xs.cons (Xs.append J₁.F J₁.C (Ev.name (J₁.F.var (x := "fixed") hf) rfl) (.head _) g0 bE O₁ (P := vS (T (txt (els.getD i none)))) ((J₁.item hi (by lia)).imp fun g v q => by rw [it] at q; exact q) (by rw [List.length_map, List.length_map, List.length_take]; exact Nat.le_trans (show _ ≤ 900 by lia) (by decide)) (fun s₂ F₂ C₂ st₂ O₂ => ?_) rfl rfl hl rfl rfl rfl)
    have J₂ := J₁.step (j := i) n57 (show a ∉ [b] by simpa using ab) F₂ C₂ st₂ rfl rfl rfl rfl J₁.iv
    obtain ⟨t, e⟩ := J₂.iv
    refine Xs.cons (Xs.augI J₂.F J₂.C (.tail _ (hM _ (.head _))) e Ev.cInt (fun t' s₃ F₃ C₃ st₃ => ?_) rfl)
    refine Xs.nil ⟨els.length - (i + 1), by lia, i + 1, upd m "i" (.int ((i : Int) + 1) t'), by lia, by lia, J₂.step n57 aE F₃ C₃ st₃ upd_ne upd_ne upd_ne upd_ne ⟨t', upd_eq⟩, Eq.trans upd_ne hr, Eq.trans upd_ne hf, ?_, fun x h1 h2 => ?_⟩
    · have tk : (((els.drop j).take (i + 1 - j)).map txt).map (fun l => vS (T l)) = (((els.drop j).take (i - j)).map txt).map (fun l => vS (T l)) ++ [vS (T (txt (els.getD i none)))] := by
        have := take_txt (els := els.drop j) (i := i - j) (by rw [List.length_drop]; lia)
        rw [show i + 1 - j = i - j + 1 by lia, this, List.map_append]
        have e : (els.drop j).getD (i - j) none = els.getD i none := by
          rw [List.getD_eq_getElem?_getD, List.getElem?_drop, show j + (i - j) = i by lia, ← List.getD_eq_getElem?_getD]
        rw [e]
        rfl
      rw [tk]
      exact O₂.st st₃ bE m57
    · by_cases hxi : x = i
      · subst hxi; exact hb.2
      · exact hs x h1 (by lia)
  · refine h i m s₁ (J.at n57 k₁) hr hf (O.at k₁ m57) hji (by lia) hs fun hlt => ?_
    rw [decide_eq_true hlt, Bool.true_and] at hb
    exact hb
end
end Mine
set_option maxRecDepth 10000
namespace Mine
open PySem PySem.W PyProof.Rows PySem.Calls PySem.Spec
section
variable {ro : Nat} {prog : Program} {w : World} {A : Around} {Mut M : List Addr} {s₀ s₁ s : Shared} {env : Env} {H : Heap} {mg mb : Str → Option Value} {els : List El} {st a b : Addr} {ps : List (List Nat)} {i : Nat} {L : Addr} {cd : Value} {m cm : Str → Option Value}
noncomputable def NoDbl (els : List El) : Prop := ∀ i, i + 1 < els.length → (els.getD i none).isSome = false → (els.getD (i + 1) none).isSome = true
theorem drop_cons {els : List El} {i : Nat} (hi : i < els.length) : els.drop i = els.getD i none :: els.drop (i + 1) := by
  rw [List.drop_eq_getElem_cons hi, List.getD_eq_getElem?_getD, List.getElem?_eq_getElem hi]; rfl
theorem sum_le {els : List El} (hl : ∀ e ∈ els, (txt e).length ≤ 20) : (els.map txt).flatten.length ≤ els.length * 20 := by
  induction els with
  | nil => simp
  | cons e r ih =>
    have h1 := hl e (.head _)
    have h2 := ih fun x hx => hl x (.tail _ hx)
    rw [List.map_cons, List.flatten_cons, List.length_append, List.length_cons, Nat.succ_mul]
    lia
set_option maxHeartbeats 1000000 in
theorem join_ok (B : Base H mg mb) (C : Cx ν (ro + 1) A Mut H s) {vi : Value} (hi : (vL (els.map (vEl st))).on (vis ν Mut s.heap) vi) (hn : els.length < 900) (hl : ∀ e ∈ els, (txt e).length ≤ 20) (nd : NoDbl els) (hz : (pieces els).flatten.length ≤ 100000) (hz2 : (pieces els).length ≤ 100000) :
    Op ν prog w A Mut s (call (.ref 69) [vi, .ref st]) (vS (T (joinF els))) := by
  refine fn_call C (B.df 3) (binds := [("inp", vi), ("STAR", .ref st)]) (fun _ _ _ => rfl) (fun _ x hx => ?_) (fun L cd s' F C' fl => ?_) (by decide)
  · simp only [List.mem_cons, List.not_mem_nil, or_false] at hx
    rcases hx with rfl | rfl <;> exact .inl rfl
  have hM' : ∀ a ∈ Env.mut (eJoin L cd), a ∈ Env.mut (eJoin L cd) ++ Mut := fun a ha => List.mem_append_left _ ha
  refine Xs.cons (Xs.newL F C' hM' (Ps := []) Es.nil (by decide) fun a s₁ f0 aM a57 F₁ C₁ fl₁ st₁ O₁ => ?_)
  have aE : a ∉ Env.mut (eJoin L cd) := fun h => aM (hM' _ h)
  have hM₁ : ∀ x ∈ Env.mut (eJoin L cd), x ∈ a :: (Env.mut (eJoin L cd) ++ Mut) := fun x hx => .tail _ (hM' x hx)
  refine Xs.cons (Xs.assign F₁ C₁ (hM₁ _ (.head _)) (P := vBM a) (Ev.attrAppend C₁ (Ev.name (F₁.var (x := "res") upd_eq) rfl) O₁ a57) fun vb s₂ F₂ C₂ st₂ p₂ => ?_)
  have i₂ := (vL (els.map (vEl st))).mono ((fl.trans fl₁).trans st₂.fl) hi
  have ll : (els.map (vEl st)).length < 2 ^ 63 := by rw [List.length_map]; lia
  refine Xs.cons (Xs.assign2 F₂ C₂ (hM₁ _ (.head _)) (P1 := vI (0 : Nat)) (P2 := vI els.length) (Ev.tuple C₂ (Es.cons Ev.cInt (Es.cons ((Ev.lenL B C₂ (Ev.name (F₂.var (x := "inp") rfl) i₂) ll).imp fun h v q => by simpa using q) Es.nil)) (by show 2 ≤ sizeLine; decide)) fun v1 v2 s₃ F₃ C₃ st₃ q1 q2 => ?_)
  obtain ⟨t1, rfl⟩ := q1
  obtain ⟨t2, rfl⟩ := q2
  have J : JSt ν ro (A.deeper (eJoin L cd)) (a :: (Env.mut (eJoin L cd) ++ Mut)) H (eJoin L cd) s els st a [] 0 _ _ s₃ :=
    ⟨F₃, C₃, ⟨vi, rfl, (vL _).mono st₃.fl i₂⟩, rfl, ⟨t1, rfl⟩, ⟨t2, rfl⟩, ⟨vb, rfl, (vBM a).mono st₃.fl p₂⟩, (O₁.st st₂ aE a57).st st₃ aE a57⟩
  refine Xs.cons (join_lead B hn (.head _) f0 aE hM₁ J rfl fun i₁ m₁ s₄ J₁ hr₁ hi₁ hs₁ he₁ => ?_)
  have sp := split_at hs₁ hi₁ he₁
  have tot : (els.take i₁).map txt ++ segs els.length (els.drop i₁) = pieces els := by unfold pieces; rw [sp.1, sp.2]
  refine Xs.cons (Xs.whileM (fun s' => ∃ m, JSt ν ro (A.deeper (eJoin L cd)) (a :: (Env.mut (eJoin L cd) ++ Mut)) H (eJoin L cd) s els st a (pieces els) els.length m (bindC (eJoin L cd).kindOf [(Str.ofString "inp", vi), (Str.ofString "STAR", Value.ref st)] fun _ => none) s' ∧ m "res" = some (.ref a))
    (fun k s' => ∃ i m ps f, i + k = els.length ∧ JSt ν ro (A.deeper (eJoin L cd)) (a :: (Env.mut (eJoin L cd) ++ Mut)) H (eJoin L cd) s els st a ps i m (bindC (eJoin L cd).kindOf [(Str.ofString "inp", vi), (Str.ofString "STAR", Value.ref st)] fun _ => none) s' ∧ m "res" = some (.ref a) ∧ (els.drop i).length ≤ f ∧ ps ++ segs f (els.drop i) = pieces els ∧ (i < els.length → (els.getD i none).isSome = false)) ?_ (els.length - i₁) ⟨i₁, m₁, _, els.length, by lia, J₁, hr₁, by rw [List.length_drop]; lia, tot, he₁⟩ ?_)
  rotate_left
  · -- behind the loop
    rintro s₅ ⟨m, J₂, hr₂⟩
    refine Xs.cons (Xs.assert ((Eb.eqI J₂.eI J₂.eN).eq (by simp)) fun s₆ k₆ => ?_)
    have J₃ := (J₂.at a57 k₆)
    have fr := J₃.own.free a57 aM
    have C₃' := J₃.C.free
    refine Xs.cons (Xs.assign J₃.F C₃' (hM' _ (.head _)) (P := vS (T (pieces els).flatten)) (Ev.join0 (Ev.name (J₃.F.var (x := "res") hr₂) fr) (Nat.le_trans hz (by decide))) fun v₇ s₇ F₇ C₇ st₇ p₇ => ?_)
    refine Xs.cons (Xs.ret (P := vS (T (joinF els))) ?_ fun v s'' k pv => ⟨v, rfl, F₇.k.trans k, pv⟩)
    refine (Ev.fstr3 (Ev.name (F₇.var (x := "res") upd_eq) p₇) ?_).imp fun h v q => ?_
    · have : (T (pieces els).flatten).length = (pieces els).flatten.length := by simp [Str.length]
      rw [this]
      exact Nat.le_trans (show 4 + _ + 3 ≤ 100007 by lia) (by decide)
    · have e : Str.empty ++ Str.ofString "(?s:" ++ T (pieces els).flatten ++ Str.ofString ")\\Z" = T (joinF els) := by
        show (⟨((#[] ++ (Str.ofString "(?s:").cps) ++ (pieces els).flatten.toArray) ++ (Str.ofString ")\\Z").cps⟩ : Str) = _
        have e1 : (Str.ofString "(?s:").cps = #[40, 63, 115, 58] := by decide
        have e2 : (Str.ofString ")\\Z").cps = #[41, 92, 90] := by decide
        rw [e1, e2]
        simp [joinF]
      rw [e] at q
      exact q
  rintro k s₅ ⟨i, m, ps, f, hk, J₂, hr₂, hf, htot, hst⟩
  refine ⟨decide (i < els.length), (Eb.ltI J₂.eI J₂.eN).eq (decide_eq_decide.mpr (by lia)), fun hb s₆ k₆ => ?_, fun hb s₆ k₆ => ?_⟩
  · have hlt : i < els.length := of_decide_eq_true hb
    have J₃ := J₂.at a57 k₆
    have hstar := hst hlt
    have hnone : els.getD i none = none := by cases h : els.getD i none with | none => rfl | some l => rw [h] at hstar; cases hstar
    obtain ⟨f, rfl⟩ : ∃ g, f = g + 1 := ⟨f - 1, by have := hf; rw [List.length_drop] at this; lia⟩
    rw [drop_cons hlt, hnone] at htot
    refine Xs.cons (Xs.assert ((Eb.isStar (J₃.item hlt (by lia)) J₃.eS).eq (by rw [hnone]; rfl)) fun s₇ k₇ => ?_)
    have J₄ := J₃.at a57 k₇
    obtain ⟨t, e⟩ := J₄.iv
    refine Xs.cons (Xs.augI J₄.F J₄.C (hM₁ _ (.head _)) e Ev.cInt (fun t' s₈ F₈ C₈ st₈ => ?_) rfl)
    have J₅ : JSt ν ro (A.deeper (eJoin L cd)) (a :: (Env.mut (eJoin L cd) ++ Mut)) H (eJoin L cd) s els st a ps (i + 1) (upd m "i" (.int ((i : Int) + 1) t')) _ s₈ := J₄.step a57 aE F₈ C₈ st₈ upd_ne upd_ne upd_ne upd_ne ⟨t', upd_eq⟩
    have hr₅ : upd m "i" (.int ((i : Int) + 1) t') "res" = some (.ref a) := Eq.trans upd_ne hr₂
    have plen : ps.length ≤ sizeLine := by
      have := congrArg List.length htot
      rw [List.length_append] at this
      exact Nat.le_trans (show _ ≤ 100000 by lia) (by decide)
    refine Xs.cons (Xs.if (b := decide (i + 1 = els.length)) ((Eb.eqI J₅.eI J₅.eN).eq ?_) (fun hb' s₉ k₉ => ?_) (fun hb' s₉ k₉ => ?_))
    · rw [Bool.eq_iff_iff, beq_iff_eq, decide_eq_true_eq]; lia
    · have he : i + 1 = els.length := of_decide_eq_true hb'
      have J₆ := J₅.at a57 k₉
      refine Xs.cons (Xs.addB J₆.F J₆.C J₆.eA (.head _) f0 aE J₆.own (P := vS (T [46, 42])) Ev.cStr (by rw [List.length_map]; exact plen) (fun s₁₀ F₁₀ C₁₀ st₁₀ O₁₀ => ?_) rfl rfl rfl)
      have J₇ := J₆.push F₁₀ C₁₀ st₁₀ O₁₀
      refine Xs.cons (Xs.brk ?_)
      have hd : els.drop (i + 1) = [] := by rw [he]; exact List.drop_length
      rw [hd] at htot
      have hp : ps ++ [[46, 42]] = pieces els := by
        rw [← htot]; rfl
      rw [hp, he] at J₇
      exact ⟨_, J₇, hr₅⟩
    · have he : i + 1 < els.length := by have := of_decide_eq_false hb'; lia
      have hsome : (els.getD (i + 1) none).isSome = true := nd i he hstar
      have J₆ := J₅.at a57 k₉
      refine Xs.nil (Xs.cons (Xs.assert ((Eb.isNotStar (J₆.item he (by lia)) J₆.eS).eq hsome) fun s₁₀ k₁₀ => ?_))
      have J₇ := J₆.at a57 k₁₀
      refine Xs.cons (Xs.newL J₇.F J₇.C hM₁ (Ps := []) Es.nil (by decide) fun b s₁₁ g0 bM b57 F₁₁ C₁₁ fl₁₁ st₁₁ O₁₁ => ?_)
      have J₈ := J₇.deep a57 aE F₁₁ C₁₁ fl₁₁ st₁₁ upd_ne upd_ne upd_ne upd_ne upd_ne
      refine Xs.cons (join_inner B hn (.head _) f0 aE hM₁ bM g0 (by lia) J₈ (Eq.trans upd_ne hr₅) upd_eq O₁₁ (fun i₂ m₂ s₁₂ J₉ hr₉ hf₉ O₉ hji hi₂ hs₂ he₂ => ?_) rfl)
      have sp₂ := split_at (els := els.drop (i + 1)) (i := i₂ - (i + 1)) (fun x hx => by
          have := hs₂ (i + 1 + x) (by lia) (by lia)
          rwa [List.getD_eq_getElem?_getD, List.getElem?_drop, ← List.getD_eq_getElem?_getD]) (by rw [List.length_drop]; lia) (fun hx => by
          rw [List.length_drop] at hx
          have := he₂ (by lia)
          rwa [List.getD_eq_getElem?_getD, List.getElem?_drop, show i + 1 + (i₂ - (i + 1)) = i₂ by lia, ← List.getD_eq_getElem?_getD])
      have hdd : (els.drop (i + 1)).drop (i₂ - (i + 1)) = els.drop i₂ := by rw [List.drop_drop]; congr 1; lia
      rw [hdd] at sp₂
      have hne : els.drop (i + 1) ≠ [] := by rw [drop_cons he]; exact List.cons_ne_nil _ _
      generalize hfx : (((els.drop (i + 1)).take (i₂ - (i + 1))).map txt) = fx at O₉ ⊢
      have hseg : segs (f + 1) (none :: els.drop (i + 1)) = if els.drop i₂ = [] then [[46, 42], fx.flatten] else ([40, 63, 62, 46, 42, 63] ++ fx.flatten ++ [41]) :: segs f (els.drop i₂) := by
        show (if els.drop (i + 1) = [] then _ else _) = _
        rw [if_neg hne, sp₂.1, sp₂.2, hfx]
      rw [hseg] at htot
      have lfx : fx.flatten.length ≤ 20000 := by
        rw [← hfx]
        refine Nat.le_trans (sum_le fun e he => hl e (List.mem_of_mem_drop (List.mem_of_mem_take he))) ?_
        rw [List.length_take, List.length_drop]
        lia
      have fr := O₉.free b57 bM
      have J₁₀ := J₉.free
      refine Xs.cons (Xs.assign J₁₀.F J₁₀.C (hM₁ _ (.head _)) (P := vS (T fx.flatten)) (Ev.join0 (Ev.name (J₁₀.F.var (x := "fixed") hf₉) fr) (Nat.le_trans lfx (by decide))) fun v₁₃ s₁₃ F₁₃ C₁₃ st₁₃ p₁₃ => ?_)
      have J₁₁ := J₁₀.step (j := i₂) a57 aE F₁₃ C₁₃ st₁₃ upd_ne upd_ne upd_ne upd_ne (by obtain ⟨t, e⟩ := J₁₀.iv; exact ⟨t, Eq.trans upd_ne e⟩)
      refine Xs.cons (Xs.if (b := decide (i₂ = els.length)) ((Eb.eqI J₁₁.eI J₁₁.eN).eq ?_) (fun hc s₁₄ k₁₄ => ?_) (fun hc s₁₄ k₁₄ => ?_))
      · rw [Bool.eq_iff_iff, beq_iff_eq, decide_eq_true_eq]; lia
      · have hin : i₂ = els.length := of_decide_eq_true hc
        have hd : els.drop i₂ = [] := by rw [hin]; exact List.drop_length
        rw [if_pos hd] at htot
        have J₁₂ := J₁₁.at a57 k₁₄
        refine Xs.cons (Xs.addB J₁₂.F J₁₂.C J₁₂.eA (.head _) f0 aE J₁₂.own (P := vS (T [46, 42])) Ev.cStr (by rw [List.length_map]; exact plen) (fun s₁₅ F₁₅ C₁₅ st₁₅ O₁₅ => ?_) rfl rfl rfl)
        have J₁₃ := J₁₂.push F₁₅ C₁₅ st₁₅ O₁₅
        have p₁₅ := (vS (T fx.flatten)).mono ((k₁₄.vis _).trans st₁₅.fl) p₁₃
        refine Xs.cons (Xs.addB J₁₃.F J₁₃.C J₁₃.eA (.head _) f0 aE J₁₃.own (P := vS (T fx.flatten)) (Ev.name (J₁₃.F.var (x := "fixed") upd_eq) p₁₅) ?_ (fun s₁₆ F₁₆ C₁₆ st₁₆ O₁₆ => ?_) rfl rfl rfl)
        · have := congrArg List.length htot
          rw [List.length_append] at this
          rw [List.length_map, List.length_append]
          simp only [List.length_cons, List.length_nil] at this ⊢
          exact Nat.le_trans (show _ ≤ 100000 by lia) (by decide)
        · have J₁₄ := J₁₃.push F₁₆ C₁₆ st₁₆ O₁₆
          refine Xs.nil (Xs.nil ⟨0, by lia, i₂, _, _, f, by lia, J₁₄, Eq.trans upd_ne hr₉, by rw [hd]; exact Nat.zero_le _, ?_, fun h => absurd h (by lia)⟩)
          rw [hd, ← htot]
          have : segs f [] = [] := by cases f <;> rfl
          rw [this]
          simp
      · have hin : i₂ < els.length := by have := of_decide_eq_false hc; lia
        have hd : els.drop i₂ ≠ [] := by rw [drop_cons hin]; exact List.cons_ne_nil _ _
        rw [if_neg hd] at htot
        have J₁₂ := J₁₁.at a57 k₁₄
        have p₁₄ := (vS (T fx.flatten)).mono (k₁₄.vis _) p₁₃
        refine Xs.cons (Xs.addB J₁₂.F J₁₂.C J₁₂.eA (.head _) f0 aE J₁₂.own (P := vS (T ([40, 63, 62, 46, 42, 63] ++ fx.flatten ++ [41]))) ?_ (by rw [List.length_map]; exact plen) (fun s₁₅ F₁₅ C₁₅ st₁₅ O₁₅ => ?_) rfl rfl rfl)
        · refine (Ev.fstr3 (Ev.name (J₁₂.F.var (x := "fixed") upd_eq) p₁₄) ?_).imp fun h v q => ?_
          · have : (T fx.flatten).length = fx.flatten.length := by simp [Str.length]
            rw [this]
            exact Nat.le_trans (show 6 + _ + 1 ≤ 100007 by lia) (by decide)
          · have e : Str.empty ++ Str.ofString "(?>.*?" ++ T fx.flatten ++ Str.ofString ")" = T ([40, 63, 62, 46, 42, 63] ++ fx.flatten ++ [41]) := by
              show (⟨((#[] ++ (Str.ofString "(?>.*?").cps) ++ fx.flatten.toArray) ++ (Str.ofString ")").cps⟩ : Str) = _
              have e1 : (Str.ofString "(?>.*?").cps = #[40, 63, 62, 46, 42, 63] := by decide
              have e2 : (Str.ofString ")").cps = #[41] := by decide
              rw [e1, e2]
              simp
            rw [e] at q
            exact q
        · have J₁₃ := J₁₂.push F₁₅ C₁₅ st₁₅ O₁₅
          refine Xs.nil (Xs.nil ⟨els.length - i₂, by lia, i₂, _, _, f, by lia, J₁₃, Eq.trans upd_ne hr₉, ?_, ?_, he₂⟩)
          · have hf' := hf
            rw [List.length_drop] at hf' ⊢
            lia
          · rw [← htot]
            simp
  · have hge : i = els.length := by have := of_decide_eq_false hb; lia
    have J₃ := J₂.at a57 k₆
    have hd : els.drop i = [] := by rw [hge]; exact List.drop_length
    rw [hd] at htot
    have : segs f [] = [] := by cases f <;> rfl
    rw [this, List.append_nil] at htot
    rw [htot, hge] at J₃
    exact ⟨m, J₃, hr₂⟩
end
end Mine
set_option maxRecDepth 100000
namespace Mine
open PySem PySem.W PyProof.Rows PySem.Calls PySem.Spec
section
variable {ro : Nat} {prog : Program} {w : World} {A : Around} {Mut M : List Addr} {s₀ s₁ s : Shared} {env : Env} {H : Heap} {mg mb : Str → Option Value}
open PySem.Builtin PySem.Builtin.Str
theorem sub_key : isSubtype (.type "KeyError") (.type "LookupError") = pure true := by rw [isSubtype_type]; kernel_rfl
theorem lookup_keep {E : Value → Shared → Prop} {Q : Mapped → Shared → Prop} {f : Int → Option Value} {c : Nat} (hh : A.handled = none) (hm : s.heap.MapOf (intKind prog w) 45 f) (hv : f (c : Int) = none)
    (h : ∀ h' tk, (∀ b o, s.heap.get? b = some o → h'.get? b = some o) → s.toks ≤ tk → Q .keep { s with heap := h', toks := tk }) : wpAny (model prog w) A (tableLookup (.ref 45) c) Q E s := by
  unfold tableLookup
  refine wpAny_bind ?_
  refine wpAny_attempt ?_
  refine wpAny_bind (wpAny_mkInt ?_)
  refine wpAny_getItem_missing_of (knd := intKind prog w) (k := (c : Int)) (intKind_is prog w _ _) (by decide) hh hm hv fun h' e hx => ?_
  dsimp only
  obtain ⟨ob, t, h1, h2, _⟩ := hx.there
  have hT : ({ s with heap := h', toks := s.toks + 1 + 1 } : Shared).TypeIs (.ref e) "KeyError" := ⟨ob, h1, h2⟩
  refine wpAny_bind (wpAny_isInstance hT sub_key ?_)
  rw [if_pos rfl]
  exact wpAny_bind (wpAny_rule (wpAny_pure (h h' _ hx.keeps (Nat.le_trans (Nat.le_succ _) (Nat.le_succ _)))))
theorem op_translate {f : Int → Option Value} {c : Nat} {v : Value} (C : Cx ν ro A Mut H s) (hc : c < 1000) (hm : H.MapOf (intKind prog w) 45 f) (hv : f (c : Int) = none) (p : (vS (T [c])).on (vis ν Mut s.heap) v) : Op ν prog w A Mut s (call (.builtin "str.translate") [v, .ref 45]) (vS (T [c])) := .mk fun E => by
  obtain ⟨t, rfl⟩ := p
  have hm' : s.heap.MapOf (intKind prog w) 45 f := by
    obtain ⟨o, es, ep, h1, h2⟩ := hm
    exact ⟨o, es, ep, (C.base.trans vis_le) _ _ h1, h2⟩
  refine wpAny_call_entry PySem.F.slot_str_translate (typeIs_str _ _ _) PySem.F.entry_str_translate ?_ (PySem.F.args_str_translate_2 _ _)
  have e1 : strOneArg "translate" ⟨[.str (T [c]) t, .ref 45], []⟩ = pure (.str (T [c]) t, T [c], .ref 45) := by first | rfl | kernel_rfl
  unfold Builtin.«str.translate»
  rw [e1]
  refine wpAny_bind (wpAny_pure ?_)
  dsimp only
  have e2 : ((T [c]).length == 0) = false := rfl
  rw [e2]
  rw [if_neg Bool.false_ne_true]
  have hl : tooLong 0 = false := by decide
  have hl1 : tooLong (0 + 1) = false := by decide
  have key : ∀ (E' : Value → Shared → Prop) (Q' : Mapped → Shared → Prop), (∀ h' tk, (∀ b o, s.heap.get? b = some o → h'.get? b = some o) → s.toks ≤ tk → Q' .keep { s with heap := h', toks := tk }) → wpAny (model prog w) A.in1 (tableLookup (.ref 45) c) Q' E' s := fun E' Q' hq => lookup_keep (A := A.in1) C.hh hm' hv hq
  refine wpAny_bind ?_
  show wpAny _ _ (forIn [c].toArray _ _) _ _ _
  rw [List.forIn_toArray, List.forIn_cons]
  refine wpAny_bind ?_
  rw [hl, if_neg Bool.false_ne_true]
  by_cases hf : ((T [c]).cps.all fun x => decide (x < 128)) = true
  · rw [if_pos hf]
    show wpAny _ _ (tableLookup (.ref 45) c >>= _) _ _ _
    refine wpAny_bind ?_
    apply key
    intro h' tk hk ht
    dsimp only
    refine wpAny_bind (wpAny_pure ?_)
    dsimp only
    refine wpAny_pure ?_
    dsimp only
    rw [List.forIn_nil]
    refine wpAny_pure ?_
    rw [hl1, if_neg Bool.false_ne_true]
    exact wpAny_bind (wpAny_mkStr (wpAny_pure ⟨_, rfl, Kp.both (Fl.le hk) (Nat.le_trans ht (Nat.le_succ _)), _, rfl⟩) (show 1 ≤ sizeLine by decide))
  · rw [if_neg hf]
    rw [if_neg Bool.false_ne_true]
    refine wpAny_bind ?_
    apply key
    intro h' tk hk ht
    dsimp only
    refine wpAny_pure ?_
    dsimp only
    rw [List.forIn_nil]
    refine wpAny_pure ?_
    rw [hl1, if_neg Bool.false_ne_true]
    exact wpAny_bind (wpAny_mkStr (wpAny_pure ⟨_, rfl, Kp.both (Fl.le hk) (Nat.le_trans ht (Nat.le_succ _)), _, rfl⟩) (show 1 ≤ sizeLine by decide))
end
end Mine
set_option maxRecDepth 10000
namespace Mine
open PySem PySem.W PyProof.Rows PySem.Calls PySem.Spec
structure SMap (prog : Program) (w : World) (H : Heap) (mg : Str → Option Value) (ok : Nat → Prop) : Prop where
  g : mg "_special_chars_map" = some (.ref 45)
  f : ∃ f, H.MapOf (intKind prog w) 45 f ∧ ∀ c, ok c → f (c : Int) = none
  lt : ∀ c, ok c → c < 1000
  cls : ∃ o, H.get? 45 = some o ∧ o.cls = .type "dict"
  t : 0 < H.life.soft
section
variable {ro : Nat} {prog : Program} {w : World} {A : Around} {Mut M : List Addr} {s₀ s₁ s : Shared} {env : Env} {H : Heap} {mg mb : Str → Option Value} {ok : Nat → Prop}
theorem escape_ok (B : Base H mg mb) (S : SMap prog w H mg ok) (C : Cx ν (ro + 1) A Mut H s) {c : Nat} {v : Value} (hc : ok c) (p : (vS (T [c])).on (vis ν Mut s.heap) v) :
    Op ν prog w A Mut s (call (.ref 55) [v]) (vS (T [c])) := by
  refine fn_call C (B.df 1) (binds := [("pattern", v)]) (fun _ _ _ => rfl) (fun _ x hx => .inl (by rw [List.mem_singleton.mp hx]; rfl)) (fun L cd s' F C' fl => ?_) (by decide)
  have nm : ∀ {p1 : Pos} {s₂ : Shared}, Kp ν s' s₂ → Ev ν prog w (A.deeper (envOfC "escape" (fScope (nth 6)) L 55 cd)) (Env.mut (envOfC "escape" (fScope (nth 6)) L 55 cd) ++ Mut) s₂ (eval (.Name "pattern" p1) (envOfC "escape" (fScope (nth 6)) L 55 cd)) (vS (T [c])) := fun k => (Ev.name (F.var (x := "pattern") rfl) ((vS _).mono fl p)).at k
  refine Xs.cons (Xs.if (b := true) (Eb.bool (Mut := Env.mut (envOfC "escape" (fScope (nth 6)) L 55 cd) ++ Mut) (Ev.callN (Ps := [vS (T [c]), vV (.type "str")]) (B.bn C' 10) Kept.builtin (Es.cons (nm (Kp.refl _)) (Es.cons (B.bn C' 9) Es.nil)) fun vs s₂ k q => ?_)) (fun _ s₂ k₂ => ?_) (fun h => by cases h))
  · obtain ⟨w1, _, rfl, ⟨t, rfl⟩, w2, _, rfl, r2, rfl⟩ := q
    obtain rfl : w2 = .type "str" := r2
    exact .mk fun E => IsiPair.str_str ⟨Kp.refl _, rfl⟩
  · have C₂ := C'.at k₂
    refine Xs.cons (Xs.ret (P := vS (T [c])) ?_ fun v s'' k pv => ⟨v, rfl, F.k.trans (k₂.trans k), pv⟩)
    refine Ev.meth (Po := vS (T [c])) (Ps := [vV (.ref 45)]) PySem.F.plainAttrs_str PySem.F.slot_str_translate PySem.F.type_str_translate (nm k₂) (fun v s k q => ?_) (Es.cons (Ev.global (B.ns.keeps C₂.base) S.g rfl) Es.nil) fun v vs s₃ k q r => ?_
    · obtain ⟨t, rfl⟩ := q
      exact ⟨typeIs_str _ _ _, fun a e => by cases e⟩
    · obtain ⟨w1, _, rfl, r1, rfl⟩ := r
      obtain rfl : w1 = .ref 45 := r1
      obtain ⟨f, hm, hf⟩ := S.f
      exact op_translate (C₂.at k) (S.lt c hc) hm (hf c hc) q
end
end Mine
set_option maxRecDepth 10000
namespace Mine
open PySem PySem.W PyProof.Rows PySem.Calls PySem.Spec
namespace Q
open PySem.Sre
noncomputable def code : Array Nat := #[14, 8, 1, 3, 3, 1, 1, 61, 0, 16, 61, 24, 16, 2, 2, 13, 11, 9, 0, 67043328, 126, 126, 0, 0, 0, 0, 0, 1, 1]
noncomputable def att (text : Array Nat) (lim s : Nat) (first : Bool) (seen : Sre.Seen) : M :=
  { code := code, text := text, lim := lim, start := s, lastStart := lim, pc := 9, pos := s, handed := s, outermost := first, marks := #[],
    frames := [{ wait := .nextStart, pc := 9, pos := s, outermost := first }], weight := 1, seen := seen }
theorem search_att (text : Array Nat) (p lim : Nat) (h : p + 3 ≤ lim) : forSearch code text 0 p lim false = att text lim p true (({} : Sre.Seen).add 14) := by
  unfold forSearch
  have e1 : (header code).1 = 3 := by decide
  have e2 : (header code).2 = 9 := by decide
  have e3 : ((header code).2 != 0 && code.getD 2 0 &&& 5 != 0) = true := by decide
  simp only [e1, e3]
  rw [if_neg (by simp; lia)]
  rfl
theorem search_short (text : Array Nat) (p lim : Nat) (h : ¬ p + 3 ≤ lim) : (forSearch code text 0 p lim false).answer = some false ∧ (forSearch code text 0 p lim false).frames = [] ∧ (forSearch code text 0 p lim false).outcome.isSome = false := by
  unfold forSearch
  have e1 : (header code).1 = 3 := by decide
  simp only [e1]
  rw [if_pos (by simp; lia)]
  exact ⟨rfl, rfl, rfl⟩
theorem miss (text : Array Nat) (lim s : Nat) (first : Bool) (seen : Sre.Seen) (hs : s < lim) (hc : text.getD s 0 ≠ 61) : (att text lim s first seen).step.step = att text lim (s + 1) false (seen.add 16) := by
  have e1 : (att text lim s first seen).step = { att text lim s first (seen.add 16) with answer := some false } := by
    show M.exec (att text lim s first seen) = _
    show (if s ≥ lim then _ else _) = _
    rw [if_neg (by lia)]
    show (match accepts code 9 (text.getD s 0) (seen.add 16) with | .error why => _ | .ok (false, seen) => _ | .ok (true, seen) => _) = _
    have : accepts code 9 (text.getD s 0) (seen.add 16) = .ok (false, seen.add 16) := by
      show Except.ok (text.getD s 0 == 61, seen.add 16) = _
      rw [beq_eq_false_iff_ne.mpr hc]
    rw [this]
    rfl
  rw [e1]
  show (if s < lim then _ else _) = _
  rw [if_pos hs]
  rfl
theorem over (text : Array Nat) (lim : Nat) (first : Bool) (seen : Sre.Seen) : ((att text lim lim first seen).step.step.step).outcome = some .failed := by
  have e1 : (att text lim lim first seen).step = { att text lim lim first (seen.add 16) with answer := some false } := by
    show (if lim ≥ lim then _ else _) = _
    rw [if_pos (Nat.le_refl _)]
    rfl
  rw [e1]
  have e2 : ({ att text lim lim first (seen.add 16) with answer := some false } : M).step = { att text lim lim first (seen.add 16) with answer := some false, frames := [], weight := 0 } := by
    show (if lim < lim then _ else _) = _
    rw [if_neg (Nat.lt_irrefl _)]
    rfl
  rw [e2]
  rfl
theorem hexSet (d : Nat) (hd : d < 16) (seen : Sre.Seen) : accepts code 15 (hx d) seen = .ok (true, seen.add 9) := by
  have key : ∀ d : Fin 16, (decide (hx d.val < 256) && (code.getD (17 + (1 + hx d.val / 32)) 0).testBit (hx d.val % 32)) = true := by decide
  have k := key ⟨d, hd⟩
  show (if (decide (hx d < 256) && (code.getD (17 + (1 + hx d / 32)) 0).testBit (hx d % 32)) = true then Except.ok (true, seen.add 9) else _) = _
  rw [if_pos k]
theorem runTwo (text : Array Nat) (p a b : Nat) (ha : a < 16) (hb : b < 16) (h1 : text.getD p 0 = hx a) (h2 : text.getD (p + 1) 0 = hx b) (seen : Sre.Seen) : run code text 15 2 p 0 seen = .ok (2, (seen.add 9).add 9) := by
  show (do let (yes, seen) ← accepts code 15 (text.getD p 0) seen; if yes then run code text 15 1 (p + 1) (0 + 1) seen else pure (0, seen)) = _
  rw [h1, hexSet a ha]
  show (do let (yes, seen) ← accepts code 15 (text.getD (p + 1) 0) (seen.add 9); if yes then run code text 15 0 (p + 1 + 1) (0 + 1 + 1) seen else pure (0 + 1, seen)) = _
  rw [h2, hexSet b hb]
  rfl
noncomputable def st1 (text : Array Nat) (lim s : Nat) (first : Bool) (seen : Sre.Seen) : M :=
  { code := code, text := text, lim := lim, start := s, lastStart := lim, pc := 11, pos := s + 1, handed := s, outermost := first, marks := #[],
    frames := [{ wait := .nextStart, pc := 9, pos := s, outermost := first }], weight := 1, seen := seen }
noncomputable def st2 (text : Array Nat) (lim s : Nat) (first : Bool) (seen : Sre.Seen) (an : Option Bool) : M :=
  { code := code, text := text, lim := lim, start := s, lastStart := lim, pc := 28, pos := s + 3, handed := s + 3, outermost := first, marks := #[],
    frames := [{ wait := .giveBack, pc := 11, pos := s + 3, outermost := first, count := 2 }, { wait := .nextStart, pc := 9, pos := s, outermost := first }], weight := 2, seen := seen, answer := an }
theorem hit (text : Array Nat) (lim s a b : Nat) (first : Bool) (seen : Sre.Seen) (hs : s + 3 ≤ lim) (hc : text.getD s 0 = 61) (ha : a < 16) (hb : b < 16) (h1 : text.getD (s + 1) 0 = hx a) (h2 : text.getD (s + 2) 0 = hx b) :
    ∃ m : M, ((att text lim s first seen).step.step.step.step.step.step) = m ∧ m.outcome = some .matched ∧ m.start = s ∧ m.handed = s + 3 ∧ m.lastmark = -1 ∧ m.lastindex = -1 := by
  have e1 : (att text lim s first seen).step = st1 text lim s first (seen.add 16) := by
    show (if s ≥ lim then _ else _) = _
    rw [if_neg (by lia)]
    show (match accepts code 9 (text.getD s 0) (seen.add 16) with | .error why => _ | .ok (false, seen) => _ | .ok (true, seen) => _) = _
    have : accepts code 9 (text.getD s 0) (seen.add 16) = .ok (true, seen.add 16) := by
      show Except.ok (text.getD s 0 == 61, seen.add 16) = _
      rw [hc]; rfl
    rw [this]
    rfl
  rw [e1]
  generalize hs2 : ((seen.add 16).add 24).add (code.getD 15 0) = sn
  have e2 : (st1 text lim s first (seen.add 16)).step = st2 text lim s first ((sn.add 9).add 9) none := by
    show (if ((2 : Nat) : Int) > ((lim : Int) - ((s + 1 : Nat) : Int)) then _ else _) = _
    rw [if_neg (by lia)]
    show (match run code text 15 (min 2 ((lim : Int) - ((s + 1 : Nat) : Int)).toNat) (s + 1) 0 (((seen.add 16).add 24).add (code.getD 15 0)) with | .error why => _ | .ok (n, seen) => _) = _
    have hm : min 2 ((lim : Int) - ((s + 1 : Nat) : Int)).toNat = 2 := by lia
    rw [hm, runTwo text (s + 1) a b ha hb h1 h2, hs2]
    rfl
  rw [e2]
  have e3 : (st2 text lim s first ((sn.add 9).add 9) none).step = st2 text lim s first (((sn.add 9).add 9).add 1) (some true) := by
    show (if (first && ((false && ((s + 3) != lim)) || (false && ((s + 3) == s)))) = true then _ else _) = _
    have : (first && ((false && ((s + 3) != lim)) || (false && ((s + 3) == s)))) = false := by cases first <;> rfl
    rw [if_neg (by rw [this]; decide)]
    rfl
  rw [e3]
  exact ⟨_, rfl, rfl, rfl, rfl, rfl, rfl⟩
end Q
end Mine
set_option maxRecDepth 10000
namespace Mine
open PySem PySem.W PyProof.Rows PySem.Calls PySem.Spec
namespace Q
open PySem.Sre PySem.Builtin.Re
noncomputable def go (n : Nat) (m : M) : M := match n with | 0 => m | n + 1 => go n m.step
theorem step_id {m : M} (h : m.outcome.isSome = true) : m.step = m := by unfold M.step; rw [if_pos h]
theorem go_id {m : M} (h : m.outcome.isSome = true) : ∀ n, go n m = m
  | 0 => rfl
  | n + 1 => by show go n m.step = m; rw [step_id h]; exact go_id h n
theorem go_add (a b : Nat) (m : M) : go (a + b) m = go b (go a m) := by
  induction a generalizing m with
  | zero => rw [Nat.zero_add]; rfl
  | succ a ih => rw [Nat.succ_add]; exact ih m.step
theorem runFor_go : ∀ (n : Nat) (m : M), M.runFor n m = go n m
  | 0, m => rfl
  | n + 1, m => by
    show (if m.outcome.isSome then m else M.runFor n m.step) = go n m.step
    by_cases h : m.outcome.isSome = true
    · rw [if_pos h, step_id h, go_id h]
    · rw [if_neg h]; exact runFor_go n _
section
variable {Mo : Model} {A : Around} {E : Value → Shared → Prop} {s : Shared}
theorem drive {Q : M → Shared → Prop} : ∀ (t n : Nat) (m : M), 0 < t → n ≤ 4 * t → (go n m).outcome.isSome = true → Q (go n m) s → wpAny Mo A (reDrive t m) Q E s
  | 0, _, _, h, _, _, _ => absurd h (Nat.lt_irrefl _)
  | t + 1, n, m, _, hn, ho, hq => by
    show wpAny Mo A (if (m.runFor 4).outcome.isSome then pure (m.runFor 4) else do rule "sre.turn"; reDrive t (m.runFor 4)) Q E s
    rw [runFor_go]
    by_cases h : (go 4 m).outcome.isSome = true
    · rw [if_pos h]
      have : go 4 m = go n m := by
        by_cases hle : n ≤ 4
        · have := go_add n (4 - n) m
          rw [show n + (4 - n) = 4 by lia, go_id ho] at this
          exact this
        · have := go_add 4 (n - 4) m
          rw [show 4 + (n - 4) = n by lia, go_id h] at this
          exact this.symm
      rw [this]
      exact wpAny_pure hq
    · rw [if_neg h]
      have hgt : 4 < n := by
        rcases Nat.lt_or_ge 4 n with h' | h'
        · exact h'
        · have := go_add n (4 - n) m
          rw [show n + (4 - n) = 4 by lia, go_id ho] at this
          rw [this] at h
          exact absurd ho h
      have e := go_add 4 (n - 4) m
      rw [show 4 + (n - 4) = n by lia] at e
      rw [e] at ho hq
      exact wpAny_bind (wpAny_rule (drive t (n - 4) (go 4 m) (by lia) (by lia) ho hq))
theorem rules_run {f : Nat → Unit → Sem (ForInStep Unit)} (hf : ∀ i (Q : ForInStep Unit → Shared → Prop), Q (.yield ()) s → wpAny Mo A (f i ()) Q E s) {Q : Unit → Shared → Prop} (hq : Q () s) : ∀ l : List Nat, wpAny Mo A (forIn l () f) Q E s
  | [] => wpAny_pure hq
  | i :: r => by
    rw [List.forIn_cons]
    exact wpAny_bind (hf i _ (rules_run hf hq r))
theorem toEnd {Q : Option M → Shared → Prop} (m : M) (n : Nat) (hn : n < 1000) (ho : (go n m).outcome.isSome = true)
    (h1 : (go n m).outcome = some .matched → Q (some (go n m)) s) (h2 : (go n m).outcome = some .failed → Q none s) (h3 : (go n m).outcome = some .matched ∨ (go n m).outcome = some .failed) : wpAny Mo A (reRunToEnd m) Q E s := by
  unfold reRunToEnd
  refine wpAny_bind (drive _ n m (by decide) (by lia) ho ?_)
  refine wpAny_bind (rules_run (fun i Q hq => ?_) ?_ _)
  · split
    · exact wpAny_bind (wpAny_rule (wpAny_pure hq))
    · exact wpAny_pure hq
  rcases h3 with h | h
  · rw [h]; exact wpAny_pure (h1 h)
  · rw [h]; exact wpAny_pure (h2 h)
end
end Q
end Mine
set_option maxRecDepth 100000
namespace Mine
open PySem PySem.W PyProof.Rows PySem.Calls PySem.Spec
namespace RF
theorem plainAttrs_pat : PlainAttrs "re.Pattern" :=
  ⟨⟨"object.__getattribute__", by rw [typeLookup_type, builtinLookup_eq_fast]; kernel_rfl, by decide +kernel⟩, by rw [typeLookup_type, builtinLookup_eq_fast]; kernel_rfl⟩
theorem owner_pat : Manifest.owners.lookup (String.ofList ['n', 'r', 'e', 't', 't', 'a', 'P', '.', 'e', 'r'].reverse) = some Manifest.sig_re_Pattern := by kernel_rfl
theorem slot_sub : Slot "re.Pattern" "sub" "re.Pattern.sub" :=
  .of (owner := "re.Pattern") (n := "sub") (by rw [typeLookup_type, builtinLookup_eq_fast]; kernel_rfl) (by decide +kernel) (by decide +kernel) (by decide +kernel)
    (by first | exact .inl (by decide +kernel) | exact .inr (by decide +kernel)) (by rw [isSubtype_type]; kernel_rfl)
theorem type_sub : typeOf (.builtin "re.Pattern.sub") = pure (.type "method_descriptor") := by show builtinType _ = _; rw [builtinType_eq_fast]; kernel_rfl
theorem entry_sub : entryFor table "re.Pattern.sub" = some Builtin.«re.Pattern.sub» := entryFor_of_tree (by kernel_rfl)
theorem entry_loop : entryFor table "re.Pattern.sub.loop" = some Builtin.«re.Pattern.sub.loop» := entryFor_of_tree (by kernel_rfl)
theorem plain_loop : plainId "re.Pattern.sub.loop" = true := by decide +kernel
theorem args_sub (a b c : Value) : argsOk "re.Pattern.sub" ⟨[a, b, c], []⟩ := by
  unfold argsOk; rw [signature?_of (id := "re.Pattern.sub") (n := ['b', 'u', 's']) (o := ['n', 'r', 'e', 't', 't', 'a', 'P', '.', 'e', 'r']) (by kernel_rfl) owner_pat]; kernel_rfl
theorem plainAttrs_match : PlainAttrs "re.Match" :=
  ⟨⟨"object.__getattribute__", by rw [typeLookup_type, builtinLookup_eq_fast]; kernel_rfl, by decide +kernel⟩, by rw [typeLookup_type, builtinLookup_eq_fast]; kernel_rfl⟩
theorem owner_match : Manifest.owners.lookup (String.ofList ['h', 'c', 't', 'a', 'M', '.', 'e', 'r'].reverse) = some Manifest.sig_re_Match := by kernel_rfl
theorem slot_group : Slot "re.Match" "group" "re.Match.group" :=
  .of (owner := "re.Match") (n := "group") (by rw [typeLookup_type, builtinLookup_eq_fast]; kernel_rfl) (by decide +kernel) (by decide +kernel) (by decide +kernel)
    (by first | exact .inl (by decide +kernel) | exact .inr (by decide +kernel)) (by rw [isSubtype_type]; kernel_rfl)
theorem type_group : typeOf (.builtin "re.Match.group") = pure (.type "method_descriptor") := by show builtinType _ = _; rw [builtinType_eq_fast]; kernel_rfl
theorem entry_group : entryFor table "re.Match.group" = some Builtin.«re.Match.group» := entryFor_of_tree (by kernel_rfl)
theorem args_group (a b : Value) : argsOk "re.Match.group" ⟨[a, b], []⟩ := by
  unfold argsOk; rw [signature?_of (id := "re.Match.group") (n := ['p', 'u', 'o', 'r', 'g']) (o := ['h', 'c', 't', 'a', 'M', '.', 'e', 'r']) (by kernel_rfl) owner_match]; kernel_rfl
end RF
noncomputable def vM (text : Str) (b e : Nat) : VP := ⟨fun h v => ∃ a u x1 x2 x3 x4 tu n, v = .ref a ∧ h.get? a = some { cls := .type "re.Match", data := .fields #[.str text u, x1, x2, x3, x4, .ref tu] } ∧
  h.get? tu = some { cls := .type "tuple", data := .seq #[rawInt b, rawInt e] n }, fun k ⟨a, u, x1, x2, x3, x4, tu, n, e1, e2, e3⟩ => ⟨a, u, x1, x2, x3, x4, tu, n, e1, k _ _ e2, k _ _ e3⟩⟩
section
variable {ro : Nat} {prog : Program} {w : World} {A : Around} {Mut : List Addr} {s₁ s : Shared} {env : Env} {H : Heap} {mg mb : Str → Option Value}
open PySem.Builtin.Re
theorem wpAny_fields {M : Model} {E : Value → Shared → Prop} {Q : Array Value → Shared → Prop} {a : Addr} {o : Obj} {vs : Array Value} (ho : s.heap.get? a = some o) (hd : o.data = .fields vs) (h : Q vs s) : wpAny M A (fieldsOf (.ref a)) Q E s := by
  unfold fieldsOf
  refine wpAny_bind (wpAny_load ho ?_)
  rw [hd]
  exact wpAny_pure h
theorem wpAny_rawItems {M : Model} {E : Value → Shared → Prop} {Q : Array Int → Shared → Prop} {a : Addr} {o : Obj} {xs : Array Value} {n : Nat} (ho : s.heap.get? a = some o) (hd : o.data = .seq xs n) (h : Q (xs.map reRawOf) s) : wpAny M A (reRawItems (.ref a)) Q E s := by
  unfold reRawItems
  exact wpAny_bind (wpAny_seqItems ho hd (wpAny_pure h))
theorem groupNum {M : Model} {E : Value → Shared → Prop} {Q : Nat → Shared → Prop} {fs : Array Value} {b e : Int} {t : Tok} (h : Q 0 s) : wpAny M A (reGroupNumber { fields := fs, spans := #[b, e] } (.int 0 t)) Q E s := by
  obtain ⟨hp, g, d, tk, os⟩ := s
  unfold reGroupNumber
  wp_walk
  exact h
theorem group_eq (v u : Value) : Builtin.«re.Match.group» ⟨[v, u], []⟩ = (do
    let x ← reFound v
    let g ← reGroupNumber x u
    let r ← reGroupText x g .none
    ret r) := by kernel_rfl
theorem groupText {M : Model} {E : Value → Shared → Prop} {Q : Value → Shared → Prop} {text : Str} {u : Tok} {x1 x2 x3 x4 x5 : Value} {b e : Nat} (hl : text.length ≤ sizeLine) (h : Q (.str ⟨text.cps.extract b e⟩ s.toks) { s with toks := s.toks + 1 }) :
    wpAny M A (reGroupText { fields := #[.str text u, x1, x2, x3, x4, x5], spans := #[(b : Int), (e : Int)] } 0 .none) Q E s := by
  have e1 : reGroupText { fields := #[.str text u, x1, x2, x3, x4, x5], spans := #[(b : Int), (e : Int)] } 0 .none = (if ((b : Int) < 0 || (e : Int) < 0) = true then pure .none else do
    let (text, kind) ← reTextOf (.str text u)
    reSlice text kind (b : Int).toNat (e : Int).toNat) := rfl
  rw [e1, if_neg (by simp)]
  have e2 : reTextOf (.str text u) = pure (text.cps, 0) := rfl
  rw [e2]
  refine wpAny_bind (wpAny_pure ?_)
  have e3 : reSlice text.cps 0 (b : Int).toNat (e : Int).toNat = mkStr ⟨text.cps.extract b e⟩ := rfl
  show wpAny _ _ (reSlice text.cps 0 (b : Int).toNat (e : Int).toNat) _ _ _
  rw [e3]
  refine wpAny_mkStr h ?_
  show (text.cps.extract b e).size ≤ _
  have : (text.cps.extract b e).size ≤ text.cps.size := by simp; lia
  exact Nat.le_trans this hl
theorem op_group0 {text : Str} {b e : Nat} {v u : Value} (hl : text.length ≤ sizeLine) (p : (vM text b e).on (vis ν Mut s.heap) v) (q : (vI 0).on (vis ν Mut s.heap) u) : Op ν prog w A Mut s (call (.builtin "re.Match.group") [v, u]) (vS ⟨text.cps.extract b e⟩) := .mk fun E => by
  obtain ⟨a, u', x1, x2, x3, x4, tu, n, rfl, h1, h2⟩ := p
  obtain ⟨t, rfl⟩ := q
  have g1 := vis_le _ _ h1
  have g2 := vis_le _ _ h2
  have key : wpAny (model prog w) A.in1 (Builtin.«re.Match.group» ⟨[.ref a, .int 0 t], []⟩) (fun fin s' => ∃ v, fin = .done (.ret v) ∧ (Kp ν s s' ∧ (vS ⟨text.cps.extract b e⟩).on (vis ν Mut s'.heap) v)) E s := by
    rw [group_eq]
    refine wpAny_bind ?_
    unfold reFound
    refine wpAny_bind (wpAny_fields g1 rfl (wpAny_bind ?_))
    show wpAny _ _ (reRawItems (.ref tu)) _ _ _
    refine wpAny_rawItems g2 rfl (wpAny_pure ?_)
    have em : (#[rawInt b, rawInt e] : Array Value).map reRawOf = #[(b : Int), (e : Int)] := by simp [reRawOf, rawInt]
    rw [em]
    refine wpAny_bind ?_
    apply groupNum
    refine wpAny_bind ?_
    apply groupText hl
    exact wpAny_pure ⟨_, rfl, Kp.tok, _, rfl⟩
  exact wpAny_call_entry RF.slot_group ⟨_, g1, rfl⟩ RF.entry_group key (RF.args_group _ _)
end
end Mine
set_option maxRecDepth 100000
namespace Mine
open PySem PySem.W PyProof.Rows PySem.Calls PySem.Spec
structure QPat (h : Heap) : Prop where
  pat : ∃ x1 x2, h.get? 74 = some { cls := .type "re.Pattern", data := .fields #[x1, x2, .int 0 0, .none, .none, .ref 73, .int 0 0] }
  code : ∃ n, h.get? 73 = some { cls := .type "tuple", data := .seq (Q.code.map fun (k : Nat) => .int (k : Int) 0) n }
theorem QPat.keep {h h' : Heap} (x : QPat h) (k : Fl h h') : QPat h' :=
  ⟨let ⟨x1, x2, e⟩ := x.pat; ⟨x1, x2, k _ _ e⟩, let ⟨n, e⟩ := x.code; ⟨n, k _ _ e⟩⟩
section
variable {ro : Nat} {prog : Program} {w : World} {A : Around} {Mut : List Addr} {s₁ s : Shared} {env : Env} {H : Heap} {mg mb : Str → Option Value}
open PySem.Builtin.Re
theorem unquote_match_ok (B : Base H mg mb) (C : Cx ν (ro + 2) A Mut H s) {text : Str} {b e c : Nat} {v : Value} (hl : text.length ≤ sizeLine) (hc : c < 256) (he : (⟨text.cps.extract b e⟩ : Str) = hex2 c) (p : (vM text b e).on (vis ν Mut s.heap) v) :
    Op ν prog w A Mut s (call (.ref 116) [v]) (vS (T [c])) := by
  refine fn_call C (B.df 6) (binds := [("match", v)]) (fun _ _ _ => rfl) (fun _ x hx => .inl (by rw [List.mem_singleton.mp hx]; rfl)) (fun L cd s' F C' fl => ?_) (by decide)
  have hM' : ∀ a ∈ Env.mut (envOfC "_unquote_match" (fScope (nth 27)) L 116 cd), a ∈ Env.mut (envOfC "_unquote_match" (fScope (nth 27)) L 116 cd) ++ Mut := fun a ha => List.mem_append_left _ ha
  refine Xs.cons (Xs.assign F C' (hM' _ (.head _)) (P := vS (hex2 c)) ?_ fun v₁ s₁ F₁ C₁ st₁ p₁ => ?_)
  · refine Ev.meth (Po := vM text b e) RF.plainAttrs_match RF.slot_group RF.type_group (Ev.name (F.var (x := "match") rfl) ((vM text b e).mono fl p)) (fun v s k q => ?_) (Es.cons Ev.cInt Es.nil) fun v vs s₂ k q r => ?_
    · obtain ⟨a, u, x1, x2, x3, x4, tu, n, rfl, h1, h2⟩ := q
      have g1 := vis_le _ _ h1
      exact ⟨⟨_, g1, rfl⟩, fun a' e => by cases e; exact ⟨_, g1, rfl⟩⟩
    · obtain ⟨w1, _, rfl, r1, rfl⟩ := r
      have := op_group0 (prog := prog) (w := w) (A := A.deeper (envOfC "_unquote_match" (fScope (nth 27)) L 116 cd)) hl q r1
      rw [he] at this
      exact this
  · refine Xs.cons (Xs.ret (P := vS (T [c])) ?_ fun v₂ s₂ k₂ p₂ => ⟨v₂, rfl, F₁.k.trans k₂, p₂⟩)
    refine Ev.callN (Ps := [vS (hex2 c)]) (B.fn C₁ 4) (B.kept C₁ 4) (Es.cons (Ev.name (F₁.var (x := "s") upd_eq) p₁) Es.nil) fun vs s₂ k₂ q => ?_
    obtain ⟨w1, _, rfl, r1, rfl⟩ := q
    exact unquote_ok B (C₁.at k₂) hc r1
noncomputable def tgt74 (text : Str) (u : Tok) : ReTarget := { pattern := .ref 74, string := .str text u, code := Q.code, text := text.cps, kind := 0, groups := 0, pos := 0, lim := text.cps.size }
theorem whole {M : Model} {E : Value → Shared → Prop} {Q' : ReTarget → Shared → Prop} {text : Str} {u : Tok} (q : QPat s.heap) (h : Q' (tgt74 text u) s) : wpAny M A (reWholeTarget (.ref 74) (.str text u)) Q' E s := by
  obtain ⟨⟨x1, x2, e1⟩, n, e2⟩ := q
  unfold reWholeTarget
  refine wpAny_bind (wpAny_fields e1 rfl ?_)
  have e3 : reTextOf (.str text u) = pure (text.cps, 0) := rfl
  rw [e3]
  refine wpAny_bind (wpAny_pure ?_)
  have ec : ((Q.code.map fun (k : Nat) => Value.int (k : Int) 0).map reRawOf).map (·.toNat) = Q.code := by simp [Q.code, reRawOf]
  show wpAny _ _ (reNoCollectionInside (.str text u) 0 >>= fun _ => reRawItems (.ref 73) >>= fun l => (pure ({ pattern := .ref 74, string := .str text u, code := l.map (·.toNat), text := text.cps, kind := 0, groups := 0, pos := 0, lim := text.cps.size } : ReTarget) : Sem ReTarget)) _ _ _
  have e4 : reNoCollectionInside (.str text u) 0 = pure () := rfl
  rw [e4]
  refine wpAny_bind (wpAny_pure (wpAny_bind ?_))
  refine wpAny_rawItems e2 rfl ?_
  rw [ec]
  exact wpAny_pure h
end
noncomputable abbrev Ch := Option Nat
noncomputable def enc1 : Ch → List Nat
  | none => [32]
  | some c => [61, hx (c / 16), hx (c % 16)]
noncomputable def dec1 : Ch → Nat
  | none => 32
  | some c => c
noncomputable abbrev encs (l : List Ch) : List Nat := (l.map enc1).flatten
theorem ch_split : ∀ l : List Ch, ∃ k, l = List.replicate k none ∨ ∃ c r, l = List.replicate k none ++ some c :: r
  | [] => ⟨0, .inl rfl⟩
  | some c :: r => ⟨0, .inr ⟨c, r, rfl⟩⟩
  | none :: r => by
    obtain ⟨k, h | ⟨c, r', h⟩⟩ := ch_split r
    · exact ⟨k + 1, .inl (by rw [h]; rfl)⟩
    · exact ⟨k + 1, .inr ⟨c, r', by rw [h]; rfl⟩⟩
theorem encs_blank (k : Nat) : encs (List.replicate k none) = List.replicate k 32 := by
  induction k with
  | zero => rfl
  | succ k ih =>
    show [32] ++ encs (List.replicate k none) = _
    rw [ih]; rfl
namespace Q
open PySem.Sre
theorem misses (text : Array Nat) (lim : Nat) : ∀ (k p : Nat) (f : Bool) (seen : Sre.Seen), p + k ≤ lim → (∀ i, i < k → text.getD (p + i) 0 ≠ 61) → ∃ f' seen', go (2 * k) (att text lim p f seen) = att text lim (p + k) f' seen'
  | 0, p, f, seen, _, _ => ⟨f, seen, rfl⟩
  | k + 1, p, f, seen, hl, h => by
    obtain ⟨f', seen', e⟩ := misses text lim k (p + 1) false (seen.add 16) (by lia) fun i hi => by have := h (i + 1) (by lia); rwa [show p + (i + 1) = p + 1 + i by lia] at this
    refine ⟨f', seen', ?_⟩
    rw [show 2 * (k + 1) = 2 + 2 * k by lia, go_add]
    have : go 2 (att text lim p f seen) = (att text lim p f seen).step.step := rfl
    rw [this, miss text lim p f seen (by lia) (by simpa using h 0 (by lia)), e, show p + 1 + k = p + (k + 1) by lia]
end Q
section
variable {ro : Nat} {prog : Program} {w : World} {A : Around} {Mut : List Addr} {s₀ s₁ s : Shared} {env : Env} {H : Heap} {mg mb : Str → Option Value}
open PySem.Builtin.Re
theorem find_none {M : Model} {E : Value → Shared → Prop} {Q' : Option Sre.M → Shared → Prop} {text : Str} {u : Tok} {p k : Nat} (hk : k < 400) (hl : text.cps.size = p + k) (hb : ∀ i, i < k → text.cps.getD (p + i) 0 = 32) (h : Q' none s) : wpAny M A (reNextFound (tgt74 text u) p false) Q' E s := by
  show wpAny M A (reRunToEnd (Sre.forSearch Q.code text.cps 0 p text.cps.size false)) Q' E s
  by_cases h3 : p + 3 ≤ text.cps.size
  · rw [Q.search_att _ _ _ h3]
    obtain ⟨f', seen', e⟩ := Q.misses text.cps text.cps.size k p true (({} : Sre.Seen).add 14) (by lia) fun i hi => by rw [hb i hi]; decide
    have eo : (Q.go (2 * k + 3) (Q.att text.cps text.cps.size p true (({} : Sre.Seen).add 14))).outcome = some .failed := by
      rw [Q.go_add, e, ← hl]
      exact Q.over _ _ _ _
    exact Q.toEnd _ (2 * k + 3) (by lia) (by rw [eo]; rfl) (fun h' => by rw [eo] at h'; cases h') (fun _ => h) (.inr eo)
  · obtain ⟨e1, e2, e3⟩ := Q.search_short text.cps p text.cps.size h3
    have eo : (Q.go 1 (Sre.forSearch Q.code text.cps 0 p text.cps.size false)).outcome = some .failed := by
      show (Sre.M.step _).outcome = _
      unfold Sre.M.step
      rw [if_neg (by rw [e3]; decide), e1, e2]
      rfl
    exact Q.toEnd _ 1 (by lia) (by rw [eo]; rfl) (fun h' => by rw [eo] at h'; cases h') (fun _ => h) (.inr eo)
theorem find_some {M : Model} {E : Value → Shared → Prop} {Q' : Option Sre.M → Shared → Prop} {text : Str} {u : Tok} {p k c : Nat} (hk : k < 400) (hc : c < 256) (hl : p + k + 3 ≤ text.cps.size) (hb : ∀ i, i < k → text.cps.getD (p + i) 0 = 32) (h0 : text.cps.getD (p + k) 0 = 61) (h1 : text.cps.getD (p + k + 1) 0 = hx (c / 16)) (h2 : text.cps.getD (p + k + 2) 0 = hx (c % 16))
    (h : ∀ m : Sre.M, m.start = p + k → m.handed = p + k + 3 → m.lastindex = -1 → Q' (some m) s) : wpAny M A (reNextFound (tgt74 text u) p false) Q' E s := by
  show wpAny M A (reRunToEnd (Sre.forSearch Q.code text.cps 0 p text.cps.size false)) Q' E s
  rw [Q.search_att _ _ _ (by lia)]
  obtain ⟨f', seen', e⟩ := Q.misses text.cps text.cps.size k p true (({} : Sre.Seen).add 14) (by lia) fun i hi => by rw [hb i hi]; decide
  obtain ⟨m, em, m1, m2, m3, m4, m5⟩ := Q.hit text.cps text.cps.size (p + k) (c / 16) (c % 16) f' seen' hl h0 (by lia) (by lia) h1 h2
  have eg : Q.go (2 * k + 6) (Q.att text.cps text.cps.size p true (({} : Sre.Seen).add 14)) = m := by
    rw [Q.go_add, e]
    exact em
  exact Q.toEnd _ (2 * k + 6) (by lia) (by rw [eg, m1]; rfl) (fun _ => by rw [eg]; exact h m m2 m3 m5) (fun h' => by rw [eg, m1] at h'; cases h') (.inl (by rw [eg]; exact m1))
end
end Mine
set_option maxRecDepth 100000
namespace Mine
open PySem PySem.W PyProof.Rows PySem.Calls PySem.Spec
open PySem.Builtin.Re
section
variable {ro : Nat} {prog : Program} {w : World} {A : Around} {Mut : List Addr} {s₀ s₁ s : Shared} {env : Env} {H : Heap} {mg mb : Str → Option Value}
noncomputable def againC (text : Str) (u : Tok) (a : Addr) (n : Int) (m : Sre.M) : Sem Fin :=
  again (.builtin "re.Pattern.sub.loop" ⟨[.ref 74, .str text u, .ref 116, .int 1 0, .int 0 0, .int (n + 1) 0, .int (m.handed : Int) 0, .int (m.handed : Int) 0, .bool (m.handed == m.start), .ref a, .bool false], []⟩)
noncomputable def tailC (text : Str) (u : Tok) (a : Addr) (n : Int) (m : Sre.M) : Sem Fin := do
  let found ← reNewMatch (.ref 74) (.str text u) 0 0 text.cps.size m
  let item ← holding [found] (call (.ref 116) [found])
  if (item != Value.none) = true then do
    updateSeq a fun x => x.push item
    againC text u a n m
  else againC text u a n m
noncomputable def finC (text : Str) (a : Addr) : Sem Fin := do
  let joiner ← mkStr ⟨text.cps.extract 0 0⟩
  let its ← seqItems? (.ref a)
  if (its.getD #[]).isEmpty = true then do
    let t ← pure joiner
    ret t
  else do
    let t ← call (.builtin "str.join") [joiner, .ref a]
    ret t
theorem loop_some {E : Value → Shared → Prop} {Q' : Fin → Shared → Prop} {text : Str} {u : Tok} {n : Int} {p : Nat} {a : Addr} {k c : Nat} (q : QPat s.heap) (hk : k < 400) (hc : c < 256) (hl : p + k + 3 ≤ text.cps.size) (hb : ∀ i, i < k → text.cps.getD (p + i) 0 = 32) (h0 : text.cps.getD (p + k) 0 = 61) (h1 : text.cps.getD (p + k + 1) 0 = hx (c / 16)) (h2 : text.cps.getD (p + k + 2) 0 = hx (c % 16))
    (h : ∀ m : Sre.M, m.start = p + k → m.handed = p + k + 3 → m.lastindex = -1 → (k = 0 → wpAny (model prog w) A (tailC text u a n m) Q' E s) ∧
      (0 < k → wpAny (model prog w) A (mkStr ⟨text.cps.extract p (p + k)⟩) (fun x s' => wpAny (model prog w) A (updateSeq a fun y => y.push x) (fun _ s'' => wpAny (model prog w) A (tailC text u a n m) Q' E s'') E s') E s)) :
    wpAny (model prog w) A (Builtin.«re.Pattern.sub.loop» ⟨[.ref 74, .str text u, .ref 116, .int 1 0, .int 0 0, .int n 0, .int (p : Int) 0, .int (p : Int) 0, .bool false, .ref a, .bool false], []⟩) Q' E s := by
  unfold Builtin.«re.Pattern.sub.loop»
  dsimp only
  refine wpAny_bind ?_
  apply whole q
  show wpAny _ _ (reNextFound (tgt74 text u) p false >>= _) _ _ _
  refine wpAny_bind ?_
  apply find_some hk hc hl hb h0 h1 h2
  intro m m1 m2 m3
  obtain ⟨ha, hb'⟩ := h m m1 m2 m3
  by_cases hk0 : k = 0
  · show wpAny _ _ (if p < m.start then _ else _) _ _ _
    rw [if_neg (by lia)]
    exact ha hk0
  · show wpAny _ _ (if p < m.start then _ else _) _ _ _
    rw [if_pos (by lia)]
    show wpAny _ _ (mkStr ⟨text.cps.extract p m.start⟩ >>= _) _ _ _
    have hb'' := hb' (by lia)
    rw [← m1] at hb''
    refine wpAny_bind (wpAny_mono hb'' (fun x s' hx => ?_) fun _ _ y => y)
    exact wpAny_bind (wpAny_mono hx (fun _ s'' hx => hx) fun _ _ y => y)
theorem loop_none {E : Value → Shared → Prop} {Q' : Fin → Shared → Prop} {text : Str} {u : Tok} {n : Int} {p : Nat} {a : Addr} {k : Nat} (q : QPat s.heap) (hk : k < 400) (hl : text.cps.size = p + k) (hb : ∀ i, i < k → text.cps.getD (p + i) 0 = 32)
    (h : (k = 0 → wpAny (model prog w) A (finC text a) Q' E s) ∧
      (0 < k → wpAny (model prog w) A (mkStr ⟨text.cps.extract p (p + k)⟩) (fun x s' => wpAny (model prog w) A (updateSeq a fun y => y.push x) (fun _ s'' => wpAny (model prog w) A (finC text a) Q' E s'') E s') E s)) :
    wpAny (model prog w) A (Builtin.«re.Pattern.sub.loop» ⟨[.ref 74, .str text u, .ref 116, .int 1 0, .int 0 0, .int n 0, .int (p : Int) 0, .int (p : Int) 0, .bool false, .ref a, .bool false], []⟩) Q' E s := by
  unfold Builtin.«re.Pattern.sub.loop»
  dsimp only
  refine wpAny_bind ?_
  apply whole q
  show wpAny _ _ (reNextFound (tgt74 text u) p false >>= _) _ _ _
  refine wpAny_bind ?_
  apply find_none hk hl hb
  obtain ⟨ha, hb'⟩ := h
  by_cases hk0 : k = 0
  · show wpAny _ _ (if p < text.cps.size then _ else _) _ _ _
    rw [if_neg (by lia)]
    exact ha hk0
  · show wpAny _ _ (if p < text.cps.size then _ else _) _ _ _
    rw [if_pos (by lia)]
    show wpAny _ _ (mkStr ⟨text.cps.extract p text.cps.size⟩ >>= _) _ _ _
    have hb'' := hb' (by lia)
    rw [← hl] at hb''
    refine wpAny_bind (wpAny_mono hb'' (fun x s' hx => ?_) fun _ _ y => y)
    exact wpAny_bind (wpAny_mono hx (fun _ s'' hx => hx) fun _ _ y => y)
end
end Mine
set_option maxRecDepth 100000
namespace Mine
open PySem PySem.W PyProof.Rows PySem.Calls PySem.Spec
open PySem.Builtin.Re
structure LoopInv (ν : Nat) (ro : Nat) (A : Around) (Mut : List Addr) (H : Heap) (s₀ s : Shared) (a : Addr) (ys : List (List Nat)) : Prop where
  k : Kp ν s₀ s
  f0 : s₀.heap.get? a = none
  t0 : Tab ν s₀.heap
  aM : a ∉ Mut
  C : Cx ν ro A (a :: Mut) H s
  own : Own a (ys.map fun l => vS (T l)) (vis ν (a :: Mut) s.heap) s.heap
section
variable {ro : Nat} {prog : Program} {w : World} {A : Around} {Mut : List Addr} {s₀ s₁ s : Shared} {env : Env} {H : Heap} {mg mb : Str → Option Value}
theorem LoopInv.a57 {a : Addr} {ys : List (List Nat)} (I : LoopInv ν ro A Mut H s₀ s a ys) : Off ν a := fresh57 I.t0 I.f0
theorem LoopInv.at {a : Addr} {ys : List (List Nat)} {s' : Shared} (I : LoopInv ν ro A Mut H s₀ s a ys) (k : Kp ν s s') : LoopInv ν ro A Mut H s₀ s' a ys :=
  ⟨I.k.trans k, I.f0, I.t0, I.aM, I.C.at k, I.own.at k I.a57⟩
theorem LoopInv.push {M : Model} {B : Around} {a : Addr} {ys : List (List Nat)} {y : List Nat} {x : Value} {E : Value → Shared → Prop} {Q : Unit → Shared → Prop} (I : LoopInv ν ro A Mut H s₀ s a ys) (hx : ∃ t, x = .str (T y) t) (hz : ys.length < 5000)
    (h : ∀ s', LoopInv ν ro A Mut H s₀ s' a (ys ++ [y]) → Q () s') : wpAny M B (updateSeq a fun z => z.push x) Q E s := by
  obtain ⟨vs, ⟨n, e⟩, q⟩ := I.own.ex
  have hl := q.length
  rw [List.length_map] at hl
  refine wpAny_updateSeq e rfl ?_ (by rw [List.size_toArray, hl]; exact Nat.le_trans (Nat.le_of_lt hz) (by decide)) (by rw [Array.size_push, List.size_toArray, hl]; exact Nat.le_trans (show _ ≤ 5001 by lia) (by decide))
  have hs : Heap.SameBut a s.heap (s.heap.update a (Obj.mapSeq fun z => z.push x)) := Heap.SameBut.update ..
  have he : (s.heap.update a (Obj.mapSeq fun z => z.push x)).PlainList a (vs ++ [x]).toArray := ⟨n + 1, by
    rw [Heap.get?_update_self _ e (by rw [Obj.mapSeq_push_plain]; rfl), Obj.mapSeq_push_plain]
    simp⟩
  have fl : Fl (vis ν (a :: Mut) s.heap) (vis ν (a :: Mut) (s.heap.update a (Obj.mapSeq fun z => z.push x))) := vis_change hs (.head _)
  refine h { s with heap := s.heap.update a (Obj.mapSeq fun z => z.push x) } ⟨?_, I.f0, I.t0, I.aM, ?_, ⟨vs ++ [x], he, ?_⟩⟩
  · exact I.k.change (tk := s.toks) hs I.f0 I.t0 (Nat.le_refl _)
  · exact I.C.change (tk := s.toks) hs (.head _) (by obtain ⟨n, e⟩ := he; exact ⟨_, e⟩) (Nat.le_refl _)
  · rw [List.map_append]
    exact All2.snoc (by obtain ⟨t, e⟩ := hx; exact ⟨t, e⟩) (q.mono fl)
theorem Cx.in1 (C : Cx ν (ro + 1) A Mut H s) : Cx ν ro A.in1 Mut H s := ⟨C.hh, by have := C.dep; show A.depth + ro < _; lia, by have := C.un; show A.units + 1 + 50 * ro + 100 < _; lia, C.tab, C.old, C.base, C.tk⟩
theorem tail_ok (B : Base H mg mb) {a : Addr} {ys : List (List Nat)} {text : Str} {u : Tok} {n : Int} {m : Sre.M} {b c : Nat} {E : Value → Shared → Prop} {Q : Fin → Shared → Prop} (I : LoopInv ν (ro + 3) A Mut H s₀ s a ys) (hz : ys.length < 5000) (hl : text.length ≤ sizeLine) (hc : c < 256)
    (m1 : m.start = b) (m2 : m.handed = b + 3) (m3 : m.lastindex = -1) (he : (⟨text.cps.extract b (b + 3)⟩ : Str) = hex2 c)
    (h : ∀ s', LoopInv ν (ro + 3) A Mut H s₀ s' a (ys ++ [[c]]) → wpAny (model prog w) A.in1 (againC text u a n m) Q E s') : wpAny (model prog w) A.in1 (tailC text u a n m) Q E s := by
  unfold tailC
  refine wpAny_bind ?_
  show wpAny _ _ (newTuple [rawInt m.start, rawInt m.handed] >>= fun t => newFields "re.Match" [.str text u, .ref 74, rawInt (0 : Nat), rawInt text.cps.size, rawInt m.lastindex, t]) _ _ _
  refine wpAny_bind ((newTuple_op (prog := prog) (w := w) (Ps := [vV (rawInt m.start), vV (rawInt m.handed)]) (Cx.free I.C).in1 (vs := [rawInt m.start, rawInt m.handed]) ⟨_, _, rfl, rfl, _, _, rfl, rfl, rfl⟩ (show 2 ≤ sizeLine by decide)).use fun tv s₂ k₂ pt => ?_)
  have I₂ := I.at k₂
  obtain ⟨tu, tvs, rfl, ⟨tn, te⟩, tq⟩ := pt
  obtain ⟨w1, _, rfl, q1, w2, _, rfl, q2, rfl⟩ := tq
  have r1 : w1 = rawInt m.start := q1
  have r2 : w2 = rawInt m.handed := q2
  subst r1
  subst r2
  unfold newFields
  refine wpAny_newObj_type ?_ (by first | trivial | rfl | size_fits)
  have k₃ : Kp ν s₂ { s₂ with heap := s₂.heap.push { cls := .type "re.Match", dict := none, data := .fields #[.str text u, .ref 74, rawInt (0 : Nat), rawInt text.cps.size, rawInt m.lastindex, .ref tu] } } := Kp.heap (fl_push _ _).le
  have I₃ := I₂.at k₃
  have pv : (vM text b (b + 3)).on (vis ν (a :: Mut) (s₂.heap.push { cls := .type "re.Match", dict := none, data := .fields #[.str text u, .ref 74, rawInt (0 : Nat), rawInt text.cps.size, rawInt m.lastindex, .ref tu] })) (.ref s₂.heap.objs.size) := by
    refine ⟨_, u, _, _, _, _, tu, tn, rfl, vis_push I₂.C.old I₂.C.tab rfl, ?_⟩
    have e1 := vis_le _ _ te
    have na : tu ≠ a := fun e => by
      obtain ⟨vs, ⟨n', e'⟩, _⟩ := I₂.own.ex
      rw [e, e'] at e1
      have := congrArg Obj.cls (Option.some.inj e1)
      exact absurd this (show Value.type "list" ≠ Value.type "tuple" by decide)
    obtain ⟨_, nM, n57⟩ := vis_iff.mp te
    refine vis_get ?_ (fun hm => ?_) n57
    · rw [m1, m2] at e1
      exact fl_push _ _ _ _ e1
    · rcases List.mem_cons.mp hm with e | hm
      · exact na e
      · exact nM hm
  refine wpAny_bind (wpAny_holding ((unquote_match_ok (prog := prog) (w := w) B I₃.C.in1 hl hc he pv).use fun x s₄ k₄ px => ?_))
  have I₄ := I₃.at k₄
  obtain ⟨t, rfl⟩ := px
  show wpAny _ _ (if (Value.str (T [c]) t != Value.none) = true then _ else _) _ _ _
  have hne : (Value.str (T [c]) t != Value.none) = true := rfl
  rw [if_pos hne]
  refine wpAny_bind (I₄.push (y := [c]) ⟨t, rfl⟩ hz fun s₅ I₅ => h s₅ I₅)
end
end Mine
set_option maxRecDepth 100000
namespace Mine
open PySem PySem.W PyProof.Rows PySem.Calls PySem.Spec
open PySem.Builtin.Re
theorem getD_app (pre l : List Nat) (i : Nat) : (T (pre ++ l)).cps.getD (pre.length + i) 0 = l.getD i 0 := by
  simp [List.getD_eq_getElem?_getD, List.getElem?_append_right]
theorem ext_app (pre l r : List Nat) : (⟨(T (pre ++ (l ++ r))).cps.extract pre.length (pre.length + l.length)⟩ : Str) = T l := by
  simp
theorem encs_app (a b : List Ch) : encs (a ++ b) = encs a ++ encs b := by simp [encs]
theorem encs_len (l : List Ch) : (encs l).length ≤ 3 * l.length := by
  induction l with
  | nil => exact Nat.zero_le _
  | cons c r ih =>
    rw [show encs (c :: r) = enc1 c ++ encs r from rfl, List.length_append, List.length_cons]
    have : (enc1 c).length ≤ 3 := by cases c with
      | none => decide
      | some c => exact Nat.le_refl 3
    lia
theorem dec_blank (k : Nat) : (List.replicate k (none : Ch)).map dec1 = List.replicate k 32 := by simp [dec1]
section
variable {ro : Nat} {prog : Program} {w : World} {A : Around} {Mut : List Addr} {s₀ s₁ s : Shared} {env : Env} {H : Heap} {mg mb : Str → Option Value}
theorem fin_ok {a : Addr} {ys : List (List Nat)} {text : Str} {E : Value → Shared → Prop} {Q : Fin → Shared → Prop} (I : LoopInv ν (ro + 3) A Mut H s₀ s a ys) (hf : ys.flatten.length ≤ sizeLine)
    (h : ∀ v s', Kp ν s₀ s' → (vS (T ys.flatten)).on (vis ν Mut s'.heap) v → Q (.done (.ret v)) s') : wpAny (model prog w) A.in1 (finC text a) Q E s := by
  unfold finC
  have e0 : (⟨text.cps.extract 0 0⟩ : Str) = ⟨#[]⟩ := by simp
  rw [e0]
  refine wpAny_bind (wpAny_mkStr ?_ (by decide))
  have I₁ : LoopInv ν (ro + 3) A Mut H s₀ { s with toks := s.toks + 1 } a ys := I.at Kp.tok
  obtain ⟨vs, ⟨n, e⟩, q⟩ := I₁.own.ex
  have hl := q.length
  rw [List.length_map] at hl
  refine wpAny_bind (wpAny_seqItems e rfl ?_)
  show wpAny _ _ (if vs.toArray.isEmpty = true then _ else _) _ _ _
  by_cases hv : vs.toArray.isEmpty = true
  · rw [if_pos hv]
    have : ys = [] := by
      have : vs = [] := by simpa using hv
      subst this
      exact List.length_eq_zero_iff.mp hl.symm
    subst this
    exact wpAny_bind (wpAny_pure (wpAny_pure (h _ _ I₁.k ⟨_, rfl⟩)))
  · rw [if_neg hv]
    have fr := I₁.own.free I₁.a57 I₁.aM
    have em : (ys.map fun l => vS (T l)) = (ys.map T).map vS := by simp
    rw [em] at fr
    have op := op_join (prog := prog) (w := w) (A := A.in1) (x := ⟨#[]⟩) (joinOk0 hf) (s := { s with toks := s.toks + 1 }) (u := .str ⟨#[]⟩ s.toks) ⟨_, rfl⟩ fr
    rw [Mine.join0] at op
    exact wpAny_bind (op.use fun v s₂ k₂ p₂ => wpAny_pure (h v s₂ (I₁.k.trans k₂) p₂))
theorem sub_loop (B : Base H mg mb) (hQ : QPat H) {a : Addr} {u : Tok} {R : Result → Shared → Prop} : ∀ (len : Nat) (rest : List Ch) (pre : List Nat) (n : Int) (ys : List (List Nat)) (s : Shared), rest.length ≤ len → LoopInv ν (ro + 3) A Mut H s₀ s a ys → (∀ c, some c ∈ rest → c < 256) → rest.length < 300 → pre.length + 3 * rest.length < 5000 → ys.length + 2 * rest.length < 4000 → ys.flatten.length + rest.length < 100000 →
    (∀ v s', Kp ν s₀ s' → (vS (T (ys.flatten ++ rest.map dec1))).on (vis ν Mut s'.heap) v → R (.ok (.ret v)) s') →
    codeAny (model prog w) A (.builtin "re.Pattern.sub.loop" ⟨[.ref 74, .str (T (pre ++ encs rest)) u, .ref 116, .int 1 0, .int 0 0, .int n 0, .int (pre.length : Int) 0, .int (pre.length : Int) 0, .bool false, .ref a, .bool false], []⟩) R s := by
  intro len
  induction len with
  | zero =>
    intro rest pre n ys s hlen I hc hr hp hy hf hR
    obtain rfl : rest = [] := List.length_eq_zero_iff.mp (by lia)
    refine codeAny_builtin RF.entry_loop ?_
    rw [Around.under_plainId RF.plain_loop _]
    refine loop_none (k := 0) (hQ.keep (I.C.base.trans vis_le)) (by decide) (by simp) (fun i hi => absurd hi (Nat.not_lt_zero _)) ⟨fun _ => ?_, fun h => absurd h (Nat.lt_irrefl _)⟩
    refine fin_ok I (Nat.le_trans (show _ ≤ 100000 by lia) (by decide)) fun v s' k p => ?_
    refine hR v s' k ?_
    simpa using p
  | succ len ih =>
    intro rest pre n ys s hlen I hc hr hp hy hf hR
    have hq := hQ.keep (I.C.base.trans vis_le)
    refine codeAny_builtin RF.entry_loop ?_
    rw [Around.under_plainId RF.plain_loop _]
    obtain ⟨k, rfl | ⟨c, r, rfl⟩⟩ := ch_split rest
    · rw [List.length_replicate] at hr hy hf hp
      rw [encs_blank]
      refine loop_none (k := k) hq (by lia) (by simp) (fun i hi => ?_) ⟨fun hk => ?_, fun hk => ?_⟩
      · rw [getD_app]
        simp [List.getD_eq_getElem?_getD, List.getElem?_replicate, hi]
      · subst hk
        refine fin_ok I (Nat.le_trans (show _ ≤ 100000 by lia) (by decide)) fun v s' k p => ?_
        refine hR v s' k ?_
        simpa using p
      · have ex : (⟨(T (pre ++ List.replicate k 32)).cps.extract pre.length (pre.length + k)⟩ : Str) = T (List.replicate k 32) := by
          have := ext_app pre (List.replicate k 32) []
          rw [List.append_nil, List.length_replicate] at this
          exact this
        rw [ex]
        refine wpAny_mkStr ?_ (by show (List.replicate k 32).toArray.size ≤ _; rw [List.size_toArray, List.length_replicate]; exact Nat.le_trans (show k ≤ 300 by lia) (by decide))
        have I₁ : LoopInv ν (ro + 3) A Mut H s₀ { s with toks := s.toks + 1 } a ys := I.at Kp.tok
        refine I₁.push (y := List.replicate k 32) ⟨_, rfl⟩ (by lia) fun s₂ I₂ => ?_
        have ef : (ys ++ [List.replicate k 32]).flatten = ys.flatten ++ (List.replicate k (none : Ch)).map dec1 := by rw [dec_blank]; simp
        refine fin_ok I₂ ?_ fun v s' k p => ?_
        · rw [ef, List.length_append, List.length_map, List.length_replicate]
          exact Nat.le_trans (show _ ≤ 100000 by lia) (by decide)
        · refine hR v s' k ?_
          rw [ef] at p
          exact p
    · rw [List.length_append, List.length_replicate, List.length_cons] at hlen hr hy hf hp
      have hc' : c < 256 := hc c (by simp)
      have ee : encs (List.replicate k none ++ some c :: r) = List.replicate k 32 ++ ([61, hx (c / 16), hx (c % 16)] ++ encs r) := by
        rw [encs_app, encs_blank]; rfl
      have et : pre ++ encs (List.replicate k none ++ some c :: r) = (pre ++ List.replicate k 32 ++ [61, hx (c / 16), hx (c % 16)]) ++ encs r := by rw [ee]; simp
      have tl := encs_len (List.replicate k none ++ some c :: r)
      rw [List.length_append, List.length_replicate, List.length_cons] at tl
      have g : ∀ i, (T (pre ++ encs (List.replicate k none ++ some c :: r))).cps.getD (pre.length + k + i) 0 = ([61, hx (c / 16), hx (c % 16)] ++ encs r).getD i 0 := by
        intro i
        rw [ee, ← List.append_assoc]
        have := getD_app (pre ++ List.replicate k 32) ([61, hx (c / 16), hx (c % 16)] ++ encs r) i
        rw [List.length_append, List.length_replicate] at this
        exact this
      have tsz : (T (pre ++ encs (List.replicate k none ++ some c :: r))).cps.size = pre.length + (k + (3 + (encs r).length)) := by
        rw [ee]; simp; lia
      refine loop_some (k := k) (c := c) hq (by lia) hc' (by rw [tsz]; lia) (fun i hi => ?_) (g 0) (g 1) (g 2) fun m m1 m2 m3 => ?_
      · rw [ee, getD_app]
        simp [List.getD_eq_getElem?_getD, List.getElem?_append_left, hi]
      have hx2 : (⟨(T (pre ++ encs (List.replicate k none ++ some c :: r))).cps.extract (pre.length + k) (pre.length + k + 3)⟩ : Str) = hex2 c := by
        rw [ee, ← List.append_assoc]
        have := ext_app (pre ++ List.replicate k 32) [61, hx (c / 16), hx (c % 16)] (encs r)
        rw [List.length_append, List.length_replicate] at this
        exact this
      have hlt : (T (pre ++ encs (List.replicate k none ++ some c :: r))).length ≤ sizeLine := by
        show Array.size _ ≤ _
        rw [tsz]
        have := encs_len r
        exact Nat.le_trans (show _ ≤ 10000 by lia) (by decide)
      have nxt : ∀ (ys' : List (List Nat)) (s' : Shared), LoopInv ν (ro + 3) A Mut H s₀ s' a ys' → ys'.length ≤ ys.length + 2 → ys'.flatten = ys.flatten ++ List.replicate k 32 ++ [c] →
          wpAny (model prog w) A.in1 (againC (T (pre ++ encs (List.replicate k none ++ some c :: r))) u a n m) (fun fin s' => match fin with | .done f => R (.ok f) s' | .again c' => c'.quiet = true ∧ codeAny (model prog w) A c' R s') (fun e s' => R (.error e) s') s' := by
        intro ys' s' I' hl' hf'
        have hb : (m.handed == m.start) = false := by rw [m1, m2]; exact beq_eq_false_iff_ne.mpr (by lia)
        have hh : m.handed = (pre ++ List.replicate k 32 ++ [61, hx (c / 16), hx (c % 16)]).length := by rw [m2]; simp; lia
        unfold againC
        rw [hb, hh, et]
        have l1 : ys'.flatten.length = ys.flatten.length + k + 1 := by rw [hf']; simp; lia
        refine wpAny_pure ⟨plainId_quiet RF.plain_loop _, ih r _ (n + 1) ys' s' (by lia) I' (fun c' hm => hc c' (by simp [hm])) (by lia) (by simp; lia) (by lia) (by lia) fun v s'' kk pp => hR v s'' kk ?_⟩
        have : ys.flatten ++ (List.replicate k none ++ some c :: r).map dec1 = ys'.flatten ++ r.map dec1 := by
          rw [hf', List.map_append, dec_blank]
          simp [dec1]
        rw [this]
        exact pp
      refine ⟨fun hk => ?_, fun hk => ?_⟩
      · subst hk
        refine tail_ok B I (by lia) hlt hc' m1 m2 m3 hx2 fun s' I' => nxt _ s' I' (by simp) (by simp)
      · have ex : (⟨(T (pre ++ encs (List.replicate k none ++ some c :: r))).cps.extract pre.length (pre.length + k)⟩ : Str) = T (List.replicate k 32) := by
          rw [ee]
          have := ext_app pre (List.replicate k 32) ([61, hx (c / 16), hx (c % 16)] ++ encs r)
          rw [List.length_replicate] at this
          exact this
        rw [ex]
        refine wpAny_mkStr ?_ (by show (List.replicate k 32).toArray.size ≤ _; rw [List.size_toArray, List.length_replicate]; exact Nat.le_trans (show k ≤ 300 by lia) (by decide))
        have I₁ : LoopInv ν (ro + 3) A Mut H s₀ { s with toks := s.toks + 1 } a ys := I.at Kp.tok
        refine I₁.push (y := List.replicate k 32) ⟨_, rfl⟩ (by lia) fun s₂ I₂ => ?_
        refine tail_ok B I₂ (by simp; lia) hlt hc' m1 m2 m3 hx2 fun s' I' => nxt _ s' I' (by simp) (by simp)
end
end Mine
set_option maxRecDepth 100000
namespace Mine
open PySem PySem.W PyProof.Rows PySem.Calls PySem.Spec
open PySem.Builtin.Re
namespace RF
theorem fn_call : typeLookup (.type "function") "__call__" = pure (some (.builtin "function.__call__")) := by rw [typeLookup_type, builtinLookup_eq_fast]; kernel_rfl
theorem named (a b : Value) : reNamed "re.Pattern.sub" "sub" ["repl", "string", "count"] 2 [a, b] [] = pure [some a, some b, none] := by kernel_rfl
theorem notHeld (x : Str) (u : Tok) : reNotHeld "re.Pattern.sub" (.str x u) = pure () := by
  unfold reNotHeld
  have e : isInstance (.str x u) (.type "bytearray") = pure false := by
    unfold isInstance
    show (isSubtype (.type "str") (.type "bytearray")) = _
    rw [isSubtype_type]; kernel_rfl
  rw [e]
  rfl
end RF
section
variable {ro : Nat} {prog : Program} {w : World} {A : Around} {Mut : List Addr} {s₀ s₁ s : Shared} {env : Env} {H : Heap} {mg mb : Str → Option Value}
theorem op_sub (B : Base H mg mb) (hQ : QPat H) (hF : ∃ o, H.get? 116 = some o ∧ o.cls = .type "function") (C : Cx ν (ro + 3) A Mut H s) {rest : List Ch} {v : Value} (hc : ∀ c, some c ∈ rest → c < 256) (hr : rest.length < 300) (p : (vS (T (encs rest))).on (vis ν Mut s.heap) v) :
    Op ν prog w A Mut s (call (.builtin "re.Pattern.sub") [.ref 74, .ref 116, v]) (vS (T (rest.map dec1))) := .mk fun E => by
  obtain ⟨u, rfl⟩ := p
  have q := hQ.keep (C.base.trans vis_le)
  have t74 : s.TypeIs (.ref 74) "re.Pattern" := by obtain ⟨x1, x2, e⟩ := q.pat; exact ⟨_, e, rfl⟩
  have t116 : s.TypeIs (.ref 116) "function" := by obtain ⟨o, e, c⟩ := hF; exact ⟨o, (C.base.trans vis_le) _ _ e, c⟩
  refine wpAny_call (codeAny_call_builtin RF.slot_sub.plain RF.entry_sub (RF.slot_sub.check _ _ _ _ _ _ _ _ t74 (RF.args_sub _ _ _) ?_))
  show wpAny _ _ (reSubstitute "re.Pattern.sub" "sub" false ⟨[.ref 74, .ref 116, .str (T (encs rest)) u], []⟩) _ _ _
  unfold reSubstitute
  dsimp only
  rw [RF.named]
  refine wpAny_bind (wpAny_pure ?_)
  dsimp only
  refine wpAny_bind (wpAny_pure ?_)
  refine wpAny_bind ?_
  refine wpAny_specialOf t116 RF.fn_call ?_
  show wpAny _ _ (holding [.ref 116] (reWholeTarget (.ref 74) (.str (T (encs rest)) u)) >>= fun _ => reNotHeld "re.Pattern.sub" (.str (T (encs rest)) u) >>= fun _ => newList [] >>= fun l =>
    again (.builtin "re.Pattern.sub.loop" ⟨[.ref 74, .str (T (encs rest)) u, .ref 116, .int 1 0, .int 0 0, .int 0 0, .int 0 0, .int 0 0, .bool false, l, .bool false], []⟩)) _ _ _
  refine wpAny_bind (wpAny_holding ?_)
  apply whole q
  rw [RF.notHeld]
  refine wpAny_bind (wpAny_pure ?_)
  refine wpAny_bind ?_
  refine wpAny_newObj_type ?_ (show 0 ≤ sizeLine by decide)
  have k₁ : Kp ν s { s with heap := s.heap.push { cls := .type "list", dict := none, data := .seq ([] : List Value).toArray } } := Kp.heap (fl_push _ _).le
  have hn : s.heap.get? s.heap.objs.size = none := none_of_ge (Nat.le_refl _)
  have he : (s.heap.push { cls := .type "list", dict := none, data := .seq ([] : List Value).toArray }).get? s.heap.objs.size = some { cls := .type "list", dict := none, data := .seq ([] : List Value).toArray } := Heap.get?_push_size _ rfl
  refine wpAny_pure ⟨plainId_quiet RF.plain_loop _, ?_⟩
  exact sub_loop (ro := ro) (s₀ := s) B hQ rest.length rest [] 0 [] _ (Nat.le_refl _) ⟨k₁, hn, C.tab, C.old.new, Cx.own C k₁ hn ⟨_, he⟩, ⟨[], ⟨0, he⟩, rfl⟩⟩ hc hr (by simp; lia) (by simp; lia) (by simp; lia) fun v s' k pv => ⟨k, by simpa using pv⟩
end
end Mine
set_option maxRecDepth 100000
namespace Mine
open PySem PySem.W PyProof.Rows PySem.Calls PySem.Spec
noncomputable def under (c : Nat) : Nat := if c = 95 then 32 else c
theorem map_free (l : List Nat) (h : 95 ∉ l) : l.map under = l := by
  induction l with
  | nil => rfl
  | cons a r ih =>
    rw [List.map_cons, ih fun m => h (.tail _ m)]
    have : a ≠ 95 := fun e => h (e ▸ .head _)
    unfold under
    rw [if_neg this]
theorem map_join : ∀ parts : List Str, (∀ p ∈ parts, 95 ∉ p.cps.toList) → (Str.join ⟨#[95]⟩ parts).cps.toList.map under = (Str.join ⟨#[32]⟩ parts).cps.toList
  | [], _ => rfl
  | [p], h => map_free _ (h p (.head _))
  | p :: q :: r, h => by
    have ih := map_join (q :: r) fun x hx => h x (.tail _ hx)
    show (p ++ ⟨#[95]⟩ ++ Str.join ⟨#[95]⟩ (q :: r)).cps.toList.map under = (p ++ ⟨#[32]⟩ ++ Str.join ⟨#[32]⟩ (q :: r)).cps.toList
    show ((p.cps ++ #[95]) ++ (Str.join ⟨#[95]⟩ (q :: r)).cps).toList.map under = ((p.cps ++ #[32]) ++ (Str.join ⟨#[32]⟩ (q :: r)).cps).toList
    simp only [Array.toList_append, List.map_append]
    rw [ih, map_free _ (h p (.head _))]
    rfl
theorem replace_under (l : List Nat) : Txt.replace (T l) ⟨#[95]⟩ ⟨#[32]⟩ = T (l.map under) := by
  rw [StrLaws.replace_one]
  have h1 := map_join (Txt.split (T l) ⟨#[95]⟩) (StrLaws.split_free (T l) 95)
  have h2 : Str.join ⟨#[95]⟩ (Txt.split (T l) ⟨#[95]⟩) = T l := StrLaws.join_split _ _
  rw [h2] at h1
  generalize Str.join ⟨#[32]⟩ (Txt.split (T l) ⟨#[95]⟩) = z at h1 ⊢
  obtain ⟨⟨z⟩⟩ := z
  simp at h1
  rw [h1]
section
variable {ro : Nat} {prog : Program} {w : World} {A : Around} {Mut : List Addr} {s₀ s₁ s : Shared} {env : Env} {H : Heap} {mg mb : Str → Option Value}
theorem Ev.replC {o : PySem.Expr} {x y z : Str} {k1 k2 : Nat} {p1 p2 apos pos : Pos} (ht : 0 < H.life.soft) (C : Cx ν ro A Mut H s₁) (ho : Ev ν prog w A Mut s₁ (eval o env) (vS x)) (hyz : (y == z) = false) (hx : x.length ≤ 1048576) (hz : z.length ≤ 14)
    (hb : attributeBase o "replace" env (eval o env) = eval o env := by rfl)
    (hform : ((((backTo pos (starEach [.Constant (.str y) k1 p1, .Constant (.str z) k2 p2] env)).all fun x => !x.fst) && (backToKw pos (keywordEach [] env)).all fun x => x.fst.isSome) && decide (([.Constant (.str y) k1 p1, .Constant (.str z) k2 p2] : List PySem.Expr).length + ([] : List PySem.Keyword).length + (if ([] : List PySem.Keyword).isEmpty = true then 0 else 1) < 30)) = true := by rfl)
    (hl : (apos.endLine == pos.line) = true := by rfl) :
    Ev ν prog w A Mut s₁ (eval (.Call (.Attribute o "replace" apos) [.Constant (.str y) k1 p1, .Constant (.str z) k2 p2] [] pos) env) (vS (Txt.replace x y z)) := .mk fun s E k => by
  refine wpAny_Call_method_late hb hform hl rfl (ho.use k fun v s' k1 p1 => ?_)
  obtain ⟨t, rfl⟩ := p1
  refine ⟨"str", "str.replace", PySem.F.plainAttrs_str, PySem.F.slot_str_replace, PySem.F.type_str_replace, typeIs_str _ _ _, (fun a e => by cases e), ?_⟩
  refine callWith_of (P := fun h => Kept h (.builtin "str.replace")) rfl (fun h x => x _) ?_
  have C' := C.at (k.trans k1)
  refine evalArgs_plain ?_
  refine spliced_more (Constant_str ?_) rfl
  refine spliced_more (Constant_str ?_) rfl
  refine spliced_none ?_
  refine ⟨Kept.builtin, ?_⟩
  have h0 := Nat.lt_of_lt_of_le ht C'.tk
  refine wpAny_with_toks (n := s'.toks + 1 + 1) (Nat.le_refl _) ?_
  refine SC.replaceW (show (s'.toks : Nat) ≠ 0 by lia) (show (s'.toks + 1 : Nat) ≠ 0 by lia) (show (s'.toks : Nat) ≠ s'.toks + 1 by lia) hyz hx hz fun t' tk ht => ?_
  exact ⟨k1.trans (Kp.tok (Nat.le_trans (Nat.le_trans (Nat.le_succ _) (Nat.le_succ _)) ht)), t', rfl⟩
theorem header_ok (B : Base H mg mb) (hQ : QPat H) (hF : ∃ o, H.get? 116 = some o ∧ o.cls = .type "function") (hG : mg "twin_re_1_quoprimime" = some (.ref 74)) (ht : 0 < H.life.soft) (C : Cx ν (ro + 4) A Mut H s) {l : List Nat} {rest : List Ch} {v : Value} (hc : ∀ c, some c ∈ rest → c < 256) (hr : rest.length < 300) (hl : l.map under = encs rest) (p : (vS (T l)).on (vis ν Mut s.heap) v) :
    Op ν prog w A Mut s (call (.ref 123) [v]) (vS (T (rest.map dec1))) := by
  refine fn_call C (B.df 7) (binds := [("s", v)]) (fun _ _ _ => rfl) (fun _ x hx => .inl (by rw [List.mem_singleton.mp hx]; rfl)) (fun L cd s' F C' fl => ?_) (by decide)
  have hM' : ∀ a ∈ Env.mut (envOfC "header_decode" (fScope (nth 28)) L 123 cd), a ∈ Env.mut (envOfC "header_decode" (fScope (nth 28)) L 123 cd) ++ Mut := fun a ha => List.mem_append_left _ ha
  have ll : l.length ≤ 900 := by
    have := encs_len rest
    rw [← hl, List.length_map] at this
    lia
  refine Xs.cons (Xs.assign F C' (hM' _ (.head _)) (P := vS (T (encs rest))) ?_ fun v₁ s₁ F₁ C₁ st₁ p₁ => ?_)
  · rw [← hl, ← replace_under]
    exact Ev.replC ht C' (Ev.name (F.var (x := "s") rfl) ((vS _).mono fl p)) (by decide) (by show l.toArray.size ≤ _; rw [List.size_toArray]; lia) (by decide)
  · refine Xs.cons (Xs.ret (P := vS (T (rest.map dec1))) ?_ fun v₂ s₂ k₂ p₂ => ⟨v₂, rfl, F₁.k.trans k₂, p₂⟩)
    refine Ev.meth (Po := vV (.ref 74)) (Ps := [vV (.ref 116), vS (T (encs rest))]) RF.plainAttrs_pat RF.slot_sub RF.type_sub (Ev.global (B.ns.keeps C₁.base) hG rfl) (fun v s k q => ?_) (Es.cons (B.fn C₁ 6) (Es.cons (Ev.name (F₁.var (x := "s") upd_eq) p₁) Es.nil)) fun v vs s₂ k q r => ?_
    · obtain rfl : v = .ref 74 := q
      obtain ⟨x1, x2, e⟩ := hQ.pat
      have := ((C₁.at k).base.trans vis_le) _ _ e
      exact ⟨⟨_, this, rfl⟩, fun a e => by cases e; exact ⟨_, this, rfl⟩⟩
    · obtain rfl : v = .ref 74 := q
      obtain ⟨w1, _, rfl, r1, w2, _, rfl, r2, rfl⟩ := r
      obtain rfl : w1 = .ref 116 := r1
      exact op_sub B hQ hF (C₁.at k) hc hr r2
end
end Mine
set_option maxRecDepth 100000
namespace Mine
open PySem PySem.W PyProof.Rows PySem.Calls PySem.Spec
namespace Q
open PySem.Sre PySem.Builtin.Re
noncomputable def code2 : Array Nat := #[14, 14, 4, 1, 1, 9, 0, 64, 0, 1342177280, 0, 0, 0, 0, 0, 17, 0, 13, 11, 9, 0, 64, 0, 1342177280, 0, 0, 0, 0, 0, 17, 1, 1]
theorem star_none : (go 1 (forSearch code2 #[42] 1 0 1 false)).outcome.isSome = true ∧ (match (go 1 (forSearch code2 #[42] 1 0 1 false)).outcome with | some .failed => true | _ => false) = true := ⟨by rfl, by rfl⟩
theorem find2 {Mo : Model} {A : Around} {E : Value → Shared → Prop} {s : Shared} {Q' : Option M → Shared → Prop} (h : Q' none s) : wpAny Mo A (reRunToEnd (forSearch code2 #[42] 1 0 1 false)) Q' E s := by
  have h2 := star_none.2
  have hf : (go 1 (forSearch code2 #[42] 1 0 1 false)).outcome = some .failed := by
    cases e : (go 1 (forSearch code2 #[42] 1 0 1 false)).outcome with
    | none => rw [e] at h2; cases h2
    | some o => cases o with
      | failed => rfl
      | matched => rw [e] at h2; cases h2
      | stuck x => rw [e] at h2; cases h2
  exact toEnd _ 1 (by decide) star_none.1 (fun h' => by rw [hf] at h'; cases h') (fun _ => h) (.inr hf)
end Q
end Mine
set_option maxRecDepth 10000
namespace Mine
open PySem PySem.W PyProof.Rows PySem.Calls PySem.Spec
section
variable {ro : Nat} {prog : Program} {w : World} {A : Around} {Mut : List Addr} {s₀ s₁ s : Shared} {env : Env} {H : Heap} {pos : Pos} {m cm : Str → Option Value} {whole : Sem Value} {l r : PySem.Expr}
theorem Eb.truthyS {e : PySem.Expr} {x : Str} (hx : x.length < 2 ^ 62) (h : Ev ν prog w A Mut s₁ whole (vS x)) (hf : isTrue e env whole = (do let v ← whole; standAt e.pos; holding [v] (truthy v)) := by rfl) : Eb ν prog w A s₁ (isTrue e env whole) ((x.length : Int) != 0) :=
  Eb.val h (fun v s k p E => by obtain ⟨t, rfl⟩ := p; exact PySem.P.truthy_str (by lia) ⟨Kp.tok, rfl⟩) hf
theorem Eb.truthyOwn {e : PySem.Expr} {a : Addr} {Ps : List VP} (O : Own a Ps (vis ν Mut s₁.heap) s₁.heap) (n57 : Off ν a) (hl : Ps.length < 2 ^ 62) (h : Ev ν prog w A Mut s₁ whole (vV (.ref a))) (hf : isTrue e env whole = (do let v ← whole; standAt e.pos; holding [v] (truthy v)) := by rfl) : Eb ν prog w A s₁ (isTrue e env whole) (!Ps.isEmpty) :=
  Eb.val h (fun v s k p E => by
    obtain rfl : v = .ref a := p
    obtain ⟨vs, l, q⟩ := (O.at k n57).ex
    have e1 := q.length
    refine wpAny_truthy_list l.isList (by rw [List.size_toArray, e1]; lia) ⟨Kp.tok, ?_⟩
    cases vs with
    | nil => cases Ps with
      | nil => rfl
      | cons _ _ => cases e1
    | cons _ _ => cases Ps with
      | nil => cases e1
      | cons _ _ => rfl) hf
theorem Ev.negI {a : Int} (h : Ev ν prog w A Mut s₁ (eval r env) (vI a)) : Ev ν prog w A Mut s₁ (eval (.UnaryOp .USub r pos) env) (vI (-a)) :=
  .mk fun s E k => wpAny_UnaryOp (h.use k fun v s' k1 p => by obtain ⟨t, rfl⟩ := p; exact PyProof.Rows.neg_int ⟨k1.trans Kp.tok, _, rfl⟩)
theorem Ev.itemOwnNeg {a : Addr} {Ps : List VP} {k : Int} {P : VP} (O : Own a Ps (vis ν Mut s₁.heap) s₁.heap) (n57 : Off ν a) (h0 : k < 0) (hk : -2 ^ 63 ≤ k) (hlo : -(Ps.length : Int) ≤ k) (hp : Ps[(k + Ps.length).toNat]? = some P) (h1 : Ev ν prog w A Mut s₁ (eval l env) (vV (.ref a))) (h2 : Ev ν prog w A Mut s₁ (eval r env) (vI k))
    (hs : ∃ f : Value → Value → List Value, ∀ o i, subscripted r false o i = operate (f o i) (getItem o i) := by exact ⟨fun o i => [o, i], fun _ _ => rfl⟩) : Ev ν prog w A Mut s₁ (eval (.Subscript l r pos) env) P :=
  Ev.sub h1 h2 slot_list_getitem.lookup (fun v1 v2 s k' p1 p2 => by
    obtain rfl : v1 = .ref a := p1
    obtain ⟨vs, hl, q⟩ := (O.at k' n57).ex
    obtain ⟨t, rfl⟩ := p2
    have hlen := q.length
    obtain ⟨v, hv⟩ : ∃ v, vs[(k + Ps.length).toNat]? = some v := by
      have := (List.getElem?_eq_some_iff.mp hp).1
      exact ⟨_, List.getElem?_eq_getElem (by rw [q.length]; exact this)⟩
    exact ⟨hl.isList.typeIs, .mk fun E => wpAny_getItem_list_neg hl.isList h0 (by simpa [hlen] using hlo) hk (by simpa [hlen] using hv) ⟨Kp.refl _, q.get hp hv⟩⟩) hs
theorem op_ninS {x y : Str} {v1 v2 : Value} (p1 : (vS y).on (vis ν Mut s.heap) v1) (p2 : (vS x).on (vis ν Mut s.heap) v2) : Op ν prog w A Mut s (compareOp .NotIn v1 v2) (vB (!Txt.contains x y)) := .mk fun E => by
  obtain ⟨t, rfl⟩ := p1
  obtain ⟨u, rfl⟩ := p2
  exact PySem.P.notIn_str ⟨Kp.refl _, rfl⟩
theorem op_inT {y : Str} {ys : List Str} {v1 v2 : Value} (p1 : (vS y).on (vis ν Mut s.heap) v1) (p2 : (vT (ys.map vS)).on (vis ν Mut s.heap) v2) : Op ν prog w A Mut s (compareOp .In v1 v2) (vB (ys.any (· == y))) := .mk fun E => by
  obtain ⟨t, rfl⟩ := p1
  obtain ⟨a, vs, rfl, l, q⟩ := p2
  exact in_tuple_strs (ptup_le l vis_le).isTup (by simpa using strsOf q) ⟨Kp.refl _, rfl⟩
structure LamB (H : Heap) (mg : Str → Option Value) : Prop where
  hd : CodeHd H 61 57
  bt : H.BuiltinsAt mg 57
  ns : H.Ns mainGlobals mg
  gl : mg "twin_re_1_fnmatch" = some (.ref 36)
  pat : ∃ x1 x2 x3 x4, H.get? 36 = some { cls := .type "re.Pattern", data := .fields #[x1, x2, .int 1 0, x3, x4, .ref 35, .int 0 0] }
  code : ∃ n, H.get? 35 = some { cls := .type "tuple", data := .seq (Q.code2.map fun (k : Nat) => .int (k : Int) 0) n }
  fn : ∃ o pm doc, H.get? 62 = some o ∧ o.data = .func (docDef "_translate" (fArgs (nth 8)) (fBody (nth 8)) (fScope (nth 8)) pm (.ref 61) doc)
noncomputable def vFn : VP := ⟨fun h v => ∃ b o, v = .ref b ∧ h.get? b = some o ∧ o.cls = .type "function", fun x ⟨b, o, e, h, c⟩ => ⟨b, o, e, x _ _ h, c⟩⟩
theorem Ev.lam {params : Arguments} {body : PySem.Expr} {scope : Scope} (C : Cx ν ro A Mut H s₁) {mg : Str → Option Value} (B : LamB H mg) (hc : env.code = .ref 61) (hge : env.globals = mainGlobals) (hcl : closureFor scope env = pure [])
    (hdef : defaultsOf params env = ([], [])) (hpos : pos.line = 63 ∧ pos.col = 46) : Ev ν prog w A Mut s₁ (eval (.Lambda params body scope pos) env) vFn := .mk fun s E k => by
  refine kla_eval hdef ?_
  have C' := C.at k
  have up : Fl H s.heap := C'.base.trans vis_le
  obtain ⟨ps, hP, hps, oν, eν⟩ := C'.tab
  have hb : s.heap.BuiltinsAt mg 57 := by
    obtain ⟨bm, o, b1, b2, b3, b4, b5, b6, b7, b8⟩ := B.bt
    exact ⟨bm, o, b1, b2, b3, b4, up _ _ b5, b6, b7, b8⟩
  have hg := B.ns.keeps up
  have hhd := B.hd.keeps up
  have hne : ∀ (h' : Heap), Tab ν s.heap → s.heap.objs.size ≤ h'.objs.size → Off ν h'.objs.size := fun h' ht hs => ⟨Nat.ne_of_gt (Nat.lt_of_lt_of_le ht.lt hs), Nat.ne_of_gt (Nat.lt_of_lt_of_le ht.ltν hs)⟩
  obtain ⟨hl, hco⟩ := hpos
  rcases hps with rfl | ⟨c', rfl⟩
  · refine wpAny_with_toks (n := s.toks) (Nat.le_refl _) (kla_makeFunction (mg := mg) hcl hge hg hc hhd hP trivial rfl (by decide) hb fun c' ctv h' tk hx hge' hlt hrec htb htk => ?_)
    rw [hl, hco] at htb
    have n57 := hne h' C'.tab (Nat.le_of_lt (Nat.lt_of_le_of_lt hge' hlt))
    have le1 : Le ν s.heap h' := ⟨fun b o n e => hx b o n.1 e, fun b o n e => ⟨o.slots, hx b o n e⟩, fun _ => ⟨_, htb, .inr ⟨c', rfl⟩, by
      by_cases q : ν = 57
      · rw [q]; exact ⟨_, htb⟩
      · exact ⟨_, hx ν oν q eν⟩⟩⟩
    have le2 := le1.trans (Fl.le (ν := ν) (fl_push h' (kla_obj "<lambda>" (env.qual ++ "<lambda>") params body scope [] ((mg "__name__").getD .none) c' ctv)))
    have hM : h'.objs.size ∉ Mut := fun hm => (C'.old.le le1).new hm
    exact ⟨Kp.both le2 htk, _, _, rfl, vis_get (Heap.get?_push_size _ rfl) hM n57, rfl⟩
  · refine wpAny_with_toks (n := s.toks) (Nat.le_refl _) (kla_makeFunctionHit (mg := mg) (cv := .ref c') hcl hge hg hc hhd hP ⟨⟩ ?_ hb fun ctv h' tk hk hsz htk => ?_)
    · show codeAmong pos [rawInt (63 : Nat), rawInt (46 : Nat), .ref c'] = _
      unfold codeAmong
      rw [hl, hco]
      rfl
    · have n57 := hne h' C'.tab hsz
      have le2 := (Fl.le (ν := ν) hk).trans (Fl.le (ν := ν) (fl_push h' { cls := .type "function", data := .func (kla_fn "<lambda>" (env.qual ++ "<lambda>") params body scope [] ((mg "__name__").getD .none) (.ref c') ctv) }))
      have hM : h'.objs.size ∉ Mut := fun hm => (C'.old.le (Fl.le (ν := ν) hk)).new hm
      exact ⟨Kp.both le2 htk, _, _, rfl, vis_get (Heap.get?_push_size _ rfl) hM n57, rfl⟩
end
end Mine
set_option maxRecDepth 100000
namespace Mine
open PySem PySem.W PyProof.Rows PySem.Calls PySem.Spec
open PySem.Builtin.Re
section
variable {ro : Nat} {prog : Program} {w : World} {A : Around} {Mut : List Addr} {s₀ s₁ s : Shared} {env : Env} {H : Heap} {mg mb : Str → Option Value}
noncomputable def tgt36 (text : Str) (u : Tok) : ReTarget := { pattern := .ref 36, string := .str text u, code := Q.code2, text := text.cps, kind := 0, groups := 1, pos := 0, lim := text.cps.size }
theorem whole2 {M : Model} {E : Value → Shared → Prop} {Q' : ReTarget → Shared → Prop} {text : Str} {u : Tok} (q : LamB H mg) (up : Fl H s.heap) (h : Q' (tgt36 text u) s) : wpAny M A (reWholeTarget (.ref 36) (.str text u)) Q' E s := by
  obtain ⟨x1, x2, x3, x4, e1⟩ := q.pat
  obtain ⟨n, e2⟩ := q.code
  unfold reWholeTarget
  refine wpAny_bind (wpAny_fields (up _ _ e1) rfl ?_)
  have e3 : reTextOf (.str text u) = pure (text.cps, 0) := rfl
  rw [e3]
  refine wpAny_bind (wpAny_pure ?_)
  have ec : ((Q.code2.map fun (k : Nat) => Value.int (k : Int) 0).map reRawOf).map (·.toNat) = Q.code2 := by simp [Q.code2, reRawOf]
  show wpAny _ _ (reNoCollectionInside (.str text u) 0 >>= fun _ => reRawItems (.ref 35) >>= fun l => (pure ({ pattern := .ref 36, string := .str text u, code := l.map (·.toNat), text := text.cps, kind := 0, groups := 1, pos := 0, lim := text.cps.size } : ReTarget) : Sem ReTarget)) _ _ _
  have e4 : reNoCollectionInside (.str text u) 0 = pure () := rfl
  rw [e4]
  refine wpAny_bind (wpAny_pure (wpAny_bind ?_))
  refine wpAny_rawItems (up _ _ e2) rfl ?_
  rw [ec]
  exact wpAny_pure h
theorem loop_none2 {E : Value → Shared → Prop} {Q' : Fin → Shared → Prop} {u : Tok} {f : Value} {a : Addr} (q : LamB H mg) (up : Fl H s.heap)
    (h : wpAny (model prog w) A (mkStr ⟨#[42]⟩) (fun x s' => wpAny (model prog w) A (updateSeq a fun y => y.push x) (fun _ s'' => wpAny (model prog w) A (finC (T [42]) a) Q' E s'') E s') E s) :
    wpAny (model prog w) A (Builtin.«re.Pattern.sub.loop» ⟨[.ref 36, .str (T [42]) u, f, .int 1 0, .int 0 0, .int 0 0, .int 0 0, .int 0 0, .bool false, .ref a, .bool false], []⟩) Q' E s := by
  unfold Builtin.«re.Pattern.sub.loop»
  dsimp only
  refine wpAny_bind ?_
  apply whole2 q up
  show wpAny _ _ (reNextFound (tgt36 (T [42]) u) 0 false >>= _) _ _ _
  refine wpAny_bind ?_
  show wpAny _ _ (reRunToEnd (Sre.forSearch Q.code2 #[42] 1 0 1 false)) _ _ _
  apply Q.find2
  show wpAny _ _ (if 0 < 1 then _ else _) _ _ _
  refine wpAny_ite_true (decide_eq_true (Nat.one_pos)) ?_
  show wpAny _ _ (mkStr ⟨#[42]⟩ >>= _) _ _ _
  refine wpAny_bind (wpAny_mono h (fun x s' hx => ?_) fun _ _ y => y)
  exact wpAny_bind (wpAny_mono hx (fun _ s'' hx => hx) fun _ _ y => y)
theorem op_sub2 (q : LamB H mg) (C : Cx ν (ro + 3) A Mut H s) {f v : Value} (pf : vFn.on (vis ν Mut s.heap) f) (p : (vS (T [42])).on (vis ν Mut s.heap) v) :
    Op ν prog w A Mut s (call (.builtin "re.Pattern.sub") [.ref 36, f, v]) (vS (T [42])) := .mk fun E => by
  obtain ⟨u, rfl⟩ := p
  obtain ⟨b, o, rfl, ho, hc⟩ := pf
  have up : Fl H s.heap := C.base.trans vis_le
  have t36 : s.TypeIs (.ref 36) "re.Pattern" := by obtain ⟨x1, x2, x3, x4, e⟩ := q.pat; exact ⟨_, up _ _ e, rfl⟩
  have tf : s.TypeIs (.ref b) "function" := ⟨o, vis_le _ _ ho, hc⟩
  refine wpAny_call (codeAny_call_builtin RF.slot_sub.plain RF.entry_sub (RF.slot_sub.check _ _ _ _ _ _ _ _ t36 (RF.args_sub _ _ _) ?_))
  show wpAny _ _ (reSubstitute "re.Pattern.sub" "sub" false ⟨[.ref 36, .ref b, .str (T [42]) u], []⟩) _ _ _
  unfold reSubstitute
  dsimp only
  rw [RF.named]
  refine wpAny_bind (wpAny_pure ?_)
  dsimp only
  refine wpAny_bind (wpAny_pure ?_)
  refine wpAny_bind ?_
  refine wpAny_specialOf tf RF.fn_call ?_
  show wpAny _ _ (holding [.ref b] (reWholeTarget (.ref 36) (.str (T [42]) u)) >>= fun _ => reNotHeld "re.Pattern.sub" (.str (T [42]) u) >>= fun _ => newList [] >>= fun l =>
    again (.builtin "re.Pattern.sub.loop" ⟨[.ref 36, .str (T [42]) u, .ref b, .int 1 0, .int 0 0, .int 0 0, .int 0 0, .int 0 0, .bool false, l, .bool false], []⟩)) _ _ _
  refine wpAny_bind (wpAny_holding ?_)
  apply whole2 q up
  rw [RF.notHeld]
  refine wpAny_bind (wpAny_pure ?_)
  refine wpAny_bind ?_
  refine wpAny_newObj_type ?_ (show 0 ≤ sizeLine by decide)
  have k₁ : Kp ν s { s with heap := s.heap.push { cls := .type "list", dict := none, data := .seq ([] : List Value).toArray } } := Kp.heap (fl_push _ _).le
  have hn : s.heap.get? s.heap.objs.size = none := none_of_ge (Nat.le_refl _)
  have he : (s.heap.push { cls := .type "list", dict := none, data := .seq ([] : List Value).toArray }).get? s.heap.objs.size = some { cls := .type "list", dict := none, data := .seq ([] : List Value).toArray } := Heap.get?_push_size _ rfl
  have I : LoopInv ν (ro + 3) A Mut H s { s with heap := s.heap.push { cls := .type "list", dict := none, data := .seq ([] : List Value).toArray } } s.heap.objs.size [] := ⟨k₁, hn, C.tab, C.old.new, Cx.own C k₁ hn ⟨_, he⟩, ⟨[], ⟨0, he⟩, rfl⟩⟩
  refine wpAny_pure ⟨plainId_quiet RF.plain_loop _, ?_⟩
  refine codeAny_builtin RF.entry_loop ?_
  rw [Around.under_plainId RF.plain_loop _]
  refine loop_none2 q (up.trans (fl_push _ _)) ?_
  refine wpAny_mkStr ?_ (show 1 ≤ sizeLine by decide)
  have I₁ := I.at (Kp.tok (s := { s with heap := s.heap.push { cls := .type "list", dict := none, data := .seq ([] : List Value).toArray } }) (t := s.toks + 1))
  refine I₁.push (y := [42]) ⟨_, rfl⟩ (by decide) fun s₂ I₂ => ?_
  exact fin_ok I₂ (show 1 ≤ sizeLine by decide) fun v s' k p => ⟨k, p⟩
end
end Mine
set_option maxRecDepth 10000
namespace Mine
open PySem PySem.W PyProof.Rows PySem.Calls PySem.Spec
theorem upd_keep {m : Str → Option Value} {y : Str} {v : Value} {names : List Str} (h : y ∉ names := by decide) : ∀ x ∈ names, upd m y v x = m x := fun x hx => upd_ne fun e => h (e ▸ hx)
noncomputable def sBody : Stmt → List Stmt
  | .If _ b _ _ => b
  | .While _ b _ _ => b
  | _ => []
noncomputable def sElse : Stmt → List Stmt
  | .If _ _ o _ => o
  | _ => []
noncomputable def at_ (l : List Stmt) (i : Nat) : Stmt := l.getD i (.Pass default)
section
variable {ro : Nat} {prog : Program} {w : World} {A : Around} {Mut M : List Addr} {s₀ s₁ s : Shared} {env : Env} {H : Heap} {mg mb : Str → Option Value} {st a : Addr} {els : List El} {text : List Nat} {i : Nat} {L : Addr} {m cm : Str → Option Value}
noncomputable abbrev trNames : List Str := ["pat", "STAR", "QUESTION_MARK", "res", "n", "add"]
structure TSt (ν : Nat) (ro : Nat) (A : Around) (M : List Addr) (H : Heap) (env : Env) (s₀ : Shared) (text : List Nat) (st a : Addr) (els : List El) (i : Nat) (m cm : Str → Option Value) (s : Shared) : Prop where
  F : Fm ν env s₀ s m cm
  C : Cx ν ro A M H s
  pat : ∃ t, m "pat" = some (.str (T text) t)
  star : m "STAR" = some (.ref st)
  qm : ∃ t, m "QUESTION_MARK" = some (.str (T [46]) t)
  res : m "res" = some (.ref a)
  nv : ∃ t, m "n" = some (.int (text.length : Int) t)
  add : ∃ v, m "add" = some v ∧ (vBM a).on (vis ν M s.heap) v
  iv : ∃ t, m "i" = some (.int (i : Int) t)
  own : Own a (els.map (vEl st)) (vis ν M s.heap) s.heap
theorem TSt.at {s' : Shared} (J : TSt ν ro A M H env s₀ text st a els i m cm s) (n57 : Off ν a) (k : Kp ν s s') : TSt ν ro A M H env s₀ text st a els i m cm s' :=
  ⟨J.F.at k, J.C.at k, J.pat, J.star, J.qm, J.res, J.nv, let ⟨v, e, p⟩ := J.add; ⟨v, e, (vBM a).mono (k.vis _) p⟩, J.iv, J.own.at k n57⟩
theorem TSt.step {j : Nat} {m' : Str → Option Value} {s' : Shared} {W : List Addr} (J : TSt ν ro A M H env s₀ text st a els i m cm s) (n57 : Off ν a) (aW : a ∉ W) (F' : Fm ν env s₀ s' m' cm) (C' : Cx ν ro A M H s') (stp : Step ν W M s s')
    (e : ∀ x ∈ trNames, m' x = m x) (e5 : ∃ t, m' "i" = some (.int (j : Int) t)) : TSt ν ro A M H env s₀ text st a els j m' cm s' :=
  ⟨F', C', (e "pat" (by decide)) ▸ J.pat, (e "STAR" (by decide)) ▸ J.star, (e "QUESTION_MARK" (by decide)) ▸ J.qm, (e "res" (by decide)) ▸ J.res, (e "n" (by decide)) ▸ J.nv, let ⟨v, e', p⟩ := J.add; ⟨v, (e "add" (by decide)).trans e', (vBM a).mono stp.fl p⟩, e5, J.own.st stp aW n57⟩
theorem TSt.push {x : El} {s' : Shared} (J : TSt ν ro A M H env s₀ text st a els i m cm s) (F' : Fm ν env s₀ s' m cm) (C' : Cx ν ro A M H s') (stp : Step ν [a] M s s')
    (O : Own a (els.map (vEl st) ++ [vEl st x]) (vis ν M s'.heap) s'.heap) : TSt ν ro A M H env s₀ text st a (els ++ [x]) i m cm s' :=
  ⟨F', C', J.pat, J.star, J.qm, J.res, J.nv, let ⟨v, e, p⟩ := J.add; ⟨v, e, (vBM a).mono stp.fl p⟩, J.iv, by rw [List.map_append]; exact O⟩
noncomputable abbrev eTr (L : Addr) (cd : Value) : Env := envOfC "_translate" (fScope (nth 8)) L 62 cd
variable {cd : Value}
theorem TSt.eI (J : TSt ν ro A M H (eTr L cd) s₀ text st a els i m cm s) {p : Pos} : Ev ν prog w A M s (eval (.Name "i" p) (eTr L cd)) (vI (i : Int)) := by
  obtain ⟨t, e⟩ := J.iv
  exact Ev.name (J.F.var (x := "i") e) ⟨t, rfl⟩
theorem TSt.eN (J : TSt ν ro A M H (eTr L cd) s₀ text st a els i m cm s) {p : Pos} : Ev ν prog w A M s (eval (.Name "n" p) (eTr L cd)) (vI (text.length : Int)) := by
  obtain ⟨t, e⟩ := J.nv
  exact Ev.name (J.F.var (x := "n") e) ⟨t, rfl⟩
theorem TSt.eP (J : TSt ν ro A M H (eTr L cd) s₀ text st a els i m cm s) {p : Pos} : Ev ν prog w A M s (eval (.Name "pat" p) (eTr L cd)) (vS (T text)) := by
  obtain ⟨t, e⟩ := J.pat
  exact Ev.name (J.F.var (x := "pat") e) ⟨t, rfl⟩
theorem TSt.eQ (J : TSt ν ro A M H (eTr L cd) s₀ text st a els i m cm s) {p : Pos} : Ev ν prog w A M s (eval (.Name "QUESTION_MARK" p) (eTr L cd)) (vS (T [46])) := by
  obtain ⟨t, e⟩ := J.qm
  exact Ev.name (J.F.var (x := "QUESTION_MARK") e) ⟨t, rfl⟩
theorem TSt.eS (J : TSt ν ro A M H (eTr L cd) s₀ text st a els i m cm s) {p : Pos} : Ev ν prog w A M s (eval (.Name "STAR" p) (eTr L cd)) (vV (.ref st)) := Ev.name (J.F.var (x := "STAR") J.star) rfl
theorem TSt.eR (J : TSt ν ro A M H (eTr L cd) s₀ text st a els i m cm s) {p : Pos} : Ev ν prog w A M s (eval (.Name "res" p) (eTr L cd)) (vV (.ref a)) := Ev.name (J.F.var (x := "res") J.res) rfl
theorem TSt.eA (J : TSt ν ro A M H (eTr L cd) s₀ text st a els i m cm s) {p : Pos} : Ev ν prog w A M s (eval (.Name "add" p) (eTr L cd)) (vBM a) := by
  obtain ⟨v, e, q⟩ := J.add
  exact Ev.name (J.F.var (x := "add") e) q
theorem TSt.sign (J : TSt ν ro A M H (eTr L cd) s₀ text st a els i m cm s) {e : PySem.Expr} {j : Nat} {c : Nat} (hl : text.length < 900) (he : Ev ν prog w A M s (eval e (eTr L cd)) (vI (j : Int))) (hc : text[j]? = some c) {p1 p2 : Pos}
    (hs : ∃ f : Value → Value → List Value, ∀ o i, subscripted e false o i = operate (f o i) (getItem o i) := by exact ⟨fun o i => [o, i], fun _ _ => rfl⟩) : Ev ν prog w A M s (eval (.Subscript (.Name "pat" p1) e p2) (eTr L cd)) (vS (T [c])) := by
  have hj := (List.getElem?_eq_some_iff.mp hc).1
  exact Ev.itemS (x := T text) (k := (j : Int)) (by lia) (by lia) (by rw [Int.toNat_natCast]; simpa using hc) J.eP he hs
noncomputable def trBody : List Stmt := sBody (at_ (fBody (nth 8)) 3)
noncomputable def setArm : List Stmt := sBody (at_ (sElse (at_ (sElse (at_ trBody 2)) 0)) 0)
theorem nat_add_one {j : Nat} : ((j : Int) + 1) = ((j + 1 : Nat) : Int) := by lia
set_option maxHeartbeats 1000000 in
theorem set_arm (B : Base H mg mb) (LB : LamB H mg) (ts : 0 < H.life.soft) {Q : Flow → Shared → Prop} {p : Nat} {pre post : List Nat} (ht : text = pre ++ 91 :: 42 :: 93 :: post) (hp : pre.length = p) (hl : text.length < 900) (aM : a ∈ M) (f0 : s₀.heap.get? a = none) (aE : a ∉ Env.mut (eTr L (.ref 61))) (hM : ∀ x ∈ Env.mut (eTr L (.ref 61)), x ∈ M) (hz : els.length < 900)
    (J : TSt ν (ro + 3) A M H (eTr L (.ref 61)) s₀ text st a els (p + 1) m cm s)
    (h : ∀ m s', TSt ν (ro + 3) A M H (eTr L (.ref 61)) s₀ text st a (els ++ [some [91, 42, 93]]) (p + 3) m cm s' → Q .next s') : Xs ν prog w A (execs setArm (eTr L (.ref 61))) Q s := by
  have n57 : Off ν a := fresh57 J.F.tab f0
  have t1 : text[p + 1]? = some 42 := by rw [ht, List.getElem?_append_right (by lia), show p + 1 - pre.length = 1 by lia]; rfl
  have t2 : text[p + 2]? = some 93 := by rw [ht, List.getElem?_append_right (by lia), show p + 2 - pre.length = 2 by lia]; rfl
  have l2 : p + 2 < text.length := (List.getElem?_eq_some_iff.mp t2).1
  have hL := hM _ (.head _)
  refine Xs.cons (Xs.assign J.F J.C hL (P := vI ((p + 1 : Nat) : Int)) J.eI fun v s₁ F₁ C₁ st₁ p₁ => ?_)
  obtain ⟨tj, rfl⟩ := p₁
  have J₁ := J.step n57 aE F₁ C₁ st₁ upd_keep (by obtain ⟨t, e⟩ := J.iv; exact ⟨t, Eq.trans upd_ne e⟩)
  have ej : ∀ {s' : Shared} {q : Pos}, Kp ν s₁ s' → Ev ν prog w A M s' (eval (.Name "j" q) (eTr L (.ref 61))) (vI ((p + 1 : Nat) : Int)) := fun k => (Ev.name (P := vI ((p + 1 : Nat) : Int)) (J₁.F.var (x := "j") upd_eq) ⟨tj, rfl⟩).at k
  refine Xs.cons (Xs.if (b := decide (((p + 1 : Nat) : Int) < (text.length : Int)) && (T [42] == T [33])) (Eb.and2 (Eb.ltI (ej (Kp.refl _)) J₁.eN) fun _ => Eb.eqS (J₁.sign hl (ej (Kp.refl _)) t1) Ev.cStr) (fun hb => by rw [Bool.and_eq_true] at hb; exact absurd hb.2 (by decide)) (fun _ s₂ k₂ => Xs.nil ?_))
  have J₂ := J₁.at n57 k₂
  refine Xs.cons (Xs.if (b := decide (((p + 1 : Nat) : Int) < (text.length : Int)) && (T [42] == T [93])) (Eb.and2 (Eb.ltI (ej k₂) J₂.eN) fun _ => Eb.eqS (J₂.sign hl (ej k₂) t1) Ev.cStr) (fun hb => by rw [Bool.and_eq_true] at hb; exact absurd hb.2 (by decide)) (fun _ s₃ k₃ => Xs.nil ?_))
  have J₃ := J₂.at n57 k₃
  refine Xs.cons (Xs.whileM (fun s' => ∃ m t, TSt ν (ro + 3) A M H (eTr L (.ref 61)) s₀ text st a els (p + 1) m cm s' ∧ m "j" = some (.int ((p + 2 : Nat) : Int) t)) (fun k s' => ∃ m t j, TSt ν (ro + 3) A M H (eTr L (.ref 61)) s₀ text st a els (p + 1) m cm s' ∧ m "j" = some (.int ((j : Nat) : Int) t) ∧ k + j = p + 2 ∧ p + 1 ≤ j ∧ k ≤ 1) ?_ 1 ⟨_, tj, p + 1, J₃, upd_eq, by lia, by lia, by lia⟩ ?_)
  · rintro k s₄ ⟨m, t, j, J₄, hj, hk, hj1, hk1⟩
    have ej : ∀ {s' : Shared} {q : Pos}, Kp ν s₄ s' → Ev ν prog w A M s' (eval (.Name "j" q) (eTr L (.ref 61))) (vI ((j : Nat) : Int)) := fun k => (Ev.name (P := vI ((j : Nat) : Int)) (J₄.F.var (x := "j") hj) ⟨t, rfl⟩).at k
    have hc : text[j]? = some (if j = p + 1 then 42 else 93) := by
      by_cases e : j = p + 1
      · rw [if_pos e, e]; exact t1
      · rw [if_neg e, show j = p + 2 by lia]; exact t2
    refine ⟨_, Eb.and2 (Eb.ltI (ej (Kp.refl _)) J₄.eN) fun _ => Eb.neS (J₄.sign hl (ej (Kp.refl _)) hc) Ev.cStr, fun hb s₅ k₅ => ?_, fun hb s₅ k₅ => ?_⟩
    · have e : j = p + 1 := by
        refine Classical.byContradiction fun e => ?_
        rw [if_neg e, Bool.and_eq_true] at hb
        exact absurd hb.2 (by decide)
      have J₅ := J₄.at n57 k₅
      refine Xs.cons (Xs.assign J₅.F J₅.C hL (P := vI ((p + 2 : Nat) : Int)) ((Ev.addI (ej k₅) Ev.cInt).imp fun h v q => by rw [nat_add_one, e] at q; exact q) fun v s₆ F₆ C₆ st₆ p₆ => Xs.nil ?_)
      obtain ⟨t', rfl⟩ := p₆
      exact ⟨0, by lia, _, t', p + 2, J₅.step n57 aE F₆ C₆ st₆ upd_keep (by obtain ⟨t, e⟩ := J₅.iv; exact ⟨t, Eq.trans upd_ne e⟩), upd_eq, by lia, by lia, by lia⟩
    · have e : j = p + 2 := by
        refine Classical.byContradiction fun e => ?_
        rw [if_pos (show j = p + 1 by lia), decide_eq_true (show (j : Int) < (text.length : Int) by lia)] at hb
        exact absurd hb (by decide)
      exact ⟨m, t, J₄.at n57 k₅, e ▸ hj⟩
  rintro s₄ ⟨m₄, t₄, J₄, hj₄⟩
  have ej : ∀ {s' : Shared} {q : Pos}, Kp ν s₄ s' → Ev ν prog w A M s' (eval (.Name "j" q) (eTr L (.ref 61))) (vI ((p + 2 : Nat) : Int)) := fun k => (Ev.name (P := vI ((p + 2 : Nat) : Int)) (J₄.F.var (x := "j") hj₄) ⟨t₄, rfl⟩).at k
  refine Xs.cons (Xs.if (b := false) ((Eb.geI (ej (Kp.refl _)) J₄.eN).eq (decide_eq_false (by lia))) (fun hb => by cases hb) (fun _ s₅ k₅ => ?_))
  have J₅ := J₄.at n57 k₅
  have es : Txt.slice (T text) (some ((p + 1 : Nat) : Int)) (some ((p + 2 : Nat) : Int)) = T [42] := by
    rw [slice_ab]
    have : ((T text).cps.toList.take (p + 2)).drop (p + 1) = [42] := by
      show (text.take (p + 2)).drop (p + 1) = [42]
      rw [ht, show pre ++ 91 :: 42 :: 93 :: post = (pre ++ [91, 42]) ++ 93 :: post by simp, List.take_left' (by simp; lia)]
      rw [show pre ++ [91, 42] = (pre ++ [91]) ++ [42] by simp, List.drop_left' (by simp; lia)]
    rw [this]
  refine Xs.cons (Xs.assign J₅.F J₅.C hL (P := vS (T [42])) ((Ev.sliceS J₅.C J₅.eP (.is J₅.eI) (.is (ej k₅)) (by show text.toArray.size ≤ _; rw [List.size_toArray]; exact Nat.le_trans (Nat.le_of_lt hl) (by decide))).imp fun h v q => by rw [es] at q; exact q) fun v s₆ F₆ C₆ st₆ p₆ => ?_)
  obtain ⟨t₆, rfl⟩ := p₆
  have J₆ := J₅.step n57 aE F₆ C₆ st₆ upd_keep (by obtain ⟨t, e⟩ := J₅.iv; exact ⟨t, Eq.trans upd_ne e⟩)
  have eS₆ : ∀ {s' : Shared} {q : Pos}, Kp ν s₆ s' → Ev ν prog w A M s' (eval (.Name "stuff" q) (eTr L (.ref 61))) (vS (T [42])) := fun k => (Ev.name (P := vS (T [42])) (J₆.F.var (x := "stuff") upd_eq) ⟨t₆, rfl⟩).at k
  refine Xs.cons (Xs.if (b := true) ((Eb.cmp (P1 := vS (T [45])) (P2 := vS (T [42])) (b := !Txt.contains (T [42]) (T [45])) Ev.cStr (eS₆ (Kp.refl _)) (fun v1 v2 s k q1 q2 => op_ninS q1 q2) rfl).eq (by decide +kernel)) (fun _ s₇ k₇ => ?_) (fun hb => by cases hb))
  have J₇ := J₆.at n57 k₇
  refine Xs.cons (Xs.assign J₇.F J₇.C hL (P := vS (T [42])) ((Ev.replC ts J₇.C (eS₆ k₇) (by decide) (by decide) (by decide)).imp fun h v q => ?_) fun v s₈ F₈ C₈ st₈ p₈ => Xs.nil ?_)
  · have : Txt.replace (T [42]) (Str.ofString "\\") (Str.ofString "\\\\") = T [42] := by decide +kernel
    rw [this] at q
    exact q
  obtain ⟨t₈, rfl⟩ := p₈
  have J₈ := J₇.step n57 aE F₈ C₈ st₈ upd_keep (by obtain ⟨t, e⟩ := J₇.iv; exact ⟨t, Eq.trans upd_ne e⟩)
  have eS₈ : ∀ {s' : Shared} {q : Pos}, Kp ν s₈ s' → Ev ν prog w A M s' (eval (.Name "stuff" q) (eTr L (.ref 61))) (vS (T [42])) := fun k => (Ev.name (P := vS (T [42])) (J₈.F.var (x := "stuff") upd_eq) ⟨t₈, rfl⟩).at k
  refine Xs.cons (Xs.assign J₈.F J₈.C hL (P := vS (T [42])) ?_ fun v s₉ F₉ C₉ st₉ p₉ => ?_)
  · refine Ev.meth (Po := vV (.ref 36)) (Ps := [vFn, vS (T [42])]) RF.plainAttrs_pat RF.slot_sub RF.type_sub (Ev.global (B.ns.keeps J₈.C.base) LB.gl rfl) (fun v s k q => ?_) (Es.cons (Ev.lam J₈.C LB rfl rfl rfl rfl ⟨rfl, rfl⟩) (Es.cons (eS₈ (Kp.refl _)) Es.nil)) fun v vs s' k q r => ?_
    · obtain rfl : v = .ref 36 := q
      obtain ⟨x1, x2, x3, x4, e⟩ := LB.pat
      have := ((J₈.C.at k).base.trans vis_le) _ _ e
      exact ⟨⟨_, this, rfl⟩, fun a e => by cases e; exact ⟨_, this, rfl⟩⟩
    · obtain rfl : v = .ref 36 := q
      obtain ⟨w1, _, rfl, r1, w2, _, rfl, r2, rfl⟩ := r
      exact op_sub2 LB (J₈.C.at k) r1 r2
  obtain ⟨t₉, rfl⟩ := p₉
  have J₉ := J₈.step n57 aE F₉ C₉ st₉ upd_keep (by obtain ⟨t, e⟩ := J₈.iv; exact ⟨t, Eq.trans upd_ne e⟩)
  have hj₉ : upd (upd (upd m₄ "stuff" (.str (T [42]) t₆)) "stuff" (.str (T [42]) t₈)) "stuff" (.str (T [42]) t₉) "j" = some (.int ((p + 2 : Nat) : Int) t₄) := Eq.trans upd_ne (Eq.trans upd_ne (Eq.trans upd_ne hj₄))
  refine Xs.cons (Xs.assign J₉.F J₉.C hL (P := vI ((p + 3 : Nat) : Int)) ((Ev.addI (Ev.name (J₉.F.var (x := "j") hj₉) ⟨t₄, rfl⟩) Ev.cInt).imp fun h v q => by rw [nat_add_one] at q; exact q) fun v s₁₀ F₁₀ C₁₀ st₁₀ p₁₀ => ?_)
  obtain ⟨t₁₀, rfl⟩ := p₁₀
  have J₁₀ := J₉.step (j := p + 3) n57 aE F₁₀ C₁₀ st₁₀ upd_keep ⟨t₁₀, upd_eq⟩
  have eS : ∀ {s' : Shared} {q : Pos}, Kp ν s₁₀ s' → Ev ν prog w A M s' (eval (.Name "stuff" q) (eTr L (.ref 61))) (vS (T [42])) := fun k => (Ev.name (P := vS (T [42])) (J₁₀.F.var (x := "stuff") (Eq.trans upd_ne upd_eq)) ⟨t₉, rfl⟩).at k
  refine Xs.cons (Xs.if (b := false) ((Eb.not (Eb.truthyS (x := T [42]) (by decide) (eS (Kp.refl _)))).eq (by decide)) (fun hb => by cases hb) (fun _ s₁₁ k₁₁ => ?_))
  refine Xs.cons (Xs.if (b := T [42] == T [33]) (Eb.eqS (eS k₁₁) Ev.cStr) (fun hb => absurd hb (by decide)) (fun _ s₁₂ k₁₂ => ?_))
  have e0 : ∀ {s' : Shared} {q1 q2 q3 : Pos}, Kp ν s₁₀ s' → Ev ν prog w A M s' (eval (.Subscript (.Name "stuff" q1) (.Constant (.int 0) 0 q2) q3) (eTr L (.ref 61))) (vS (T [42])) := fun k => Ev.itemS (x := T [42]) (k := 0) (by decide) (by decide) rfl (eS k) Ev.cInt
  refine Xs.cons (Xs.if (b := T [42] == T [33]) (Eb.eqS (e0 (k₁₁.trans k₁₂)) Ev.cStr) (fun hb => absurd hb (by decide)) (fun _ s₁₃ k₁₃ => ?_))
  have C₁₃ := J₁₀.C.at ((k₁₁.trans k₁₂).trans k₁₃)
  refine Xs.cons (Xs.if (b := [T [94], T [91]].any (· == T [42])) (Eb.cmp (P1 := vS (T [42])) (P2 := vT ([T [94], T [91]].map vS)) (e0 ((k₁₁.trans k₁₂).trans k₁₃)) (Ev.tuple C₁₃ (Es.cons Ev.cStr (Es.cons Ev.cStr Es.nil)) (by decide)) (fun v1 v2 s k q1 q2 => op_inT q1 q2)) (fun hb => absurd hb (by decide)) (fun _ s₁₄ k₁₄ => Xs.nil (Xs.nil ?_)))
  have kk := ((k₁₁.trans k₁₂).trans k₁₃).trans k₁₄
  have J₁₄ := J₁₀.at n57 kk
  refine Xs.cons (Xs.addB J₁₄.F J₁₄.C J₁₄.eA aM f0 aE J₁₄.own (P := vS (T [91, 42, 93])) ((Ev.fstr3 (eS kk) (by decide)).imp fun h v q => ?_) (by rw [List.length_map]; exact Nat.le_trans (Nat.le_of_lt hz) (by decide)) (fun s₁₅ F₁₅ C₁₅ st₁₅ O₁₅ => ?_) rfl rfl rfl)
  · have : Str.empty ++ Str.ofString "[" ++ T [42] ++ Str.ofString "]" = T [91, 42, 93] := by decide
    rw [this] at q
    exact q
  have J₁₅ := J₁₄.push (x := some [91, 42, 93]) F₁₅ C₁₅ st₁₅ O₁₅
  exact Xs.nil (Xs.nil (Xs.nil (Xs.nil (h _ _ J₁₅))))
end
end Mine
set_option maxRecDepth 10000
namespace Mine
open PySem PySem.W PyProof.Rows PySem.Calls PySem.Spec
inductive PT
  | star
  | quest
  | set
  | pl (c : Nat)
noncomputable def PT.txt : PT → List Nat
  | .star => [42]
  | .quest => [63]
  | .set => [91, 42, 93]
  | .pl c => [c]
noncomputable def ptTxt (l : List PT) : List Nat := (l.map PT.txt).flatten
noncomputable def addTok (acc : List El) : PT → List El
  | .star => if acc.getLast? = some none then acc else acc ++ [none]
  | .quest => acc ++ [some [46]]
  | .set => acc ++ [some [91, 42, 93]]
  | .pl c => acc ++ [some [c]]
noncomputable def elsOf (l : List PT) : List El := l.foldl addTok []
noncomputable def ptOk (ok : Nat → Prop) : PT → Prop
  | .pl c => ok c ∧ c ≠ 42 ∧ c ≠ 63 ∧ c ≠ 91
  | _ => True
theorem ptTxt_app (a b : List PT) : ptTxt (a ++ b) = ptTxt a ++ ptTxt b := by simp [ptTxt]
theorem ptTxt_cons (a : PT) (b : List PT) : ptTxt (a :: b) = a.txt ++ ptTxt b := by simp [ptTxt]
theorem elsOf_snoc (a : List PT) (t : PT) : elsOf (a ++ [t]) = addTok (elsOf a) t := by
  unfold elsOf
  rw [List.foldl_append]
  rfl
theorem addTok_len (acc : List El) (t : PT) : (addTok acc t).length ≤ acc.length + 1 := by
  have key : ∀ x : El, (acc ++ [x]).length ≤ acc.length + 1 := fun x => by rw [List.length_append]; exact Nat.le_refl _
  cases t with
  | star =>
    show (if _ then _ else _ : List El).length ≤ _
    split
    · exact Nat.le_succ _
    · exact key _
  | quest => exact key _
  | set => exact key _
  | pl c => exact key _
theorem elsOf_len (l : List PT) : (elsOf l).length ≤ l.length := by
  have key : ∀ (l : List PT) (acc : List El), (l.foldl addTok acc).length ≤ acc.length + l.length := by
    intro l
    induction l with
    | nil => intro acc; exact Nat.le_refl _
    | cons t r ih => intro acc; have := ih (addTok acc t); have := addTok_len acc t; rw [List.foldl_cons, List.length_cons]; lia
  have := key l []
  rw [List.length_nil, Nat.zero_add] at this
  exact this
theorem ptTxt_len (l : List PT) : (ptTxt l).length ≤ 3 * l.length ∧ l.length ≤ (ptTxt l).length := by
  induction l with
  | nil => simp [ptTxt]
  | cons t r ih =>
    rw [ptTxt_cons, List.length_append, List.length_cons]
    have : 1 ≤ t.txt.length ∧ t.txt.length ≤ 3 := by cases t <;> simp [PT.txt]
    lia
section
variable {ro : Nat} {prog : Program} {w : World} {A : Around} {Mut M : List Addr} {s₀ s₁ s : Shared} {env : Env} {H : Heap} {mg mb : Str → Option Value} {ok : Nat → Prop} {st : Addr}
set_option maxHeartbeats 1000000 in
theorem translate_parts_ok (B : Base H mg mb) (LB : LamB H mg) (S : SMap prog w H mg ok) (C : Cx ν (ro + 4) A Mut H s) {toks : List PT} {vp vq : Value} (hp : (vS (T (ptTxt toks))).on (vis ν Mut s.heap) vp) (hq : (vS (T [46])).on (vis ν Mut s.heap) vq)
    (hl : toks.length < 290) (hok : ∀ t ∈ toks, ptOk ok t) :
    Op ν prog w A Mut s (call (.ref 62) [vp, .ref st, vq]) (vL ((elsOf toks).map (vEl st))) := by
  have tl := (ptTxt_len toks).1
  refine fn_callD C (B.df 2) (binds := [("pat", vp), ("STAR", .ref st), ("QUESTION_MARK", vq)]) (fun _ _ _ => rfl) (fun _ x hx => ?_) (fun L cd s' hcd F C' fl => ?_) (by decide)
  · simp only [List.mem_cons, List.not_mem_nil, or_false] at hx
    rcases hx with rfl | rfl | rfl <;> exact .inl rfl
  obtain rfl : cd = .ref 61 := by
    obtain ⟨o, pm, doc, h1, h2⟩ := hcd
    obtain ⟨o', pm', doc', h3, h4⟩ := LB.fn
    rw [h1] at h3
    cases h3
    rw [h2] at h4
    injection h4 with h4
    injection h4
  have hM' : ∀ a ∈ Env.mut (eTr L (.ref 61)), a ∈ Env.mut (eTr L (.ref 61)) ++ Mut := fun a ha => List.mem_append_left _ ha
  refine Xs.cons (Xs.newL F C' hM' (Ps := []) Es.nil (by decide) fun a s₁ f0 aM a57 F₁ C₁ fl₁ st₁ O₁ => ?_)
  have aE : a ∉ Env.mut (eTr L (.ref 61)) := fun h => aM (hM' _ h)
  have hM₁ : ∀ x ∈ Env.mut (eTr L (.ref 61)), x ∈ a :: (Env.mut (eTr L (.ref 61)) ++ Mut) := fun x hx => .tail _ (hM' x hx)
  refine Xs.cons (Xs.assign F₁ C₁ (hM₁ _ (.head _)) (P := vBM a) (Ev.attrAppend C₁ (Ev.name (F₁.var (x := "res") upd_eq) rfl) O₁ a57) fun vb s₂ F₂ C₂ st₂ p₂ => ?_)
  obtain ⟨tp, rfl⟩ := hp
  obtain ⟨tq, rfl⟩ := hq
  refine Xs.cons (Xs.assign2 F₂ C₂ (hM₁ _ (.head _)) (P1 := vI (0 : Nat)) (P2 := vI (ptTxt toks).length) (Ev.tuple C₂ (Es.cons Ev.cInt (Es.cons (Ev.lenS B C₂ (Ev.name (F₂.var (x := "pat") rfl) ⟨tp, rfl⟩) (by lia)) Es.nil)) (by show 2 ≤ sizeLine; decide)) fun v1 v2 s₃ F₃ C₃ st₃ q1 q2 => ?_)
  obtain ⟨t1, rfl⟩ := q1
  obtain ⟨t2, rfl⟩ := q2
  have J : TSt ν (ro + 3) (A.deeper (eTr L (.ref 61))) (a :: (Env.mut (eTr L (.ref 61)) ++ Mut)) H (eTr L (.ref 61)) s (ptTxt toks) st a (elsOf []) 0 _ _ s₃ :=
    ⟨F₃, C₃, ⟨tp, rfl⟩, rfl, ⟨tq, rfl⟩, rfl, ⟨t2, rfl⟩, ⟨vb, rfl, (vBM a).mono st₃.fl p₂⟩, ⟨t1, rfl⟩, (O₁.st st₂ aE a57).st st₃ aE a57⟩
  generalize hcm : (bindC (eTr L (.ref 61)).kindOf [(Str.ofString "pat", Value.str (T (ptTxt toks)) tp), (Str.ofString "STAR", Value.ref st), (Str.ofString "QUESTION_MARK", Value.str (T [46]) tq)] fun _ => none) = cm at *
  refine Xs.cons (Xs.whileM (fun s' => ∃ m, TSt ν (ro + 3) (A.deeper (eTr L (.ref 61))) (a :: (Env.mut (eTr L (.ref 61)) ++ Mut)) H (eTr L (.ref 61)) s (ptTxt toks) st a (elsOf toks) (ptTxt toks).length m cm s')
    (fun k s' => ∃ pre rest m, pre ++ rest = toks ∧ k = rest.length ∧ TSt ν (ro + 3) (A.deeper (eTr L (.ref 61))) (a :: (Env.mut (eTr L (.ref 61)) ++ Mut)) H (eTr L (.ref 61)) s (ptTxt toks) st a (elsOf pre) (ptTxt pre).length m cm s') ?_ toks.length ⟨[], toks, _, rfl, rfl, J⟩ ?_)
  rotate_left
  · rintro s₄ ⟨m, J₄⟩
    refine Xs.cons (Xs.assert ((Eb.eqI J₄.eI J₄.eN).eq (by simp)) fun s₅ k₅ => ?_)
    have J₅ := J₄.at a57 k₅
    exact Xs.cons (Xs.ret (Ev.name (J₅.F.var (x := "res") J₅.res) (J₅.own.free a57 aM)) fun v s'' k pv => ⟨v, rfl, J₅.F.k.trans k, pv⟩)
  rintro k s₄ ⟨pre, rest, m, hpr, rfl, J₄⟩
  cases rest with
  | nil =>
    rw [List.append_nil] at hpr
    subst hpr
    refine ⟨false, (Eb.ltI J₄.eI J₄.eN).eq (decide_eq_false (Int.lt_irrefl _)), (fun h => by cases h), fun _ s₅ k₅ => ⟨m, J₄.at a57 k₅⟩⟩
  | cons t r =>
    have htx : ptTxt toks = ptTxt pre ++ (t.txt ++ ptTxt r) := by rw [← hpr, ptTxt_app, ptTxt_cons]
    have hto : ptOk ok t := hok t (by rw [← hpr]; exact List.mem_append_right _ (.head _))
    have tlen : 1 ≤ t.txt.length := by cases t <;> simp [PT.txt]
    have hlt : (ptTxt pre).length < (ptTxt toks).length := by rw [htx, List.length_append, List.length_append]; lia
    have l9 : (ptTxt toks).length < 900 := by lia
    have zl : (elsOf pre).length < 900 := by
      have := elsOf_len pre
      have : pre.length ≤ toks.length := by rw [← hpr, List.length_append]; lia
      lia
    have zs : ((elsOf pre).map (vEl st)).length ≤ sizeLine := by rw [List.length_map]; exact Nat.le_trans (Nat.le_of_lt zl) (by decide)
    refine ⟨true, (Eb.ltI J₄.eI J₄.eN).eq (decide_eq_true (by lia)), fun _ s₅ k₅ => ?_, (fun h => by cases h)⟩
    have J₅ := J₄.at a57 k₅
    have hL := hM₁ _ (.head _)
    have again : ∀ m s', TSt ν (ro + 3) (A.deeper (eTr L (.ref 61))) (a :: (Env.mut (eTr L (.ref 61)) ++ Mut)) H (eTr L (.ref 61)) s (ptTxt toks) st a (addTok (elsOf pre) t) ((ptTxt pre).length + t.txt.length) m cm s' →
        ∃ k, k < (t :: r).length ∧ ∃ pre rest m, pre ++ rest = toks ∧ k = rest.length ∧ TSt ν (ro + 3) (A.deeper (eTr L (.ref 61))) (a :: (Env.mut (eTr L (.ref 61)) ++ Mut)) H (eTr L (.ref 61)) s (ptTxt toks) st a (elsOf pre) (ptTxt pre).length m cm s' := by
      intro m s' J
      refine ⟨r.length, Nat.lt_succ_self _, pre ++ [t], r, m, by rw [List.append_assoc]; exact hpr, rfl, ?_⟩
      rw [elsOf_snoc, ptTxt_app, List.length_append, show ptTxt [t] = t.txt by simp [ptTxt]]
      exact J
    generalize hc0 : t.txt.getD 0 0 = c0
    have hc : (ptTxt toks)[(ptTxt pre).length]? = some c0 := by
      rw [htx, List.getElem?_append_right (Nat.le_refl _), Nat.sub_self, List.getElem?_append_left (by lia), ← hc0, List.getD_eq_getElem?_getD, List.getElem?_eq_getElem (by lia)]
      rfl
    refine Xs.cons (Xs.assign J₅.F J₅.C hL (P := vS (T [c0])) (J₅.sign l9 J₅.eI hc) fun v s₆ F₆ C₆ st₆ p₆ => ?_)
    obtain ⟨t₆, rfl⟩ := p₆
    have J₆ := J₅.step a57 aE F₆ C₆ st₆ upd_keep (by obtain ⟨t, e⟩ := J₅.iv; exact ⟨t, Eq.trans upd_ne e⟩)
    refine Xs.cons (Xs.assign J₆.F J₆.C hL (P := vI (((ptTxt pre).length + 1 : Nat) : Int)) ((Ev.addI J₆.eI Ev.cInt).imp fun h v q => by rw [nat_add_one] at q; exact q) fun v s₇ F₇ C₇ st₇ p₇ => ?_)
    obtain ⟨t₇, rfl⟩ := p₇
    have J₇ := J₆.step (j := (ptTxt pre).length + 1) a57 aE F₇ C₇ st₇ upd_keep ⟨t₇, upd_eq⟩
    have ec : ∀ {s' : Shared} {q : Pos}, Kp ν s₇ s' → Ev ν prog w (A.deeper (eTr L (.ref 61))) (a :: (Env.mut (eTr L (.ref 61)) ++ Mut)) s' (eval (.Name "c" q) (eTr L (.ref 61))) (vS (T [c0])) := fun k => (Ev.name (P := vS (T [c0])) (J₇.F.var (x := "c") (Eq.trans upd_ne upd_eq)) ⟨t₆, rfl⟩).at k
    cases t with
    | star =>
      obtain rfl : c0 = 42 := hc0.symm
      refine Xs.cons (Xs.if (b := T [42] == T [42]) (Eb.eqS (ec (Kp.refl _)) Ev.cStr) (fun _ s₈ k₈ => ?_) (fun h => absurd h (by decide)))
      have J₈ := J₇.at a57 k₈
      refine Xs.cons (Xs.if (b := !decide ((elsOf pre).getLast? = some none)) ((Eb.or2 (c := ((elsOf pre).getLast?.getD none).isSome) (Eb.not (Eb.truthyOwn J₈.own a57 (by rw [List.length_map]; lia) J₈.eR)) fun hb => ?_).eq ?_) (fun hb s₉ k₉ => ?_) (fun hb s₉ k₉ => ?_))
      · have hne : elsOf pre ≠ [] := by
          intro e
          rw [e] at hb
          exact absurd hb (by simp)
        have hpos : 0 < (elsOf pre).length := List.length_pos_iff.mpr hne
        refine Eb.isNotStar (Ev.itemOwnNeg J₈.own a57 (k := -1) (by decide) (by decide) (by rw [List.length_map]; lia) ?_ J₈.eR (Ev.negI Ev.cInt)) J₈.eS
        rw [List.length_map, show (-1 + ((elsOf pre).length : Int)).toNat = (elsOf pre).length - 1 by lia, List.getElem?_map, List.getLast?_eq_getElem?]
        rw [List.getElem?_eq_getElem (by lia)]
        rfl
      · cases h : (elsOf pre).getLast? with
        | none =>
          have : elsOf pre = [] := List.getLast?_eq_none_iff.mp h
          rw [this]; rfl
        | some o =>
          have hne : elsOf pre ≠ [] := by intro e; rw [e] at h; cases h
          have : ((elsOf pre).map (vEl st)).isEmpty = false := by cases hh : elsOf pre with | nil => exact absurd hh hne | cons _ _ => rfl
          rw [this]
          cases o <;> simp
      · have J₉ := J₈.at a57 k₉
        have e : addTok (elsOf pre) .star = elsOf pre ++ [none] := by
          show (if _ then _ else _) = _
          rw [if_neg (by simpa using hb)]
        refine Xs.cons (Xs.addB J₉.F J₉.C J₉.eA (.head _) f0 aE J₉.own (P := vEl st none) J₉.eS zs (fun s₁₀ F₁₀ C₁₀ st₁₀ O₁₀ => Xs.nil (Xs.nil (Xs.nil (again _ _ (e ▸ J₉.push (x := none) F₁₀ C₁₀ st₁₀ O₁₀))))) rfl rfl rfl)
      · have J₉ := J₈.at a57 k₉
        have e : addTok (elsOf pre) .star = elsOf pre := by
          show (if _ then _ else _) = _
          rw [if_pos (by simpa using hb)]
        have J' := J₉
        rw [← e] at J'
        exact Xs.nil (Xs.nil (Xs.nil (again _ _ J')))
    | quest =>
      obtain rfl : c0 = 63 := hc0.symm
      refine Xs.cons (Xs.if (b := T [63] == T [42]) (Eb.eqS (ec (Kp.refl _)) Ev.cStr) (fun h => absurd h (by decide)) (fun _ s₈ k₈ => ?_))
      refine Xs.cons (Xs.if (b := T [63] == T [63]) (Eb.eqS (ec k₈) Ev.cStr) (fun _ s₉ k₉ => ?_) (fun h => absurd h (by decide)))
      have J₉ := J₇.at a57 (k₈.trans k₉)
      refine Xs.cons (Xs.addB J₉.F J₉.C J₉.eA (.head _) f0 aE J₉.own (P := vEl st (some [46])) J₉.eQ zs (fun s₁₀ F₁₀ C₁₀ st₁₀ O₁₀ => Xs.nil (Xs.nil (Xs.nil (again _ _ (J₉.push (x := some [46]) F₁₀ C₁₀ st₁₀ O₁₀))))) rfl rfl rfl)
    | set =>
      obtain rfl : c0 = 91 := hc0.symm
      refine Xs.cons (Xs.if (b := T [91] == T [42]) (Eb.eqS (ec (Kp.refl _)) Ev.cStr) (fun h => absurd h (by decide)) (fun _ s₈ k₈ => ?_))
      refine Xs.cons (Xs.if (b := T [91] == T [63]) (Eb.eqS (ec k₈) Ev.cStr) (fun h => absurd h (by decide)) (fun _ s₉ k₉ => ?_))
      refine Xs.cons (Xs.if (b := T [91] == T [91]) (Eb.eqS (ec (k₈.trans k₉)) Ev.cStr) (fun _ s₁₀ k₁₀ => ?_) (fun h => absurd h (by decide)))
      have J₁₀ := J₇.at a57 ((k₈.trans k₉).trans k₁₀)
      exact set_arm B LB S.t (p := (ptTxt pre).length) (pre := ptTxt pre) (post := ptTxt r) htx rfl l9 (.head _) f0 aE hM₁ zl J₁₀ fun m' s₁₁ J₁₁ => Xs.nil (Xs.nil (Xs.nil (again _ _ J₁₁)))
    | pl c =>
      obtain rfl : c0 = c := hc0.symm
      obtain ⟨o1, n1, n2, n3⟩ := hto
      have ne : ∀ {d : Nat}, c0 ≠ d → (T [c0] == T [d]) = false := fun {d} h => by rw [beqT]; simpa using h
      refine Xs.cons (Xs.if (b := T [c0] == T [42]) (Eb.eqS (ec (Kp.refl _)) Ev.cStr) (fun h => by rw [ne n1] at h; cases h) (fun _ s₈ k₈ => ?_))
      refine Xs.cons (Xs.if (b := T [c0] == T [63]) (Eb.eqS (ec k₈) Ev.cStr) (fun h => by rw [ne n2] at h; cases h) (fun _ s₉ k₉ => ?_))
      refine Xs.cons (Xs.if (b := T [c0] == T [91]) (Eb.eqS (ec (k₈.trans k₉)) Ev.cStr) (fun h => by rw [ne n3] at h; cases h) (fun _ s₁₀ k₁₀ => ?_))
      have kk := (k₈.trans k₉).trans k₁₀
      have J₁₀ := J₇.at a57 kk
      refine Xs.cons (Xs.addB J₁₀.F J₁₀.C J₁₀.eA (.head _) f0 aE J₁₀.own (P := vEl st (some [c0])) ?_ zs (fun s₁₁ F₁₁ C₁₁ st₁₁ O₁₁ => Xs.nil (Xs.nil (Xs.nil (Xs.nil (again _ _ (J₁₀.push (x := some [c0]) F₁₁ C₁₁ st₁₁ O₁₁)))))) rfl rfl rfl)
      refine Ev.callN (Ps := [vS (T [c0])]) (B.fn J₁₀.C 1) (B.kept J₁₀.C 1) (Es.cons (ec kk) Es.nil) fun vs s₁₁ k₁₁ q => ?_
      obtain ⟨w1, _, rfl, r1, rfl⟩ := q
      exact escape_ok (ro := ro + 2) B S (J₁₀.C.at k₁₁) o1 r1
end
end Mine
set_option maxRecDepth 10000
namespace Mine
open PySem PySem.W PyProof.Rows PySem.Calls PySem.Spec
theorem noDbl_snoc {els : List El} {x : El} (h : NoDbl els) (hx : x = none → els.getLast? ≠ some none) : NoDbl (els ++ [x]) := by
  intro i hi hn
  rw [List.length_append, List.length_singleton] at hi
  by_cases h1 : i + 1 < els.length
  · rw [List.getD_eq_getElem?_getD, List.getElem?_append_left h1, ← List.getD_eq_getElem?_getD]
    refine h i h1 ?_
    rw [List.getD_eq_getElem?_getD, List.getElem?_append_left (by lia), ← List.getD_eq_getElem?_getD] at hn
    exact hn
  · have e : i + 1 = els.length := by lia
    rw [List.getD_eq_getElem?_getD, List.getElem?_append_right (by lia), e, Nat.sub_self]
    show x.isSome = true
    cases x with
    | some l => rfl
    | none =>
      exfalso
      refine hx rfl ?_
      rw [List.getLast?_eq_getElem?, show els.length - 1 = i by lia]
      rw [List.getD_eq_getElem?_getD, List.getElem?_append_left (by lia)] at hn
      rw [List.getElem?_eq_getElem (by lia)] at hn ⊢
      simp at hn ⊢
      exact hn
theorem noDbl_elsOf (l : List PT) : NoDbl (elsOf l) := by
  have key : ∀ (l : List PT) (acc : List El), NoDbl acc → NoDbl (l.foldl addTok acc) := by
    intro l
    induction l with
    | nil => intro acc h; exact h
    | cons t r ih =>
      intro acc h
      refine ih _ ?_
      cases t with
      | star =>
        show NoDbl (if _ then _ else _)
        split
        · exact h
        · rename_i hn; exact noDbl_snoc h fun _ => hn
      | quest => exact noDbl_snoc h fun e => by cases e
      | set => exact noDbl_snoc h fun e => by cases e
      | pl c => exact noDbl_snoc h fun e => by cases e
  exact key l [] fun i hi => absurd hi (by simp)
theorem elsOf_txt (l : List PT) : ∀ e ∈ elsOf l, (txt e).length ≤ 20 := by
  have key : ∀ (l : List PT) (acc : List El), (∀ e ∈ acc, (txt e).length ≤ 20) → ∀ e ∈ l.foldl addTok acc, (txt e).length ≤ 20 := by
    intro l
    induction l with
    | nil => intro acc h; exact h
    | cons t r ih =>
      intro acc h
      refine ih _ ?_
      have sn : ∀ x : El, (txt x).length ≤ 20 → ∀ e ∈ acc ++ [x], (txt e).length ≤ 20 := fun x hx e he => by
        rcases List.mem_append.mp he with he | he
        · exact h e he
        · rw [List.mem_singleton.mp he]; exact hx
      cases t with
      | star =>
        show ∀ e ∈ (if acc.getLast? = some none then acc else acc ++ [none]), _
        split
        · exact h
        · exact sn _ (by decide)
      | quest => exact sn _ (by decide)
      | set => exact sn _ (by decide)
      | pl c => exact sn _ (by simp)
  exact key l [] (by simp)
theorem tw_len {α : Type} (p : α → Bool) (l : List α) : (l.takeWhile p).length + (l.dropWhile p).length = l.length := by
  have := congrArg List.length (List.takeWhile_append_dropWhile (p := p) (l := l))
  rwa [List.length_append] at this
theorem segs_len : ∀ (f : Nat) (l : List El), (∀ e ∈ l, (txt e).length ≤ 20) → (segs f l).length ≤ l.length + 1 ∧ (segs f l).flatten.length ≤ 30 * (l.length + 1)
  | 0, _, _ => by simp [segs]
  | _ + 1, [], _ => by simp [segs]
  | f + 1, x :: r, h => by
    have t := tw_len (·.isSome) r
    have s1 := sum_le (els := r.takeWhile (·.isSome)) fun e he => h e (.tail _ ((List.takeWhile_sublist _).mem he))
    have ih := segs_len f (r.dropWhile (·.isSome)) fun e he => h e (.tail _ ((List.dropWhile_sublist _).mem he))
    unfold segs
    split
    · simp; lia
    · split
      · rename_i hr _
        have : 0 < r.length := List.length_pos_iff.mpr hr
        simp only [List.length_cons, List.length_nil, List.flatten_cons, List.flatten_nil, List.length_append]
        lia
      · simp only [List.length_cons, List.length_nil, List.flatten_cons, List.length_append]
        lia
theorem pieces_len (l : List El) (h : ∀ e ∈ l, (txt e).length ≤ 20) : (pieces l).length ≤ l.length + 1 ∧ (pieces l).flatten.length ≤ 30 * (l.length + 1) := by
  have t := tw_len (·.isSome) l
  have s1 := sum_le (els := l.takeWhile (·.isSome)) fun e he => h e ((List.takeWhile_sublist _).mem he)
  have ih := segs_len l.length (l.dropWhile (·.isSome)) fun e he => h e ((List.dropWhile_sublist _).mem he)
  unfold pieces
  rw [List.flatten_append, List.length_append, List.length_append, List.length_map]
  lia
section
variable {ro : Nat} {prog : Program} {w : World} {A : Around} {Mut M : List Addr} {s₀ s₁ s : Shared} {env : Env} {H : Heap} {mg mb : Str → Option Value} {ok : Nat → Prop} {st : Addr}
noncomputable def vObj : VP := ⟨fun h v => ∃ b, v = .ref b ∧ h.get? b = some objObj, fun x ⟨b, e, o⟩ => ⟨b, e, x _ _ o⟩⟩
theorem op_object (C : Cx ν ro A Mut H s) : Op ν prog w A Mut s (call (.type "object") []) vObj := .mk fun E =>
  call_object ⟨Kp.heap (fl_push _ _).le, _, rfl, vis_push C.old C.tab rfl⟩
theorem translate_ok (B : Base H mg mb) (LB : LamB H mg) (S : SMap prog w H mg ok) (C : Cx ν (ro + 5) A Mut H s) {toks : List PT} {vp : Value} (hp : (vS (T (ptTxt toks))).on (vis ν Mut s.heap) vp)
    (hl : toks.length < 290) (hok : ∀ t ∈ toks, ptOk ok t) :
    Op ν prog w A Mut s (call (.ref 43) [vp]) (vS (T (joinF (elsOf toks)))) := by
  refine fn_call C (B.df 0) (binds := [("pat", vp)]) (fun _ _ _ => rfl) (fun _ x hx => .inl (by rw [List.mem_singleton.mp hx]; rfl)) (fun L cd s' F C' fl => ?_) (by decide)
  have hM' : ∀ a ∈ Env.mut (envOfC "translate" (fScope (nth 3)) L 43 cd), a ∈ Env.mut (envOfC "translate" (fScope (nth 3)) L 43 cd) ++ Mut := fun a ha => List.mem_append_left _ ha
  have el := elsOf_len toks
  have pl := pieces_len _ (elsOf_txt toks)
  refine Xs.cons (Xs.assign F C' (hM' _ (.head _)) (P := vObj) (Ev.callN0 (B.bn C' 11) Kept.type fun s k => op_object (C'.at k)) fun v₁ s₁ F₁ C₁ st₁ p₁ => ?_)
  obtain ⟨st, rfl, _⟩ := p₁
  have hp₁ := (vS (T (ptTxt toks))).mono (fl.trans st₁.fl) hp
  refine Xs.cons (Xs.assign F₁ C₁ (hM' _ (.head _)) (P := vL ((elsOf toks).map (vEl st))) ?_ fun v₂ s₂ F₂ C₂ st₂ p₂ => ?_)
  · refine Ev.callN (Ps := [vS (T (ptTxt toks)), vV (.ref st), vS (T [46])]) (B.fn C₁ 2) (B.kept C₁ 2) (Es.cons (Ev.name (F₁.var (x := "pat") rfl) hp₁) (Es.cons (Ev.name (F₁.var (x := "STAR") upd_eq) rfl) (Es.cons Ev.cStr Es.nil))) fun vs s₂ k q => ?_
    obtain ⟨w1, _, rfl, r1, w2, _, rfl, r2, w3, _, rfl, r3, rfl⟩ := q
    obtain rfl : w2 = .ref st := r2
    exact translate_parts_ok (ro := ro) B LB S (C₁.at k) r1 r3 hl hok
  · refine Xs.cons (Xs.ret (P := vS (T (joinF (elsOf toks)))) ?_ fun v s'' k pv => ⟨v, rfl, F₂.k.trans k, pv⟩)
    refine Ev.callN (Ps := [vL ((elsOf toks).map (vEl st)), vV (.ref st)]) (B.fn C₂ 3) (B.kept C₂ 3) (Es.cons (Ev.name (F₂.var (x := "parts") upd_eq) p₂) (Es.cons (Ev.name (F₂.var (x := "STAR") (Eq.trans upd_ne upd_eq)) rfl) Es.nil)) fun vs s₃ k q => ?_
    obtain ⟨w1, _, rfl, r1, w2, _, rfl, r2, rfl⟩ := q
    obtain rfl : w2 = .ref st := r2
    exact join_ok (ro := ro + 3) B (C₂.at k) r1 (by lia) (elsOf_txt toks) (noDbl_elsOf toks) (by lia) (by lia)
end
end Mine
set_option maxRecDepth 10000
namespace Mine
open PySem PySem.W PyProof.Rows PySem.Calls PySem.Spec
noncomputable def vNew (s : Shared) (Ps : List VP) : VP := ⟨fun h v => ∃ a vs, v = .ref a ∧ h.PlainList a vs.toArray ∧ All2 Ps h vs ∧ s.heap.get? a = none, fun x ⟨a, vs, e, l, q, n⟩ => ⟨a, vs, e, plist_le l x, q.mono x, n⟩⟩
theorem none_of {s s' : Shared} (k : Kp ν s s') {a : Addr} (n57 : a ≠ 57) (h : s'.heap.get? a = none) : s.heap.get? a = none := by
  cases e : s.heap.get? a with
  | none => rfl
  | some o => obtain ⟨sl, e'⟩ := k.le.frm _ o n57 e; rw [h] at e'; cases e'
theorem All2.unsnoc {h : Heap} {p : VP} : ∀ {Ps : List VP} {vs : List Value}, All2 (Ps ++ [p]) h vs → ∃ us v, vs = us ++ [v] ∧ All2 Ps h us ∧ p.on h v
  | [], _, ⟨v, r, e, q, r'⟩ => by
    obtain rfl : r = [] := r'
    exact ⟨[], v, e, rfl, q⟩
  | _ :: _, _, ⟨v, r, e, q, r'⟩ => by
    obtain ⟨us, z, e', q', z'⟩ := All2.unsnoc r'
    exact ⟨v :: us, z, by rw [e, e']; rfl, ⟨v, us, rfl, q, q'⟩, z'⟩
section
variable {ro : Nat} {prog : Program} {w : World} {A : Around} {Mut M : List Addr} {s₀ s₁ s : Shared} {env : Env} {H : Heap} {mg mb : Str → Option Value} {pos : Pos} {m cm : Str → Option Value}
theorem Ev.listNew {elts : List PySem.Expr} {Ps : List VP} (C : Cx ν ro A Mut H s₁) (h : Es ν prog w A Mut s₁ (spliced (backTo pos (starEach elts env))) Ps) (hsz : Ps.length ≤ sizeLine) : Ev ν prog w A Mut s₁ (eval (.List elts pos) env) (vNew s₁ Ps) :=
  .mk fun s E k => List_ (wpAny_mono (h.go s E k) (fun vs s' y => by
    obtain ⟨k1, q⟩ := y
    have C' := C.at (k.trans k1)
    refine wpAny_newObj_type ⟨k1.trans (Kp.heap (fl_push _ _).le), _, vs, rfl, ⟨0, vis_push C'.old C'.tab rfl⟩, q.mono (vis_mono (fl_push _ _).le), ?_⟩ (by show vs.toArray.size ≤ sizeLine; rw [List.size_toArray, q.length]; exact hsz)
    exact none_of (k.trans k1) (size_ne C'.tab).1 (none_of_ge (Nat.le_refl _))) fun _ _ y => y)
theorem Xs.appendV {o e : PySem.Expr} {apos pos' : Pos} {a : Addr} {vs : List Value} {P : VP} {Q : Flow → Shared → Prop} (F : Fm ν env s₀ s m cm) (C : Cx ν ro A Mut H s) (ho : Ev ν prog w A Mut s (eval o env) (vV (.ref a))) (aM : a ∈ Mut) (f0 : s₀.heap.get? a = none) (aE : a ∉ Env.mut env)
    (l : s.heap.PlainList a vs.toArray) (he : Ev ν prog w A Mut s (eval e env) P) (hsz : vs.length ≤ sizeLine)
    (h : ∀ y s', Fm ν env s₀ s' m cm → Cx ν ro A Mut H s' → Step ν [a] Mut s s' → s'.heap.PlainList a (vs ++ [y]).toArray → P.on (vis ν Mut s'.heap) y → Q .next s')
    (hb : attributeBase o "append" env (eval o env) = eval o env := by rfl)
    (hform : ((backTo pos (starEach [e] env)).all (fun x => !x.1) && (backToKw pos (keywordEach [] env)).all (fun x => x.1.isSome)
      && decide (([e] : List PySem.Expr).length + ([] : List PySem.Keyword).length + (if ([] : List PySem.Keyword).isEmpty then 0 else 1) < 30)) = true := by rfl)
    (hl : (apos.endLine == pos.line) = true := by rfl) (ht : backTo pos (starEach [e] env) = [(false, eval e env)] := by rfl)
    (hi : interactive env = false := by rfl) (hs : swapsWith (.Call (.Attribute o "append" apos) [e] [] pos) none pos'.line env = pure false := by rfl) :
    Xs ν prog w A (exec (.Expr (.Call (.Attribute o "append" apos) [e] [] pos) pos') env) Q s := .mk fun E => by
  have n57 : Off ν a := fresh57 F.tab f0
  have kp : ∀ {s₁ : Shared}, Kp ν s s₁ → s₁.heap.PlainList a vs.toArray := fun k => by obtain ⟨n, e⟩ := l; exact ⟨n, k.le.keep _ _ n57 e⟩
  refine wpAny_Expr_any (wpAny_Call_append hb hform hl ht (ho.use (Kp.refl _) fun v s₁ k₁ p₁ => ?_)) hi hs
  obtain rfl : v = .ref a := p₁
  obtain ⟨n₁, e₁⟩ := kp k₁
  refine ⟨a, _, rfl, ⟨_, n₁, e₁, rfl, rfl, rfl⟩, he.use k₁ fun y s₂ k₂ p₂ => ?_⟩
  refine wpAny_list_append_plain (kp (k₁.trans k₂)) (fun h' hl' hs' => ?_) (by rw [List.size_toArray]; exact hsz)
  have fc := (F.at (k₁.trans k₂)).change (tk := s₂.toks) hs' f0 (fun e => aE (e ▸ .head _)) (fun p hp e => aE (e ▸ .tail _ (List.mem_map.mpr ⟨p, hp, rfl⟩))) (Nat.le_refl _)
  have hd : ∃ o, h'.get? a = some o := by obtain ⟨n, e⟩ := hl'; exact ⟨_, e⟩
  have cc := (C.at (k₁.trans k₂)).change (tk := s₂.toks) hs' aM hd (Nat.le_refl _)
  have fl : Fl (vis ν Mut s₂.heap) (vis ν Mut h') := vis_change hs' aM
  exact h y { s₂ with heap := h' } fc cc ((Step.of (k₁.trans k₂)).trans ⟨fl, fun b o nb _ e => (hs'.2 b fun q => nb (q ▸ .head _)).trans e⟩) (by simpa using hl') (P.mono fl p₂)
theorem vis_swap {W : List Addr} {s' : Shared} {c c' : Addr} {N : List Addr} (st : Step ν W (c :: N) s s') (cW : c ∉ W) (hc' : s.heap.get? c' = none) : Fl (vis ν N s.heap) (vis ν (c' :: N) s'.heap) := fun b o e => by
  obtain ⟨e1, n1, n57⟩ := vis_iff.mp e
  have e2 : s'.heap.get? b = some o := by
    by_cases hb : b = c
    · subst hb; exact st.own b o cW n57 e1
    · exact (vis_iff.mp (st.fl b o (vis_iff.mpr ⟨e1, fun hm => (List.mem_cons.mp hm).elim hb n1, n57⟩))).1
  refine vis_iff.mpr ⟨e2, fun hm => ?_, n57⟩
  rcases List.mem_cons.mp hm with rfl | hm
  · rw [hc'] at e1; cases e1
  · exact n1 hm
theorem vis_add {W N : List Addr} {s' : Shared} {L : List Addr} (st : Step ν W N s s') (h : ∀ c ∈ L, s.heap.get? c = none) : Fl (vis ν N s.heap) (vis ν (L ++ N) s'.heap) := fun b o e => by
  obtain ⟨e1, n1, n57⟩ := vis_iff.mp e
  refine vis_iff.mpr ⟨(vis_iff.mp (st.fl b o e)).1, fun hm => ?_, n57⟩
  rcases List.mem_append.mp hm with hm | hm
  · rw [h b hm] at e1; cases e1
  · exact n1 hm
inductive RT
  | gA
  | gB
  | close
  | dot
  | set
  | pl (c : Nat)
noncomputable def RT.txt : RT → List Nat
  | .gA => starA
  | .gB => starB
  | .close => [41]
  | .dot => [46]
  | .set => [91, 42, 93]
  | .pl c => [c]
noncomputable def rtTxt (l : List RT) : List Nat := (l.map RT.txt).flatten
noncomputable abbrev RdSt := List PartR × PartR
noncomputable def addItem (x : RdSt) (i : RItem) : RdSt := (x.1, (x.2.1, x.2.2 ++ [i]))
noncomputable def newPart (x : RdSt) (star : List Nat) : RdSt := (x.1 ++ [x.2], (star, []))
noncomputable def rdTok (x : RdSt) : RT → RdSt
  | .gA => newPart x starA
  | .gB => newPart x starB
  | .close => if x.2.1 = starA then newPart x [] else addItem x ([], false)
  | .dot => addItem x ([], true)
  | .set => addItem x ([42], false)
  | .pl c => addItem x ([c], false)
noncomputable def rdSt (l : List RT) : RdSt := l.foldl rdTok ([], ([], []))
noncomputable def rdOf (l : List RT) : List PartR := (rdSt l).1 ++ [(rdSt l).2]
noncomputable def plainOk (c : Nat) : Prop := c ∉ [46, 94, 36, 42, 43, 63, 123, 125, 124, 40, 41] ∧ c ≠ 91 ∧ c ≠ 92
noncomputable def rtOk : RT → Prop
  | .pl c => plainOk c
  | _ => True
variable {a c : Addr} {text : List Nat} {x : RdSt} {p : Nat} {L : Addr} {cd : Value}
structure RSt (ν : Nat) (ro : Nat) (A : Around) (M : List Addr) (H : Heap) (env : Env) (s₀ : Shared) (text : List Nat) (a c : Addr) (x : RdSt) (p : Nat) (m cm : Str → Option Value) (s : Shared) : Prop where
  F : Fm ν env s₀ s m cm
  C : Cx ν ro A (c :: a :: M) H s
  text : ∃ t, m "text" = some (.str (T text) t)
  parts : m "parts" = some (.ref a)
  place : ∃ t, m "place" = some (.int (p : Int) t)
  oa : Own a (x.1.map vPart ++ [vL [vS (T x.2.1), vV (.ref c)]]) (vis ν (c :: a :: M) s.heap) s.heap
  oc : Own c (x.2.2.map vRd) (vis ν (c :: a :: M) s.heap) s.heap
  fc : s₀.heap.get? c = none
  ca : c ≠ a
  cM : c ∉ M
theorem RSt.at {s' : Shared} (J : RSt ν ro A M H env s₀ text a c x p m cm s) (n57 : Off ν a) (k : Kp ν s s') : RSt ν ro A M H env s₀ text a c x p m cm s' :=
  ⟨J.F.at k, J.C.at k, J.text, J.parts, J.place, J.oa.at k n57, J.oc.at k (fresh57 J.F.tab J.fc), J.fc, J.ca, J.cM⟩
noncomputable abbrev rdNames : List Str := ["text", "parts"]
theorem RSt.step {q : Nat} {m' : Str → Option Value} {s' : Shared} {W : List Addr} (J : RSt ν ro A M H env s₀ text a c x p m cm s) (n57 : Off ν a) (aW : a ∉ W) (cW : c ∉ W) (F' : Fm ν env s₀ s' m' cm) (C' : Cx ν ro A (c :: a :: M) H s') (stp : Step ν W (c :: a :: M) s s')
    (e : ∀ x ∈ rdNames, m' x = m x) (e5 : ∃ t, m' "place" = some (.int (q : Int) t)) : RSt ν ro A M H env s₀ text a c x q m' cm s' :=
  ⟨F', C', (e "text" (by decide)) ▸ J.text, (e "parts" (by decide)) ▸ J.parts, e5, J.oa.st stp aW n57, J.oc.st stp cW (fresh57 J.F.tab J.fc), J.fc, J.ca, J.cM⟩
theorem RSt.push {i : RItem} {s' : Shared} (J : RSt ν ro A M H env s₀ text a c x p m cm s) (n57 : Off ν a) (F' : Fm ν env s₀ s' m cm) (C' : Cx ν ro A (c :: a :: M) H s') (stp : Step ν [c] (c :: a :: M) s s')
    (O : Own c (x.2.2.map vRd ++ [vRd i]) (vis ν (c :: a :: M) s'.heap) s'.heap) : RSt ν ro A M H env s₀ text a c (addItem x i) p m cm s' :=
  ⟨F', C', J.text, J.parts, J.place, J.oa.st stp (by simpa using Ne.symm J.ca) n57, by show Own c ((x.2.2 ++ [i]).map vRd) _ _; rw [List.map_append]; exact O, J.fc, J.ca, J.cM⟩
theorem RSt.newPart_ok {e : PySem.Expr} {star : List Nat} {p1 p2 p3 p4 p5 p6 : Pos} {Q : Flow → Shared → Prop} (J : RSt ν ro A M H env s₀ text a c x p m cm s) (aM : a ∉ M) (f0 : s₀.heap.get? a = none) (hM : ∀ y ∈ Env.mut env, y ∈ M)
    (hkf : env.kindOf "parts" = some .local) (hd : x.1.length < 1000) (he : Ev ν prog w A (c :: a :: M) s (eval e env) (vS (T star)))
    (hse : starEach [e, .List [] p1] env = (false, eval e env) :: starEach [.List [] p1] env)
    (h : ∀ c' s', RSt ν ro A M H env s₀ text a c' (newPart x star) p m cm s' → Q .next s')
    (hkk : env.scope.kind = .function)
    (hb : attributeBase (.Name "parts" p2) "append" env (eval (.Name "parts" p2) env) = eval (.Name "parts" p2) env)
    (hform : ((backTo p5 (starEach [.List [e, .List [] p1] p3] env)).all (fun x => !x.1) && (backToKw p5 (keywordEach [] env)).all (fun x => x.1.isSome)
      && decide (([.List [e, .List [] p1] p3] : List PySem.Expr).length + ([] : List PySem.Keyword).length + (if ([] : List PySem.Keyword).isEmpty then 0 else 1) < 30)) = true)
    (hl : (p4.endLine == p5.line) = true) (ht : backTo p5 (starEach [.List [e, .List [] p1] p3] env) = [(false, eval (.List [e, .List [] p1] p3) env)])
    (hi : interactive env = false) (hs : swapsWith (.Call (.Attribute (.Name "parts" p2) "append" p4) [.List [e, .List [] p1] p3] [] p5) none p6.line env = pure false) :
    Xs ν prog w A (exec (.Expr (.Call (.Attribute (.Name "parts" p2) "append" p4) [.List [e, .List [] p1] p3] [] p5) p6) env) Q s := by
  obtain ⟨vs, l, q⟩ := J.oa.ex
  have hql := q.length
  rw [List.length_append, List.length_map] at hql
  have n57 : Off ν a := fresh57 J.F.tab f0
  refine Xs.appendV (P := vL [vS (T star), vNew s []]) J.F J.C (Ev.name (J.F.var (x := "parts") J.parts hkf) rfl hkk) (.tail _ (.head _)) f0 (fun hm => aM (hM _ hm)) l (Ev.list J.C (Es.cons he (Es.cons (Ev.listNew J.C Es.nil (by decide)) Es.nil) hse) (by show 2 ≤ sizeLine; decide)) (Nat.le_trans (show vs.length ≤ 1001 by rw [hql]; simp; lia) (by decide)) (fun y s' F' C' stp l' py => ?_) hb hform hl ht hi hs
  obtain ⟨b, ys, rfl, lb, v1, _, rfl, ⟨t1, rfl⟩, z, _, rfl, ⟨c', us, rfl, lc', qus, nc'⟩, rfl⟩ := py
  obtain rfl : us = [] := qus
  have nca : a ∉ [c] → c ∉ [a] := fun _ => by simpa using J.ca
  have cW : c ∉ [a] := by simpa using J.ca
  have fl := vis_swap stp cW nc'
  obtain ⟨nc, ec'⟩ := lc'
  obtain ⟨ec1, ec2, ec3⟩ := vis_iff.mp ec'
  obtain ⟨nb, eb⟩ := lb
  obtain ⟨eb1, eb2, eb3⟩ := vis_iff.mp eb
  have ca' : c' ≠ a := fun e => ec2 (e ▸ .tail _ (.head _))
  have bc' : b ≠ c' := fun e => by rw [e, ec1] at eb1; cases eb1
  have C0 := J.C.free
  have C1 := C'.free
  refine h c' s' ⟨F', ⟨C'.hh, C'.dep, C'.un, C'.tab, fun d hd => ?_, C0.base.trans fl, C'.tk⟩, J.text, J.parts, J.place, ⟨vs ++ [.ref b], l', ?_⟩, ⟨[], ⟨nc, ec1⟩, rfl⟩, none_of J.F.k ec3.1 nc', ca', fun hm => ec2 (.tail _ (.tail _ hm))⟩
  · rcases List.mem_cons.mp hd with rfl | hd
    · exact ⟨ec3.1, _, ec1⟩
    · exact C1.old d hd
  · obtain ⟨us, z, rfl, qa, qz⟩ := q.unsnoc
    have qa' := (qa.mono (vis_sub fun d hd => List.mem_cons_of_mem _ hd)).mono fl
    have fr := J.oc.free (fresh57 J.F.tab J.fc) (fun hm => by
      rcases List.mem_cons.mp hm with e | hm
      · exact J.ca e
      · exact J.cM hm)
    have qz' : (vPart x.2).on (vis ν (a :: M) s.heap) z := by
      have qz1 := (vL [vS (T x.2.1), vV (.ref c)]).mono (vis_sub (M := a :: M) fun d hd => List.mem_cons_of_mem c hd) qz
      obtain ⟨bb, zs, rfl, lz, w1, _, rfl, r1, w2, _, rfl, r2, rfl⟩ := qz1
      obtain rfl : w2 = .ref c := r2
      exact ⟨bb, _, rfl, lz, w1, _, rfl, r1, _, _, rfl, fr, rfl⟩
    show All2 ((x.1 ++ [x.2]).map vPart ++ [vL [vS (T star), vV (.ref c')]]) _ _
    rw [List.map_append]
    refine All2.append (All2.snoc ((vPart x.2).mono fl qz') qa') ⟨_, _, rfl, ?_, rfl⟩
    exact ⟨b, _, rfl, ⟨nb, vis_iff.mpr ⟨eb1, fun hm => (List.mem_cons.mp hm).elim bc' fun hm => eb2 (.tail _ hm), eb3⟩⟩, _, _, rfl, ⟨t1, rfl⟩, _, _, rfl, rfl, rfl⟩
end
end Mine
set_option maxRecDepth 10000
namespace Mine
open PySem PySem.W PyProof.Rows PySem.Calls PySem.Spec
open PySem.Builtin.Str (occurrences subAt)
theorem subAt_one {l : List Nat} {d i : Nat} (hi : i < l.length) : subAt (T l) (T [d]) i = (l[i]? == some d) := by
  have e : (T l).cps.extract i (i + (T [d]).length) = #[l[i]] := by
    show l.toArray.extract i (i + 1) = _
    apply Array.ext'
    simp
    rw [List.drop_eq_getElem_cons hi]
    rfl
  unfold subAt
  rw [e, List.getElem?_eq_getElem hi]
  rw [Bool.eq_iff_iff]
  simp
theorem occ_set {text pre post : List Nat} {p : Nat} (ht : text = pre ++ 91 :: 42 :: 93 :: post) (hp : pre.length = p) : ∃ r, occurrences (T text) (T [93]) p text.length 1 = (p + 2) :: r := by
  have t0 : text[p]? = some 91 := by rw [ht, List.getElem?_append_right (by lia), show p - pre.length = 0 by lia]; rfl
  have t1 : text[p + 1]? = some 42 := by rw [ht, List.getElem?_append_right (by lia), show p + 1 - pre.length = 1 by lia]; rfl
  have t2 : text[p + 2]? = some 93 := by rw [ht, List.getElem?_append_right (by lia), show p + 2 - pre.length = 2 by lia]; rfl
  have l2 : p + 2 < text.length := (List.getElem?_eq_some_iff.mp t2).1
  have at_iff : ∀ i, i < text.length → (StrLaws.At (T text) (T [93]) text.length i ↔ text[i]? = some 93) := fun i hi => by
    unfold StrLaws.At
    rw [subAt_one hi]
    have : i + (T [93]).length ≤ text.length := hi
    simp [this]
  have n0 : ¬ StrLaws.At (T text) (T [93]) text.length p := by rw [at_iff p (by lia), t0]; simp
  have n1 : ¬ StrLaws.At (T text) (T [93]) text.length (p + 1) := by rw [at_iff (p + 1) (by lia), t1]; simp
  have y2 : StrLaws.At (T text) (T [93]) text.length (p + 2) := by rw [at_iff (p + 2) l2, t2]
  rw [StrLaws.occ_eq]
  have hr : List.range' p (text.length + 1 - p) = p :: (p + 1) :: (p + 2) :: List.range' (p + 3) (text.length - 2 - p) := by
    rw [show text.length + 1 - p = (text.length - 2 - p) + 1 + 1 + 1 by lia, List.range'_succ, List.range'_succ, List.range'_succ]
  rcases StrLaws.occ_first (T text) (T [93]) text.length 1 (Nat.le_refl _) (List.range' p (text.length + 1 - p)) p (fun i hi => by have := List.mem_range'.mp hi; lia) with ⟨_, hn⟩ | ⟨pre', b, post', e, h0, hb, hn⟩
  · exact absurd y2 (hn _ (by rw [hr]; simp))
  · generalize (forIn (List.range' p (text.length + 1 - p)) ((#[] : Array Nat), p) (StrLaws.occBody (T text) (T [93]) text.length 1)).run.fst = arr at h0 ⊢
    have hb2 : b = p + 2 := by
      rw [hr] at e
      cases pre' with
      | nil => injection e with e1 _; subst e1; exact absurd hb n0
      | cons x1 pre' =>
        injection e with e1 e
        cases pre' with
        | nil => injection e with e2 _; subst e2; exact absurd hb n1
        | cons x2 pre' =>
          injection e with e2 e
          cases pre' with
          | nil => injection e with e3 _; exact e3.symm
          | cons x3 pre' =>
            injection e with e3 e
            subst e3
            exact absurd y2 (hn _ (by simp))
    subst hb2
    have h1 : arr.toList[0]? = some (p + 2) := by simpa using h0
    cases hL : arr.toList with
    | nil => rw [hL] at h1; cases h1
    | cons b t => rw [hL] at h1; simp at h1; exact ⟨t, by rw [h1]⟩
theorem gives_index_from (x y : Str) (i : Int) (t u v : Tok) (k : Nat) (rest : List Nat) (h : occurrences x y (fromIndex x.length i) x.length 1 = k :: rest) : Gives (Builtin.«str.index» ⟨[.str x t, .str y u, .int i v], []⟩) (.int k) := by
  show Gives (match occurrences x y (fromIndex x.length i) (min x.length x.length) 1 with | k :: _ => retInt k | [] => (do rule "str.index.not-found"; raiseError "ValueError" "substring not found")) _
  rw [Nat.min_self, h]
  exact .of_eq rfl
theorem slice_app {pre l : List Nat} {p n : Nat} (hp : pre.length = p) : Txt.slice (T (pre ++ l)) (some (p : Int)) (some ((p + n : Nat) : Int)) = T (l.take n) := by
  rw [slice_ab]
  have : ((T (pre ++ l)).cps.toList.take (p + n)).drop p = l.take n := by
    show ((pre ++ l).take (p + n)).drop p = _
    rw [← hp, List.take_append, List.take_of_length_le (by lia), List.drop_left' rfl]
    congr 1
    lia
  rw [this]
section
variable {ro : Nat} {prog : Program} {w : World} {A : Around} {Mut M : List Addr} {s₀ s₁ s : Shared} {env : Env} {H : Heap} {mg mb : Str → Option Value} {pos : Pos} {m cm : Str → Option Value}
  {a c : Addr} {text : List Nat} {x : RdSt} {p : Nat} {L : Addr} {cd : Value}
theorem op_index {pre post : List Nat} {v u1 u2 : Value} (ht : text = pre ++ 91 :: 42 :: 93 :: post) (hp : pre.length = p) (pv : (vS (T text)).on (vis ν Mut s.heap) v) (p1 : (vS (T [93])).on (vis ν Mut s.heap) u1) (p2 : (vI (p : Int)).on (vis ν Mut s.heap) u2) :
    Op ν prog w A Mut s (call (.builtin "str.index") [v, u1, u2]) (vI ((p + 2 : Nat) : Int)) := .mk fun E => by
  obtain ⟨t, rfl⟩ := pv
  obtain ⟨t1, rfl⟩ := p1
  obtain ⟨t2, rfl⟩ := p2
  obtain ⟨r, hr⟩ := occ_set ht hp
  refine call_gives PySem.F.slot_str_index (typeIs_str _ _ _) PySem.F.entry_str_index (PySem.F.args_str_index_3 _ _ _) (gives_index_from (T text) (T [93]) (p : Int) t t1 t2 (p + 2) r ?_) (show (Made.int ((p + 2 : Nat) : Int)).post _ s from ⟨Kp.tok, _, rfl⟩)
  have e : fromIndex (T text).length (p : Int) = p := by
    unfold fromIndex
    rw [if_neg (by lia)]
    lia
  rw [e]
  have : (T text).length = text.length := by simp [Str.length]
  rw [this]
  exact hr
theorem contains_one (l : List Nat) (d : Nat) : Txt.contains (T l) (T [d]) = decide (d ∈ l) := by
  have := StrLaws.found_one (T l) d
  simpa [Txt.contains] using this
noncomputable abbrev eRd (L : Addr) (cd : Value) : Env := envOfC "_law_read" (fScope (nth 37)) L 166 cd
theorem RSt.eT (J : RSt ν ro A M H (eRd L cd) s₀ text a c x p m cm s) {q : Pos} : Ev ν prog w A (c :: a :: M) s (eval (.Name "text" q) (eRd L cd)) (vS (T text)) := by
  obtain ⟨t, e⟩ := J.text
  exact Ev.name (J.F.var (x := "text") e) ⟨t, rfl⟩
theorem RSt.eP (J : RSt ν ro A M H (eRd L cd) s₀ text a c x p m cm s) {q : Pos} : Ev ν prog w A (c :: a :: M) s (eval (.Name "place" q) (eRd L cd)) (vI (p : Int)) := by
  obtain ⟨t, e⟩ := J.place
  exact Ev.name (J.F.var (x := "place") e) ⟨t, rfl⟩
theorem RSt.sign (J : RSt ν ro A M H (eRd L cd) s₀ text a c x p m cm s) {e : PySem.Expr} {j : Nat} {d : Nat} (hl : text.length < 9000) (he : Ev ν prog w A (c :: a :: M) s (eval e (eRd L cd)) (vI (j : Int))) (hc : text[j]? = some d) {p1 p2 : Pos}
    (hs : ∃ f : Value → Value → List Value, ∀ o i, subscripted e false o i = operate (f o i) (getItem o i) := by exact ⟨fun o i => [o, i], fun _ _ => rfl⟩) : Ev ν prog w A (c :: a :: M) s (eval (.Subscript (.Name "text" p1) e p2) (eRd L cd)) (vS (T [d])) := by
  have hj := (List.getElem?_eq_some_iff.mp hc).1
  exact Ev.itemS (x := T text) (k := (j : Int)) (by lia) (by lia) (by rw [Int.toNat_natCast]; simpa using hc) J.eT he hs
theorem RSt.cur (J : RSt ν ro A M H (eRd L cd) s₀ text a c x p m cm s) (n57 : Off ν a) {p1 p2 p3 p4 : Pos} : Ev ν prog w A (c :: a :: M) s (eval (.Subscript (.Name "parts" p1) (.UnaryOp .USub (.Constant (.int 1) 0 p2) p3) p4) (eRd L cd)) (vL [vS (T x.2.1), vV (.ref c)]) := by
  refine Ev.itemOwnNeg J.oa n57 (k := -1) (by decide) (by decide) (by rw [List.length_append]; simp; lia) ?_ (Ev.name (J.F.var (x := "parts") J.parts) rfl) (Ev.negI Ev.cInt)
  rw [List.length_append, List.length_singleton, List.length_map, show (-1 + ((x.1.length + 1 : Nat) : Int)).toNat = x.1.length by lia, List.getElem?_append_right (by rw [List.length_map]; exact Nat.le_refl _), List.length_map, Nat.sub_self]
  rfl
noncomputable def rdLoop : Stmt := at_ (fBody (nth 37)) 2
noncomputable def rdElif : Stmt := at_ (sElse (at_ (sBody rdLoop) 1)) 0
theorem RSt.item_ok {i : RItem} {v : Value} {Q : Flow → Shared → Prop} (J : RSt ν ro A M H (eRd L cd) s₀ text a c x p m cm s) (aM : a ∉ M) (f0 : s₀.heap.get? a = none) (hM : ∀ y ∈ Env.mut (eRd L cd), y ∈ M) (hd : x.2.2.length < 1000) (hv : m "item" = some v) (pv : (vRd i).on (vis ν (c :: a :: M) s.heap) v)
    (h : ∀ s', RSt ν ro A M H (eRd L cd) s₀ text a c (addItem x i) p m cm s' → Q .next s') : Xs ν prog w A (execs ((sElse rdElif).drop 1) (eRd L cd)) Q s := by
  have n57 : Off ν a := fresh57 J.F.tab f0
  refine Xs.cons (Xs.append (a := c) J.F J.C (Ev.itemL (Ps := [vS (T x.2.1), vV (.ref c)]) (k := 1) (by decide) (by decide) rfl (J.cur n57) Ev.cInt) (.head _) J.fc (fun hm => J.cM (hM _ hm)) J.oc (P := vRd i) (Ev.name (J.F.var (x := "item") hv) pv) (by rw [List.length_map]; exact Nat.le_trans (Nat.le_of_lt hd) (by decide)) fun s' F' C' st' O' => Xs.nil (h s' (J.push n57 F' C' st' O')))
end
end Mine
set_option maxRecDepth 10000
namespace Mine
open PySem PySem.W PyProof.Rows PySem.Calls PySem.Spec
theorem rtTxt_app (a b : List RT) : rtTxt (a ++ b) = rtTxt a ++ rtTxt b := by simp [rtTxt]
theorem rtTxt_cons (a : RT) (b : List RT) : rtTxt (a :: b) = a.txt ++ rtTxt b := by simp [rtTxt]
theorem rtTxt_len (l : List RT) : (rtTxt l).length ≤ 6 * l.length := by
  induction l with
  | nil => simp [rtTxt]
  | cons t r ih =>
    rw [rtTxt_cons, List.length_append, List.length_cons]
    have : t.txt.length ≤ 6 := by cases t <;> simp [RT.txt, starA, starB]
    lia
theorem RT.pos (t : RT) : 1 ≤ t.txt.length := by cases t <;> simp [RT.txt, starA, starB]
theorem rdSt_snoc (a : List RT) (t : RT) : rdSt (a ++ [t]) = rdTok (rdSt a) t := by
  unfold rdSt
  rw [List.foldl_append]
  rfl
theorem rdTok_len (x : RdSt) (t : RT) : (rdTok x t).1.length + (rdTok x t).2.2.length ≤ x.1.length + x.2.2.length + 1 := by
  have n : ∀ st, (newPart x st).1.length + (newPart x st).2.2.length ≤ x.1.length + x.2.2.length + 1 := fun st => by
    show (x.1 ++ [x.2]).length + 0 ≤ _
    rw [List.length_append, List.length_singleton]; lia
  have i : ∀ it, (addItem x it).1.length + (addItem x it).2.2.length ≤ x.1.length + x.2.2.length + 1 := fun it => by
    show x.1.length + (x.2.2 ++ [it]).length ≤ _
    rw [List.length_append, List.length_singleton]; lia
  cases t with
  | gA => exact n _
  | gB => exact n _
  | close =>
    unfold rdTok
    dsimp only
    split
    · exact n _
    · exact i _
  | dot => exact i _
  | set => exact i _
  | pl c => exact i _
theorem rdSt_len (l : List RT) : (rdSt l).1.length + (rdSt l).2.2.length ≤ l.length := by
  have key : ∀ (l : List RT) (x : RdSt), (l.foldl rdTok x).1.length + (l.foldl rdTok x).2.2.length ≤ x.1.length + x.2.2.length + l.length := by
    intro l
    induction l with
    | nil => intro x; exact Nat.le_refl _
    | cons t r ih => intro x; have := ih (rdTok x t); have := rdTok_len x t; rw [List.foldl_cons, List.length_cons]; lia
  have := key l ([], ([], []))
  unfold rdSt
  simpa using this
theorem not42 (r : List RT) (h : ∀ t ∈ r, rtOk t) : (rtTxt r).take 1 ≠ [42] := by
  cases r with
  | nil => simp [rtTxt]
  | cons t r =>
    rw [rtTxt_cons]
    have ht := h t (.head _)
    cases t with
    | pl c =>
      have : c ≠ 42 := fun e => ht.1 (by rw [e]; decide)
      simp [RT.txt, this]
    | _ => simp [RT.txt, starA, starB]
theorem noOpen {d : Nat} {l : List Nat} (h40 : d ≠ 40) (h : d = 46 → l.take 1 ≠ [42]) : (T ((d :: l).take 6) == T starA) = false ∧ (T ((d :: l).take 2) == T starB) = false := by
  rw [beqT, beqT]
  constructor
  · rw [beq_eq_false_iff_ne]
    intro e
    injection e with e1 _
    exact h40 e1
  · rw [beq_eq_false_iff_ne]
    intro e
    injection e with e1 e2
    exact h e1 e2
section
variable {ro : Nat} {prog : Program} {w : World} {A : Around} {Mut M : List Addr} {s₀ s₁ s : Shared} {env : Env} {H : Heap} {mg mb : Str → Option Value} {pos : Pos} {m cm : Str → Option Value}
  {a c : Addr} {text : List Nat} {x : RdSt} {p : Nat} {L : Addr} {cd : Value}
theorem Ev.rd {i : RItem} {e1 e2 : PySem.Expr} (C : Cx ν ro A Mut H s) (h1 : Ev ν prog w A Mut s (eval e1 env) (vS (T i.1))) (h2 : Ev ν prog w A Mut s (eval e2 env) (vB i.2)) (hs : starEach [e1, e2] env = (false, eval e1 env) :: starEach [e2] env) (hs2 : starEach [e2] env = (false, eval e2 env) :: starEach [] env) : Ev ν prog w A Mut s (eval (.List [e1, e2] pos) env) (vRd i) :=
  Ev.list C (Es.cons h1 (Es.cons h2 Es.nil hs2) hs) (by show 2 ≤ sizeLine; decide)
theorem RSt.arm_ok {pre : List Nat} {l : List Nat} {t : RT} {v : Value} {tE : Tok} {Q : Flow → Shared → Prop} (J : RSt ν ro A M H (eRd L cd) s₀ text a c x p m cm s) (aM : a ∉ M) (f0 : s₀.heap.get? a = none) (hM : ∀ y ∈ Env.mut (eRd L cd), y ∈ M) (hd : x.2.2.length < 1000) (hl : text.length < 9000)
    (htx : text = pre ++ (t.txt ++ l)) (hp : pre.length = p) (hok : rtOk t) (hno : t ≠ .gA ∧ t ≠ .gB) (hcl : t = .close → x.2.1 ≠ starA)
    (hi : m "item" = some v) (pv : (vRd ([t.txt.getD 0 0], false)).on (vis ν (c :: a :: M) s.heap) v) (he : m "end" = some (.int ((p + 1 : Nat) : Int) tE))
    (h : ∀ m' t' s', RSt ν ro A M H (eRd L cd) s₀ text a c (rdTok x t) p m' cm s' → m' "end" = some (.int ((p + t.txt.length : Nat) : Int) t') → Q .next s') : Xs ν prog w A (execs (sElse rdElif) (eRd L cd)) Q s := by
  have n57 : Off ν a := fresh57 J.F.tab f0
  have aE : a ∉ Env.mut (eRd L cd) := fun hm => aM (hM _ hm)
  have cE : c ∉ Env.mut (eRd L cd) := fun hm => J.cM (hM _ hm)
  have hL : (eRd L cd).locals ∈ c :: a :: M := .tail _ (.tail _ (hM _ (.head _)))
  have htl := t.pos
  generalize hd0 : t.txt.getD 0 0 = d0 at pv
  have hsgn : text[p]? = some d0 := by
    rw [htx, List.getElem?_append_right (by lia), hp, Nat.sub_self, List.getElem?_append_left (by lia), ← hd0, List.getD_eq_getElem?_getD, List.getElem?_eq_getElem (by lia)]
    rfl
  have sg : ∀ {s' : Shared} {q1 q2 q3 : Pos}, Kp ν s s' → Ev ν prog w A (c :: a :: M) s' (eval (.Subscript (.Name "text" q1) (.Name "place" q2) q3) (eRd L cd)) (vS (T [d0])) := fun k => (J.sign hl J.eP hsgn).at k
  have keep : ∀ {e : PySem.Expr} {q1 q2 : Pos} {s₁ : Shared} (i : RItem), Kp ν s s₁ → rdTok x t = addItem x i → t.txt.length = 1 → Ev ν prog w A (c :: a :: M) s₁ (eval e (eRd L cd)) (vRd i) → swapsWith e (some (.Name "item" q1)) q2.line (eRd L cd) = pure false → Xs ν prog w A (execs [.Assign [.Name "item" q1] e q2] (eRd L cd)) (fun f s' => f = .next ∧ Xs ν prog w A (execs ((sElse rdElif).drop 1) (eRd L cd)) Q s') s₁ := by
    intro e q1 q2 s₁ i k ei e1 hv hsw
    have J₁ := J.at n57 k
    refine Xs.cons (Xs.assign J₁.F J₁.C hL (P := vRd i) hv (fun v' s₂ F₂ C₂ st₂ p₂ => Xs.nil ⟨rfl, ?_⟩) rfl hsw)
    have J₂ := J₁.step n57 aE cE F₂ C₂ st₂ upd_keep (by obtain ⟨t, e⟩ := J₁.place; exact ⟨t, Eq.trans upd_ne e⟩)
    refine J₂.item_ok aM f0 hM hd upd_eq p₂ fun s₃ J₃ => h (upd m "item" v') tE s₃ ?_ (Eq.trans upd_ne (by rw [e1]; exact he))
    rw [ei]
    exact J₃
  have dfl : ∀ {s₁ : Shared}, Kp ν s s₁ → rdTok x t = addItem x ([d0], false) → t.txt.length = 1 → Xs ν prog w A (execs ((sElse rdElif).drop 1) (eRd L cd)) Q s₁ := by
    intro s₁ k ei e1
    have J₁ := J.at n57 k
    refine J₁.item_ok aM f0 hM hd hi ((vRd _).mono (k.vis _) pv) fun s₃ J₃ => h _ tE s₃ ?_ (by rw [e1]; exact he)
    rw [ei]
    exact J₃
  cases t with
  | gA => exact absurd rfl hno.1
  | gB => exact absurd rfl hno.2
  | close =>
    obtain rfl : d0 = 41 := hd0.symm
    have ei : rdTok x .close = addItem x ([], false) := by
      unfold rdTok
      dsimp only
      rw [if_neg (hcl rfl)]
    refine Xs.cons (Xs.if (b := T [41] == T [91]) (Eb.eqS (sg (Kp.refl _)) Ev.cStr) (fun hb => absurd hb (by decide)) (fun _ s₁ k₁ => ?_))
    refine Xs.cons (Xs.if (b := T [41] == T [92]) (Eb.eqS (sg k₁) Ev.cStr) (fun hb => absurd hb (by decide)) (fun _ s₂ k₂ => ?_))
    refine Xs.cons (Xs.if (b := true) ((Eb.cmp (P1 := vS (T [41])) (P2 := vS (T [46, 94, 36, 42, 43, 63, 123, 125, 124, 40, 41])) (b := Txt.contains (T [46, 94, 36, 42, 43, 63, 123, 125, 124, 40, 41]) (T [41])) (sg (k₁.trans k₂)) Ev.cStr (fun v1 v2 s k q1 q2 => op_inS q1 q2) rfl).eq (by rw [contains_one]; decide)) (fun _ s₃ k₃ => ?_) (fun hb => by cases hb))
    refine (keep ([], false) ((k₁.trans k₂).trans k₃) ei rfl (Ev.rd (J.at n57 ((k₁.trans k₂).trans k₃)).C Ev.cStr (Ev.eqS (x := T [41]) (y := T [46]) (sg ((k₁.trans k₂).trans k₃)) Ev.cStr) rfl rfl) rfl).imp fun f s' y => ?_
    obtain ⟨rfl, y⟩ := y
    exact Xs.nil (Xs.nil y)
  | dot =>
    obtain rfl : d0 = 46 := hd0.symm
    refine Xs.cons (Xs.if (b := T [46] == T [91]) (Eb.eqS (sg (Kp.refl _)) Ev.cStr) (fun hb => absurd hb (by decide)) (fun _ s₁ k₁ => ?_))
    refine Xs.cons (Xs.if (b := T [46] == T [92]) (Eb.eqS (sg k₁) Ev.cStr) (fun hb => absurd hb (by decide)) (fun _ s₂ k₂ => ?_))
    refine Xs.cons (Xs.if (b := true) ((Eb.cmp (P1 := vS (T [46])) (P2 := vS (T [46, 94, 36, 42, 43, 63, 123, 125, 124, 40, 41])) (b := Txt.contains (T [46, 94, 36, 42, 43, 63, 123, 125, 124, 40, 41]) (T [46])) (sg (k₁.trans k₂)) Ev.cStr (fun v1 v2 s k q1 q2 => op_inS q1 q2) rfl).eq (by rw [contains_one]; decide)) (fun _ s₃ k₃ => ?_) (fun hb => by cases hb))
    refine (keep ([], true) ((k₁.trans k₂).trans k₃) rfl rfl (Ev.rd (J.at n57 ((k₁.trans k₂).trans k₃)).C Ev.cStr (Ev.eqS (x := T [46]) (y := T [46]) (sg ((k₁.trans k₂).trans k₃)) Ev.cStr) rfl rfl) rfl).imp fun f s' y => ?_
    obtain ⟨rfl, y⟩ := y
    exact Xs.nil (Xs.nil y)
  | pl d =>
    obtain rfl : d0 = d := hd0.symm
    obtain ⟨o1, o2, o3⟩ := hok
    have ne : ∀ {d : Nat}, d0 ≠ d → (T [d0] == T [d]) = false := fun {d} h => by rw [beqT]; simpa using h
    refine Xs.cons (Xs.if (b := T [d0] == T [91]) (Eb.eqS (sg (Kp.refl _)) Ev.cStr) (fun hb => by rw [ne o2] at hb; cases hb) (fun _ s₁ k₁ => ?_))
    refine Xs.cons (Xs.if (b := T [d0] == T [92]) (Eb.eqS (sg k₁) Ev.cStr) (fun hb => by rw [ne o3] at hb; cases hb) (fun _ s₂ k₂ => ?_))
    refine Xs.cons (Xs.if (b := false) ((Eb.cmp (P1 := vS (T [d0])) (P2 := vS (T [46, 94, 36, 42, 43, 63, 123, 125, 124, 40, 41])) (b := Txt.contains (T [46, 94, 36, 42, 43, 63, 123, 125, 124, 40, 41]) (T [d0])) (sg (k₁.trans k₂)) Ev.cStr (fun v1 v2 s k q1 q2 => op_inS q1 q2) rfl).eq (by rw [contains_one]; exact decide_eq_false o1)) (fun hb => by cases hb) (fun _ s₃ k₃ => Xs.nil (Xs.nil (Xs.nil (dfl ((k₁.trans k₂).trans k₃) rfl rfl)))))
  | set =>
    obtain rfl : d0 = 91 := hd0.symm
    refine Xs.cons (Xs.if (b := T [91] == T [91]) (Eb.eqS (sg (Kp.refl _)) Ev.cStr) (fun _ s₁ k₁ => ?_) (fun hb => absurd hb (by decide)))
    have J₁ := J.at n57 k₁
    have htx' : text = pre ++ 91 :: 42 :: 93 :: l := htx
    have t1 : text[p + 1]? = some 42 := by rw [htx', List.getElem?_append_right (by lia), show p + 1 - pre.length = 1 by lia]; rfl
    refine Xs.cons (Xs.assign J₁.F J₁.C hL (P := vI ((p + 3 : Nat) : Int)) ((Ev.addI (a := ((p + 2 : Nat) : Int)) (b := 1) ?_ Ev.cInt).imp fun h v q => by rw [nat_add_one] at q; exact q) fun v₂ s₂ F₂ C₂ st₂ p₂ => ?_)
    · refine Ev.meth (Po := vS (T text)) (Ps := [vS (T [93]), vI (p : Int)]) PySem.F.plainAttrs_str PySem.F.slot_str_index PySem.F.type_str_index J₁.eT (fun v s k q => ?_) (Es.cons Ev.cStr (Es.cons J₁.eP Es.nil)) fun v vs s' k q r => ?_
      · obtain ⟨t, rfl⟩ := q
        exact ⟨typeIs_str _ _ _, fun a e => by cases e⟩
      · obtain ⟨w1, _, rfl, r1, w2, _, rfl, r2, rfl⟩ := r
        exact op_index htx' hp q r1 r2
    obtain ⟨t₂, rfl⟩ := p₂
    have J₂ := J₁.step n57 aE cE F₂ C₂ st₂ upd_keep (by obtain ⟨t, e⟩ := J₁.place; exact ⟨t, Eq.trans upd_ne e⟩)
    have pl1 : ∀ {q1 q2 q3 : Pos}, Ev ν prog w A (c :: a :: M) s₂ (eval (.BinOp (.Name "place" q1) .Add (.Constant (.int 1) 0 q2) q3) (eRd L cd)) (vI ((p + 1 : Nat) : Int)) := fun {q1 q2 q3} => (Ev.addI J₂.eP Ev.cInt).imp fun h v q => by rw [nat_add_one] at q; exact q
    have en1 : ∀ {q1 q2 q3 : Pos}, Ev ν prog w A (c :: a :: M) s₂ (eval (.BinOp (.Name "end" q1) .Sub (.Constant (.int 1) 0 q2) q3) (eRd L cd)) (vI ((p + 2 : Nat) : Int)) := fun {q1 q2 q3} => (Ev.subI (a := ((p + 3 : Nat) : Int)) (b := 1) (Ev.name (P := vI ((p + 3 : Nat) : Int)) (J₂.F.var (x := "end") upd_eq) ⟨t₂, rfl⟩) Ev.cInt).imp fun h v q => by
      rw [show ((p + 3 : Nat) : Int) - 1 = ((p + 2 : Nat) : Int) by lia] at q; exact q
    refine Xs.cons (Xs.assign J₂.F J₂.C hL (P := vRd ([42], false)) (Ev.rd J₂.C ?_ Ev.cBool rfl rfl) fun v₃ s₃ F₃ C₃ st₃ p₃ => Xs.nil ?_)
    · refine Ev.ifExp (b := false) ((Eb.cmp (P1 := vS (T [42])) (P2 := vS (T [94, 92])) (b := Txt.contains (T [94, 92]) (T [42])) (J₂.sign hl pl1 t1) Ev.cStr (fun v1 v2 s k q1 q2 => op_inS q1 q2) rfl).eq (by rw [contains_one]; decide)) (fun hb => by cases hb) fun _ => ?_
      have es : Txt.slice (T text) (some ((p + 1 : Nat) : Int)) (some ((p + 2 : Nat) : Int)) = T [42] := by
        have := slice_app (pre := pre ++ [91]) (l := 42 :: 93 :: l) (p := p + 1) (n := 1) (by simp; lia)
        rw [show (pre ++ [91]) ++ 42 :: 93 :: l = text by rw [htx']; simp] at this
        rw [this]
        rfl
      refine (Ev.sliceS J₂.C J₂.eT (.is pl1) (.is en1) (by show text.toArray.size ≤ _; rw [List.size_toArray]; exact Nat.le_trans (Nat.le_of_lt hl) (by decide))).imp fun h v q => by rw [es] at q; exact q
    · have J₃ := J₂.step n57 aE cE F₃ C₃ st₃ upd_keep (by obtain ⟨t, e⟩ := J₂.place; exact ⟨t, Eq.trans upd_ne e⟩)
      exact J₃.item_ok aM f0 hM hd upd_eq p₃ fun s₄ J₄ => h _ t₂ s₄ J₄ (Eq.trans upd_ne upd_eq)
end
end Mine
set_option maxRecDepth 10000
namespace Mine
open PySem PySem.W PyProof.Rows PySem.Calls PySem.Spec
section
variable {ro : Nat} {prog : Program} {w : World} {A : Around} {Mut M : List Addr} {s₀ s₁ s : Shared} {env : Env} {H : Heap} {mg mb : Str → Option Value} {pos : Pos} {m cm : Str → Option Value}
  {a c : Addr} {x : RdSt} {p : Nat} {L : Addr} {cd : Value}
noncomputable def madeTxt (toks : List RT) : List Nat := [40, 63, 115, 58] ++ rtTxt toks ++ [41, 92, 90]
set_option maxHeartbeats 1000000 in
theorem read_loop (B : Base H mg mb) {toks : List RT} {Q : Flow → Shared → Prop} (hl : toks.length < 900) (hok : ∀ t ∈ toks, rtOk t) (aM : a ∉ M) (f0 : s₀.heap.get? a = none) (hM : ∀ y ∈ Env.mut (eRd L cd), y ∈ M)
    (J : RSt ν ro A M H (eRd L cd) s₀ (rtTxt toks) a c (rdSt []) 0 m cm s)
    (h : ∀ c m s', RSt ν ro A M H (eRd L cd) s₀ (rtTxt toks) a c (rdSt toks) (rtTxt toks).length m cm s' → Q .next s') : Xs ν prog w A (exec rdLoop (eRd L cd)) Q s := by
  have n57 : Off ν a := fresh57 J.F.tab f0
  have aE : a ∉ Env.mut (eRd L cd) := fun hm => aM (hM _ hm)
  have tl := rtTxt_len toks
  refine Xs.while (fun k s' => ∃ pre rest c m, pre ++ rest = toks ∧ k = rest.length ∧ RSt ν ro A M H (eRd L cd) s₀ (rtTxt toks) a c (rdSt pre) (rtTxt pre).length m cm s') ?_ toks.length ⟨[], toks, c, m, rfl, rfl, J⟩
  rintro k s ⟨pre, rest, c, m, hpr, rfl, J⟩
  have eLen : ∀ {q1 q2 q3 : Pos}, Ev ν prog w A (c :: a :: M) s (eval (.Call (.Name "len" q1) [.Name "text" q2] [] q3) (eRd L cd)) (vI (rtTxt toks).length) := fun {q1 q2 q3} => Ev.lenS B J.C J.eT (by lia)
  cases rest with
  | nil =>
    rw [List.append_nil] at hpr
    subst hpr
    exact ⟨false, (Eb.ltI J.eP eLen).eq (decide_eq_false (Int.lt_irrefl _)), (fun h => by cases h), fun _ s' k => h _ _ _ (J.at n57 k)⟩
  | cons t r =>
    have htx : rtTxt toks = rtTxt pre ++ (t.txt ++ rtTxt r) := by rw [← hpr, rtTxt_app, rtTxt_cons]
    have hto : rtOk t := hok t (by rw [← hpr]; exact List.mem_append_right _ (.head _))
    have hro : ∀ t ∈ r, rtOk t := fun t' ht' => hok t' (by rw [← hpr]; exact List.mem_append_right _ (.tail _ ht'))
    have tlen := t.pos
    have hlt : (rtTxt pre).length < (rtTxt toks).length := by rw [htx, List.length_append, List.length_append]; lia
    have l9 : (rtTxt toks).length < 9000 := by lia
    have xl := rdSt_len pre
    have pl : pre.length ≤ toks.length := by rw [← hpr, List.length_append]; lia
    refine ⟨true, (Eb.ltI J.eP eLen).eq (decide_eq_true (by lia)), fun _ s₁ k₁ => ?_, (fun h => by cases h)⟩
    have J₁ := J.at n57 k₁
    have hL : (eRd L cd).locals ∈ c :: a :: M := .tail _ (.tail _ (hM _ (.head _)))
    have cE : c ∉ Env.mut (eRd L cd) := fun hm => J.cM (hM _ hm)
    have again : ∀ c m s', RSt ν ro A M H (eRd L cd) s₀ (rtTxt toks) a c (rdTok (rdSt pre) t) ((rtTxt pre).length + t.txt.length) m cm s' →
        ∃ k, k < (t :: r).length ∧ ∃ pre rest c m, pre ++ rest = toks ∧ k = rest.length ∧ RSt ν ro A M H (eRd L cd) s₀ (rtTxt toks) a c (rdSt pre) (rtTxt pre).length m cm s' := by
      intro c m s' J
      refine ⟨r.length, Nat.lt_succ_self _, pre ++ [t], r, c, m, by rw [List.append_assoc]; exact hpr, rfl, ?_⟩
      rw [rdSt_snoc, rtTxt_app, List.length_append, show rtTxt [t] = t.txt by simp [rtTxt]]
      exact J
    have fin : ∀ c m t' s', RSt ν ro A M H (eRd L cd) s₀ (rtTxt toks) a c (rdTok (rdSt pre) t) (rtTxt pre).length m cm s' → m "end" = some (.int (((rtTxt pre).length + t.txt.length : Nat) : Int) t') →
        Xs ν prog w A (execs ((sBody rdLoop).drop 2) (eRd L cd)) (fun f s₃ => match f with
          | .next => ∃ k, k < (t :: r).length ∧ ∃ pre rest c m, pre ++ rest = toks ∧ k = rest.length ∧ RSt ν ro A M H (eRd L cd) s₀ (rtTxt toks) a c (rdSt pre) (rtTxt pre).length m cm s₃
          | .cont => ∃ k, k < (t :: r).length ∧ ∃ pre rest c m, pre ++ rest = toks ∧ k = rest.length ∧ RSt ν ro A M H (eRd L cd) s₀ (rtTxt toks) a c (rdSt pre) (rtTxt pre).length m cm s₃
          | .brk => Q .next s₃
          | .ret v => Q (.ret v) s₃) s' := by
      intro c m t' s' J he
      refine Xs.cons (Xs.assign J.F J.C (.tail _ (.tail _ (hM _ (.head _)))) (P := vI (((rtTxt pre).length + t.txt.length : Nat) : Int)) (Ev.name (J.F.var (x := "end") he) ⟨t', rfl⟩) fun v s₂ F₂ C₂ st₂ p₂ => Xs.nil ?_)
      obtain ⟨t₂, rfl⟩ := p₂
      exact again c _ s₂ (J.step n57 aE (fun hm => J.cM (hM _ hm)) F₂ C₂ st₂ upd_keep ⟨t₂, upd_eq⟩)
    generalize hd0 : t.txt.getD 0 0 = d0
    have hsgn : (rtTxt toks)[(rtTxt pre).length]? = some d0 := by
      rw [htx, List.getElem?_append_right (Nat.le_refl _), Nat.sub_self, List.getElem?_append_left (by lia), ← hd0, List.getD_eq_getElem?_getD, List.getElem?_eq_getElem (by lia)]
      rfl
    refine Xs.cons (Xs.assign2 J₁.F J₁.C hL (P1 := vI (((rtTxt pre).length + 1 : Nat) : Int)) (P2 := vRd ([d0], false)) (Ev.tuple J₁.C (Es.cons ((Ev.addI J₁.eP Ev.cInt).imp fun h v q => by rw [nat_add_one] at q; exact q) (Es.cons (Ev.rd J₁.C (J₁.sign l9 J₁.eP hsgn) Ev.cBool rfl rfl) Es.nil)) (by show 2 ≤ sizeLine; decide)) fun v1 v2 s₂ F₂ C₂ st₂ q1 q2 => ?_)
    obtain ⟨tE, rfl⟩ := q1
    have J₂ := J₁.step n57 aE cE F₂ C₂ st₂ (fun y hy => (upd_keep (names := rdNames) (y := "end") (by decide) y hy).trans (upd_keep (names := rdNames) (y := "item") (by decide) y hy)) (by obtain ⟨t, e⟩ := J₁.place; exact ⟨t, Eq.trans upd_ne (Eq.trans upd_ne e)⟩)
    have hend : upd (upd m "item" v2) "end" (.int (((rtTxt pre).length + 1 : Nat) : Int) tE) "end" = some (.int (((rtTxt pre).length + 1 : Nat) : Int) tE) := upd_eq
    have hitem : upd (upd m "item" v2) "end" (.int (((rtTxt pre).length + 1 : Nat) : Int) tE) "item" = some v2 := Eq.trans upd_ne upd_eq
    have sl : ∀ {s' : Shared} {n : Nat} {e : PySem.Expr} {q1 q2 q3 q4 : Pos}, Kp ν s₂ s' → Ev ν prog w A (c :: a :: M) s₂ (eval e (eRd L cd)) (vI (((rtTxt pre).length + n : Nat) : Int)) → Ev ν prog w A (c :: a :: M) s' (eval (.Subscript (.Name "text" q1) (.Slice (some (.Name "place" q2)) (some e) none q3) q4) (eRd L cd)) (vS (T ((t.txt ++ rtTxt r).take n))) := by
      intro s' n e q1 q2 q3 q4 k he
      refine (Ev.sliceS J₂.C J₂.eT (.is J₂.eP) (.is he) (by show (rtTxt toks).toArray.size ≤ _; rw [List.size_toArray]; exact Nat.le_trans (Nat.le_of_lt l9) (by decide))).imp (fun h v q => ?_) |>.at k
      rw [htx, slice_app rfl] at q
      exact q
    have pln : ∀ {n : Nat} {q1 q2 q3 : Pos}, Ev ν prog w A (c :: a :: M) s₂ (eval (.BinOp (.Name "place" q1) .Add (.Constant (.int (n : Int)) 0 q2) q3) (eRd L cd)) (vI (((rtTxt pre).length + n : Nat) : Int)) := fun {n q1 q2 q3} => (Ev.addI J₂.eP Ev.cInt).imp fun h v q => by
      rw [show ((rtTxt pre).length : Int) + (n : Int) = (((rtTxt pre).length + n : Nat) : Int) by lia] at q
      exact q
    have sg : ∀ {s' : Shared} {q1 q2 q3 : Pos}, Kp ν s₂ s' → Ev ν prog w A (c :: a :: M) s' (eval (.Subscript (.Name "text" q1) (.Name "place" q2) q3) (eRd L cd)) (vS (T [d0])) := fun k => (J₂.sign l9 J₂.eP hsgn).at k
    have opens : ∀ (n : Nat) (s₃ : Shared), Kp ν s₂ s₃ → t.txt.length = n → (n = 6 ∧ d0 = 40 ∨ n = 2 ∧ d0 ≠ 40) → rdTok (rdSt pre) t = newPart (rdSt pre) t.txt → Xs ν prog w A (execs (sBody (at_ (sBody rdLoop) 1)) (eRd L cd)) (fun f s' => f = .next ∧ Xs ν prog w A (execs ((sBody rdLoop).drop 2) (eRd L cd)) (fun f s₃ => match f with
          | .next => ∃ k, k < (t :: r).length ∧ ∃ pre rest c m, pre ++ rest = toks ∧ k = rest.length ∧ RSt ν ro A M H (eRd L cd) s₀ (rtTxt toks) a c (rdSt pre) (rtTxt pre).length m cm s₃
          | .cont => ∃ k, k < (t :: r).length ∧ ∃ pre rest c m, pre ++ rest = toks ∧ k = rest.length ∧ RSt ν ro A M H (eRd L cd) s₀ (rtTxt toks) a c (rdSt pre) (rtTxt pre).length m cm s₃
          | .brk => Q .next s₃
          | .ret v => Q (.ret v) s₃) s') s₃ := by
      intro n s₃ k₃ hn hcase hrd
      have J₃ := J₂.at n57 k₃
      refine Xs.cons (Xs.assign J₃.F J₃.C hL (P := vI (((rtTxt pre).length + n : Nat) : Int)) ?_ fun v s₄ F₄ C₄ st₄ p₄ => ?_)
      · refine (Ev.addI (a := ((rtTxt pre).length : Int)) (b := (n : Int)) J₃.eP (Ev.ifExp (b := T [d0] == T [40]) (Eb.eqS (sg k₃) Ev.cStr) (fun hb => ?_) (fun hb => ?_))).imp fun h v q => by
          rw [show ((rtTxt pre).length : Int) + (n : Int) = (((rtTxt pre).length + n : Nat) : Int) by lia] at q
          exact q
        · rw [beqT, beq_iff_eq] at hb
          rcases hcase with ⟨rfl, _⟩ | ⟨_, hne⟩
          · exact Ev.cInt
          · injection hb with hb _; exact absurd hb hne
        · rw [beqT, beq_eq_false_iff_ne] at hb
          rcases hcase with ⟨_, e⟩ | ⟨rfl, _⟩
          · rw [e] at hb; exact absurd rfl hb
          · exact Ev.cInt
      · obtain ⟨t₄, rfl⟩ := p₄
        have J₄ := J₃.step n57 aE cE F₄ C₄ st₄ upd_keep (by obtain ⟨t, e⟩ := J₃.place; exact ⟨t, Eq.trans upd_ne e⟩)
        refine Xs.cons (J₄.newPart_ok (star := t.txt) aM f0 hM rfl (by lia) ?_ rfl (fun c' s₅ J₅ => Xs.nil ⟨rfl, fin c' _ t₄ s₅ (by rw [hrd]; exact J₅) (by rw [hn]; exact upd_eq)⟩) rfl rfl rfl rfl rfl rfl rfl)
        refine (Ev.sliceS J₄.C J₄.eT (.is J₄.eP) (.is (Ev.name (P := vI (((rtTxt pre).length + n : Nat) : Int)) (J₄.F.var (x := "end") upd_eq) ⟨t₄, rfl⟩)) (by show (rtTxt toks).toArray.size ≤ _; rw [List.size_toArray]; exact Nat.le_trans (Nat.le_of_lt l9) (by decide))).imp (fun h v q => ?_)
        rw [htx, slice_app rfl, ← hn, List.take_left' rfl] at q
        exact q
    have others : t ≠ .gA ∧ t ≠ .gB → ((T ((t.txt ++ rtTxt r).take 6) == T starA) = false ∧ (T ((t.txt ++ rtTxt r).take 2) == T starB) = false) := by
      intro hno
      have h42 := not42 r hro
      cases t with
      | gA => exact absurd rfl hno.1
      | gB => exact absurd rfl hno.2
      | close => exact noOpen (by decide) (fun e => by cases e)
      | dot => exact noOpen (by decide) fun _ => h42
      | set => exact noOpen (by decide) (fun e => by cases e)
      | pl d =>
        have ho : plainOk d := hto
        exact noOpen (fun e => ho.1 (by rw [e]; decide)) (fun e => absurd (show d ∈ [46, 94, 36, 42, 43, 63, 123, 125, 124, 40, 41] by rw [e]; decide) ho.1)
    have test : ∀ {q1 q2 q3 q4 q5 q6 q7 q8 q9 r1 r2 r3 r4 r5 r6 r7 r8 r9 t1 : Pos} {whole : Sem Value}, Eb ν prog w A s₂ (isTrue (.BoolOp .Or [.Compare (.Subscript (.Name "text" q1) (.Slice (some (.Name "place" q2)) (some (.BinOp (.Name "place" q3) .Add (.Constant (.int 6) 0 q4) q5)) none q6) q7) [.Eq] [.Constant (.str "(?>.*?") 0 q8] q9,
        .Compare (.Subscript (.Name "text" r1) (.Slice (some (.Name "place" r2)) (some (.BinOp (.Name "place" r3) .Add (.Constant (.int 2) 0 r4) r5)) none r6) r7) [.Eq] [.Constant (.str ".*") 0 r8] r9] t1) (eRd L cd) whole) ((T ((t.txt ++ rtTxt r).take 6) == T starA) || (T ((t.txt ++ rtTxt r).take 2) == T starB)) := by
      intro q1 q2 q3 q4 q5 q6 q7 q8 q9 r1 r2 r3 r4 r5 r6 r7 r8 r9 t1 whole
      exact Eb.or2 (Eb.eqS (sl (n := 6) (Kp.refl _) pln) Ev.cStr) fun _ => Eb.eqS (sl (n := 2) (Kp.refl _) pln) Ev.cStr
    by_cases hA : t = .gA
    · subst hA
      refine Xs.cons (Xs.if test (fun _ s₃ k₃ => ?_) (fun hb => ?_))
      · exact (opens 6 s₃ k₃ rfl (.inl ⟨rfl, hd0.symm⟩) rfl).imp fun f s' y => by obtain ⟨rfl, y⟩ := y; exact y
      · have : (T ((RT.gA.txt ++ rtTxt r).take 6) == T starA) = true := by rw [beqT]; rfl
        rw [this] at hb
        cases hb
    by_cases hB : t = .gB
    · subst hB
      refine Xs.cons (Xs.if test (fun _ s₃ k₃ => ?_) (fun hb => ?_))
      · exact (opens 2 s₃ k₃ rfl (.inr ⟨rfl, by rw [← hd0]; decide⟩) rfl).imp fun f s' y => by obtain ⟨rfl, y⟩ := y; exact y
      · have : (T ((RT.gB.txt ++ rtTxt r).take 2) == T starB) = true := by rw [beqT]; rfl
        rw [this, Bool.or_true] at hb
        cases hb
    have ho := others ⟨hA, hB⟩
    refine Xs.cons (Xs.if (b := false) (test.eq (by rw [ho.1, ho.2]; rfl)) (fun hb => by cases hb) (fun _ s₃ k₃ => ?_))
    have J₃ := J₂.at n57 k₃
    refine Xs.cons (Xs.if (b := (T [d0] == T [41]) && (T (rdSt pre).2.1 == T starA)) (Eb.and2 (Eb.eqS (sg k₃) Ev.cStr) fun _ => Eb.eqS (Ev.itemL (Ps := [vS (T (rdSt pre).2.1), vV (.ref c)]) (k := 0) (by decide) (by decide) rfl (J₃.cur n57) Ev.cInt) Ev.cStr) (fun hb s₄ k₄ => ?_) (fun hb s₄ k₄ => ?_))
    · -- the part is closed
      rw [Bool.and_eq_true, beqT, beqT, beq_iff_eq, beq_iff_eq] at hb
      have hd41 : d0 = 41 := by have := hb.1; injection this
      have hcl : t = .close := by
        cases t with
        | gA => exact absurd rfl hA
        | gB => exact absurd rfl hB
        | close => rfl
        | dot => rw [← hd0] at hd41; cases hd41
        | set => rw [← hd0] at hd41; cases hd41
        | pl d =>
          have ho : plainOk d := hto
          rw [← hd0] at hd41
          exact absurd (show d ∈ [46, 94, 36, 42, 43, 63, 123, 125, 124, 40, 41] by rw [show d = 41 from hd41]; decide) ho.1
      subst hcl
      have J₄ := J₃.at n57 k₄
      have hrd : rdTok (rdSt pre) .close = newPart (rdSt pre) [] := by
        unfold rdTok
        dsimp only
        rw [if_pos hb.2]
      refine Xs.cons (J₄.newPart_ok (star := []) aM f0 hM rfl (by lia) Ev.cStr rfl (fun c' s₅ J₅ => Xs.nil (Xs.nil (fin c' _ tE s₅ (by rw [hrd]; exact J₅) hend))) rfl rfl rfl rfl rfl rfl rfl)
    · have J₄ := J₃.at n57 k₄
      have q₄ := (vRd ([d0], false)).mono ((k₃.trans k₄).vis _) q2
      refine (J₄.arm_ok (Q := fun f s' => f = .next ∧ Xs ν prog w A (execs ((sBody rdLoop).drop 2) (eRd L cd)) _ s') (t := t) (l := rtTxt r) (tE := tE) aM f0 hM (by lia) l9 htx rfl hto ⟨hA, hB⟩ (fun e => ?_) hitem (by rw [hd0]; exact q₄) hend (fun m' t' s' J' he' => ⟨rfl, fin c m' t' s' J' he'⟩)).imp fun f s' y => ?_
      · subst e
        intro e2
        rw [← hd0, e2] at hb
        exact absurd hb (by decide)
      · obtain ⟨rfl, y⟩ := y
        exact Xs.nil y
end
end Mine
set_option maxRecDepth 10000
namespace Mine
open PySem PySem.W PyProof.Rows PySem.Calls PySem.Spec
section
variable {ro : Nat} {prog : Program} {w : World} {A : Around} {Mut M : List Addr} {s₀ s₁ s : Shared} {env : Env} {H : Heap} {mg mb : Str → Option Value} {pos : Pos} {m cm : Str → Option Value}
theorem read_ok (B : Base H mg mb) (C : Cx ν (ro + 1) A Mut H s) {toks : List RT} {vm : Value} (hp : (vS (T (madeTxt toks))).on (vis ν Mut s.heap) vm) (hl : toks.length < 900) (hok : ∀ t ∈ toks, rtOk t) :
    Op ν prog w A Mut s (call (.ref 166) [vm]) (vL ((rdOf toks).map vPart)) := by
  refine fn_call C (B.df 14) (binds := [("made", vm)]) (fun _ _ _ => rfl) (fun _ x hx => .inl (by rw [List.mem_singleton.mp hx]; rfl)) (fun L cd s' F C' fl => ?_) (by decide)
  have hM' : ∀ a ∈ Env.mut (eRd L cd), a ∈ Env.mut (eRd L cd) ++ Mut := fun a ha => List.mem_append_left _ ha
  have tl := rtTxt_len toks
  have ml : (madeTxt toks).length = (rtTxt toks).length + 7 := by unfold madeTxt; simp
  have sz : (T (madeTxt toks)).length ≤ sizeLine := by show (madeTxt toks).toArray.size ≤ _; rw [List.size_toArray, ml]; exact Nat.le_trans (show _ ≤ 10000 by lia) (by decide)
  have tln : (T (madeTxt toks)).length = (rtTxt toks).length + 7 := by show (madeTxt toks).toArray.size = _; rw [List.size_toArray, ml]
  have eM : ∀ {s₂ : Shared} {q : Pos}, Kp ν s' s₂ → Ev ν prog w (A.deeper (eRd L cd)) (Env.mut (eRd L cd) ++ Mut) s₂ (eval (.Name "made" q) (eRd L cd)) (vS (T (madeTxt toks))) := fun k => (Ev.name (F.var (x := "made") rfl) ((vS _).mono fl hp)).at k
  have e1 : Txt.slice (T (madeTxt toks)) none (some ((4 : Nat) : Int)) = T [40, 63, 115, 58] := by
    rw [slice_0b]
    rfl
  have e2 : Txt.slice (T (madeTxt toks)) (some (-((3 : Nat) : Int))) none = T [41, 92, 90] := by
    rw [slice_last 3 (by decide), tln]
    have : (T (madeTxt toks)).cps.toList.drop ((rtTxt toks).length + 7 - 3) = [41, 92, 90] := by
      show (([40, 63, 115, 58] ++ rtTxt toks) ++ [41, 92, 90]).drop _ = _
      exact List.drop_left' (by simp)
    rw [this]
  have e3 : Txt.slice (T (madeTxt toks)) (some ((4 : Nat) : Int)) (some (-((3 : Nat) : Int))) = T (rtTxt toks) := by
    rw [slice_neg 4 3 (by decide), tln]
    have : ((T (madeTxt toks)).cps.toList.take ((rtTxt toks).length + 7 - 3)).drop 4 = rtTxt toks := by
      have h1 : (T (madeTxt toks)).cps.toList.take ((rtTxt toks).length + 7 - 3) = [40, 63, 115, 58] ++ rtTxt toks := by
        show (([40, 63, 115, 58] ++ rtTxt toks) ++ [41, 92, 90]).take _ = _
        exact List.take_left' (by simp)
      rw [h1]
      rfl
    rw [this]
  refine Xs.cons (Xs.if (b := (T [40, 63, 115, 58] != T [40, 63, 115, 58]) || (T [41, 92, 90] != T [41, 92, 90])) (Eb.or2 (Eb.neS ((Ev.sliceS C' (eM (Kp.refl _)) .no (.is Ev.cInt) sz).imp fun h v q => by rw [← e1]; exact q) Ev.cStr) fun _ => Eb.neS ((Ev.sliceS C' (eM (Kp.refl _)) (.is (Ev.negI Ev.cInt)) .no sz).imp fun h v q => by rw [← e2]; exact q) Ev.cStr) (fun hb => absurd hb (by decide)) (fun _ s₁ k₁ => Xs.nil ?_))
  have F₁ := F.at k₁
  have C₁ := C'.at k₁
  refine Xs.cons (Xs.assign3 F₁ C₁ (hM' _ (.head _)) (P1 := vS (T (rtTxt toks))) (P2 := vI ((0 : Nat) : Int)) (P3 := vNew s₁ [vL [vS (T []), vNew s₁ []]]) (Ev.tuple C₁ (Es.cons ((Ev.sliceS C₁ (eM k₁) (.is Ev.cInt) (.is (Ev.negI Ev.cInt)) sz).imp fun h v q => by rw [← e3]; exact q) (Es.cons Ev.cInt (Es.cons (Ev.listNew C₁ (Es.cons (Ev.list C₁ (Es.cons Ev.cStr (Es.cons (Ev.listNew C₁ Es.nil (by decide)) Es.nil)) (by show 2 ≤ sizeLine; decide)) Es.nil) (by show 1 ≤ sizeLine; decide)) Es.nil))) (by show 3 ≤ sizeLine; decide)) fun v1 v2 v3 s₂ F₂ C₂ st₂ q1 q2 q3 => ?_)
  obtain ⟨t1, rfl⟩ := q1
  obtain ⟨t2, rfl⟩ := q2
  obtain ⟨a, vs, rfl, la, ⟨w1, _, rfl, ⟨b, ys, rfl, lb, w2, _, rfl, ⟨t3, rfl⟩, w3, _, rfl, ⟨c, us, rfl, lc, qus, nc⟩, rfl⟩, rfl⟩, na⟩ := q3
  obtain rfl : us = [] := qus
  obtain ⟨n1, ea⟩ := la
  obtain ⟨n2, eb⟩ := lb
  obtain ⟨n3, ec⟩ := lc
  obtain ⟨ea1, ea2, ea3⟩ := vis_iff.mp ea
  obtain ⟨eb1, eb2, eb3⟩ := vis_iff.mp eb
  obtain ⟨ec1, ec2, ec3⟩ := vis_iff.mp ec
  have ab : a ≠ b := fun e => by rw [e, eb1] at ea1; cases ea1
  have cb : c ≠ b := fun e => by rw [e, eb1] at ec1; cases ec1
  have ca : c ≠ a := fun e => by rw [e, ea1] at ec1; cases ec1
  have fl₂ : Fl (vis ν (Env.mut (eRd L cd) ++ Mut) s₁.heap) (vis ν (c :: a :: (Env.mut (eRd L cd) ++ Mut)) s₂.heap) := vis_add (L := [c, a]) st₂ fun d hd => by
    rcases List.mem_cons.mp hd with rfl | hd
    · exact nc
    · rw [List.mem_singleton.mp hd]; exact na
  have fa : s.heap.get? a = none := none_of F₁.k ea3.1 na
  have fc : s.heap.get? c = none := none_of F₁.k ec3.1 nc
  have hold : Old (c :: a :: (Env.mut (eRd L cd) ++ Mut)) s₂.heap := fun d hd => by
    rcases List.mem_cons.mp hd with rfl | hd
    · exact ⟨ec3.1, _, ec1⟩
    · rcases List.mem_cons.mp hd with rfl | hd
      · exact ⟨ea3.1, _, ea1⟩
      · exact C₂.old d hd
  have hbn : b ∉ c :: a :: (Env.mut (eRd L cd) ++ Mut) := fun hm => by
    rcases List.mem_cons.mp hm with e | hm
    · exact cb e.symm
    · rcases List.mem_cons.mp hm with e | hm
      · exact ab e.symm
      · exact eb2 hm
  have J : RSt ν ro (A.deeper (eRd L cd)) (Env.mut (eRd L cd) ++ Mut) H (eRd L cd) s (rtTxt toks) a c (rdSt []) 0 _ _ s₂ :=
    ⟨F₂, ⟨C₂.hh, C₂.dep, C₂.un, C₂.tab, hold, C₁.base.trans fl₂, C₂.tk⟩, ⟨t1, rfl⟩, rfl, ⟨t2, rfl⟩, ⟨[.ref b], ⟨n1, ea1⟩, _, _, rfl, ⟨b, [.str (T []) t3, .ref c], rfl, ⟨n2, vis_iff.mpr ⟨eb1, hbn, eb3⟩⟩, _, _, rfl, ⟨t3, rfl⟩, _, _, rfl, rfl, rfl⟩, rfl⟩, ⟨[], ⟨n3, ec1⟩, rfl⟩, fc, ca, ec2⟩
  refine Xs.cons (read_loop B hl hok ea2 fa hM' J fun c' m' s₃ J₃ => ?_)
  have C₃ := J₃.C.free
  have fr := J₃.oc.free (fresh57 J₃.F.tab J₃.fc) (fun hm => by
    rcases List.mem_cons.mp hm with e | hm
    · exact J₃.ca e
    · exact J₃.cM hm)
  have O₃ : Own a ((rdOf toks).map vPart) (vis ν (a :: (Env.mut (eRd L cd) ++ Mut)) s₃.heap) s₃.heap := by
    obtain ⟨vs, l, q⟩ := J₃.oa.ex
    obtain ⟨us, z, rfl, qa, qz⟩ := q.unsnoc
    refine ⟨us ++ [z], l, ?_⟩
    unfold rdOf
    rw [List.map_append]
    refine All2.snoc ?_ (qa.mono (vis_sub fun d hd => List.mem_cons_of_mem _ hd))
    have qz1 := (vL [vS (T (rdSt toks).2.1), vV (.ref c')]).mono (vis_sub (M := a :: (Env.mut (eRd L cd) ++ Mut)) fun d hd => List.mem_cons_of_mem c' hd) qz
    obtain ⟨bb, zs, rfl, lz, w1, _, rfl, r1, w2, _, rfl, r2, rfl⟩ := qz1
    obtain rfl : w2 = .ref c' := r2
    exact ⟨bb, _, rfl, lz, w1, _, rfl, r1, _, _, rfl, fr, rfl⟩
  exact Xs.cons (Xs.ret (Ev.name (J₃.F.var (x := "parts") J₃.parts) (O₃.free ea3 ea2)) fun v s'' k pv => ⟨v, rfl, J₃.F.k.trans k, pv⟩)
end
end Mine
set_option maxRecDepth 10000
namespace Mine
open PySem PySem.W PyProof.Rows PySem.Calls PySem.Spec
noncomputable def skipTo (l : List Str) (x : Str) (k : Nat) : Nat := k + ((l.drop k).takeWhile (· == x)).length
theorem skipTo_eq {l : List Str} {x : Str} {k : Nat} (hk : k < l.length) (h : (l.getD k Str.empty == x) = true) : skipTo l x k = skipTo l x (k + 1) := by
  unfold skipTo
  rw [List.getD_eq_getElem?_getD, List.getElem?_eq_getElem hk] at h
  rw [List.drop_eq_getElem_cons hk, List.takeWhile_cons]
  simp only [Option.getD_some] at h
  rw [if_pos h, List.length_cons]
  lia
theorem skipTo_ne {l : List Str} {x : Str} {k : Nat} (hk : k < l.length) (h : (l.getD k Str.empty == x) = false) : skipTo l x k = k := by
  unfold skipTo
  rw [List.getD_eq_getElem?_getD, List.getElem?_eq_getElem hk] at h
  rw [List.drop_eq_getElem_cons hk, List.takeWhile_cons]
  simp only [Option.getD_some] at h
  rw [if_neg (by rw [h]; decide)]
  rfl
theorem skipTo_end {l : List Str} {x : Str} : skipTo l x l.length = l.length := by
  unfold skipTo
  rw [List.drop_length]
  rfl
section
variable {ro : Nat} {prog : Program} {w : World} {A A' : Around} {M : List Addr} {s₀ s₁ s : Shared} {H : Heap} {mg mb : Str → Option Value} {pos : Pos} {m cm : Str → Option Value}
variable {L a b : Addr} {cd : Value} {ex ac ms us : List Str} {i j : Nat}
structure Held (ν : Nat) (ro : Nat) (A A' : Around) (M : List Addr) (H : Heap) (L : Addr) (cd : Value) (s₀ : Shared) (ex ac ms us : List Str) (a b : Addr) (i j : Nat) (m cm : Str → Option Value) (s : Shared) (e : Addr) (fl : Value) : Prop where
  x : ∃ T c, SSt ν ro A' (e :: T :: M) H L cd s₀ ex ac ms us a b i j m cm s ∧ Trc s.heap e T fl c ∧ (A.handled = none → c = .none) ∧ s₀.heap.get? e = none ∧ s₀.heap.get? T = none ∧ a ≠ T ∧ b ≠ T ∧ T ≠ L ∧ e ≠ L
noncomputable abbrev FrOk (ν : Nat) (A : Around) (env : Env) : Prop := ∃ eL, A.frames = some [env, eL] ∧ eL.frame = some ν ∧ eL.scope.kind ≠ .module
theorem fresh_to {e T : Addr} (J : SSt ν ro A' M H L cd s₀ ex ac ms us a b i j m cm s) (ne : s.heap.get? e = none) (nT : s.heap.get? T = none) (he : e ≠ 57) (hT : T ≠ 57) : s₀.heap.get? e = none ∧ s₀.heap.get? T = none ∧ a ≠ T ∧ b ≠ T ∧ T ≠ L ∧ e ≠ L := by
  obtain ⟨oa, ha⟩ := J.om.stands
  obtain ⟨ob, hb⟩ := J.ou.stands
  obtain ⟨oL, hL, _⟩ := J.Ldata
  exact ⟨none_of J.F.k he ne, none_of J.F.k hT nT, fun q => (by rw [q, nT] at ha; cases ha), fun q => (by rw [q, nT] at hb; cases hb), fun q => (by rw [q] at nT; rw [show (eSl L cd).locals = L from rfl, nT] at hL; cases hL), fun q => (by rw [q] at ne; rw [show (eSl L cd).locals = L from rfl, ne] at hL; cases hL)⟩
theorem Fresh.held {s' s1 : Shared} {e : Addr} {E : Value → Shared → Prop} (x : Fresh ν A s' s1 e) (J : SSt ν ro A' M H L cd s₀ ex ac ms us a b i j m cm s') (fr : FrOk ν A (eSl L cd))
    (h : ∀ s2, Held ν ro A A' M H L cd s₀ ex ac ms us a b i j m cm s2 e (rawInt L) → E (.ref e) s2) : notedBy (model prog w) A (eSl L cd) (cameBackBy (model prog w) A (eSl L cd) E) (.ref e) s1 := by
  show wpAny _ _ _ _ _ _
  refine Fresh.note x fr (show ScopeKind.function ≠ ScopeKind.module by decide) rfl J.nuS J.Ldata fun s2 T c X ne nT t hc => ?_
  have he := (off_of J.C.tab ne).1
  have hT := (off_of J.C.tab nT).1
  obtain ⟨f1, f2, f3, f4, f5, f6⟩ := fresh_to J ne nT he hT
  refine came_back t rfl fun h' hs t' => h _ ⟨T, c, ?_, t', hc, f1, f2, f3, f4, f5, f6⟩
  obtain ⟨oe, vs, oT, ts, _, _, _, _, _, _, t2, _⟩ := t'
  exact (J.exc X ne nT t).chg hs (.tail _ (.head _)) ⟨_, t2⟩ f2 f3 f4 f5
theorem upd_ne' {m : Str → Option Value} {x y : Str} {v : Value} (h : y ≠ x) : upd m x v y = m y := if_neg h
theorem scanI {x : Str} {tx : Tok} {k0 : Nat} {p1 p2 p3 p4 p5 p6 p7 p8 p9 : Pos} {E : Value → Shared → Prop} {Q : Flow → Shared → Prop} (J : SSt ν ro A' M H L cd s₀ ex ac ms us a b k0 j m cm s) (hx : m "e" = some (.str x tx)) (hk : k0 ≤ ex.length) (hl : ex.length < 1000) (fr : FrOk ν A (eSl L cd)) (hc : CtxOk ν A s)
    (hQ : ∀ m' s', (∀ y : Str, y ≠ "i" → m' y = m y) → Step ν (Env.mut (eSl L cd)) M s s' → SSt ν ro A' M H L cd s₀ ex ac ms us a b (skipTo ex x k0) j m' cm s' → skipTo ex x k0 < ex.length → Q .next s')
    (hE : ∀ m' s' e, (∀ y : Str, y ≠ "i" → m' y = m y) → Held ν ro A A' M H L cd s₀ ex ac ms us a b (skipTo ex x k0) j m' cm s' e (rawInt L) → skipTo ex x k0 = ex.length → E (.ref e) s') :
    wpAny (model prog w) A (exec (.While (.Compare (.Subscript (.Name "expected" p1) (.Name "i" p2) p3) [.Eq] [.Name "e" p4] p5) [.AugAssign (.Name "i" p6) .Add (.Constant (.int 1) 0 p7) p8] [] p9) (eSl L cd)) Q E s := by
  refine wpAny_While (codeAny_whileLoop (fun n s' => ∃ k m', n + k = ex.length ∧ k0 ≤ k ∧ skipTo ex x k0 = skipTo ex x k ∧ (∀ y : Str, y ≠ "i" → m' y = m y) ∧ Step ν (Env.mut (eSl L cd)) M s s' ∧ CtxOk ν A s' ∧ SSt ν ro A' M H L cd s₀ ex ac ms us a b k j m' cm s') ?_ (ex.length - k0) ⟨k0, m, by lia, Nat.le_refl _, rfl, fun _ _ => rfl, Step.refl, hc, J⟩)
  rintro n s₁ ⟨k, m', hn, hk0, hsk, hm, st, hc', J'⟩
  have hx' : m' "e" = some (.str x tx) := (hm _ (by decide)).trans hx
  have eE : ∀ {q : Pos} {s' : Shared}, Kp ν s₁ s' → Ev ν prog w A M s' (eval (.Name "e" q) (eSl L cd)) (vS x) := fun kk => (Ev.name (P := vS x) (J'.F.var (x := "e") hx') ⟨tx, rfl⟩).at kk
  by_cases hlt : k < ex.length
  · have hitem : (ex.map vS)[(k : Int).toNat]? = some (vS (ex.getD k Str.empty)) := by
      rw [Int.toNat_natCast, List.getElem?_map, List.getD_eq_getElem?_getD, List.getElem?_eq_getElem hlt]; rfl
    have tst : Eb ν prog w A s₁ (isTrue (.Compare (.Subscript (.Name "expected" p1) (.Name "i" p2) p3) [.Eq] [.Name "e" p4] p5) (eSl L cd) (eval (.Compare (.Subscript (.Name "expected" p1) (.Name "i" p2) p3) [.Eq] [.Name "e" p4] p5) (eSl L cd))) (ex.getD k Str.empty == x) :=
      Eb.eqS (Ev.itemL (by lia) (by lia) hitem J'.eX J'.eI) (eE (Kp.refl _))
    refine tst.use (Kp.refl _) fun s₂ k₂ => ?_
    have J₂ := J'.at k₂
    cases hb : (ex.getD k Str.empty == x) with
    | true =>
      simp only [if_true]
      obtain ⟨t, e⟩ := J₂.iv
      refine wpAny_execs_cons (wpAny_mono ((Xs.augI (prog := prog) (w := w) (A := A) (pos := p8) (p := p6) (Q := fun f s₃ => f = .next ∧ ∃ k', k' < n ∧ ∃ k m', k' + k = ex.length ∧ k0 ≤ k ∧ skipTo ex x k0 = skipTo ex x k ∧ (∀ y : Str, y ≠ "i" → m' y = m y) ∧ Step ν (Env.mut (eSl L cd)) M s s₃ ∧ CtxOk ν A s₃ ∧ SSt ν ro A' M H L cd s₀ ex ac ms us a b k j m' cm s₃) J₂.F J₂.C J₂.hM e (Ev.cInt (Mut := M) (k := 0) (pos := p7)) (fun t' s₃ F₃ C₃ st₃ => ?_) rfl).go _) (fun f s₃ y => ?_) fun _ _ y => y)
      · refine ⟨rfl, ex.length - (k + 1), by lia, k + 1, _, by lia, by lia, hsk.trans (skipTo_eq hlt hb), fun y hy => (upd_ne' hy).trans (hm y hy), st.trans ((Step.of k₂).trans st₃), ?_, J₂.step F₃ C₃ st₃ upd_keep ⟨t', upd_eq⟩ (by obtain ⟨t, e⟩ := J₂.jv; exact ⟨t, Eq.trans upd_ne e⟩)⟩
        rcases (hc'.at k₂) with h | ⟨e1, o1, vs1, h1, h2, h3, h4, h5⟩
        · exact .inl h
        · exact .inr ⟨e1, o1, vs1, h1, st₃.own _ _ (fun hm => by
            rw [List.mem_singleton.mp hm] at h2
            obtain ⟨oL, hL, dL⟩ := J₂.Ldata
            rw [h2] at hL
            cases hL
            exact dL _ h3) h5 h2, h3, h4, h5⟩
      · obtain ⟨rfl, y⟩ := y
        exact wpAny_execs_nil y
    | false =>
      simp only [Bool.false_eq_true, if_false]
      have hs : skipTo ex x k0 = k := hsk.trans (skipTo_ne hlt hb)
      refine wpAny_execs_nil (hQ m' s₂ hm (st.trans (Step.of k₂)) ?_ (by lia))
      rw [hs]
      exact J₂
  · have hke : k = ex.length := by lia
    refine wpAny_isTrue_Compare1 (sub_raise (k := (k : Int)) J'.eX J'.eI (by rw [List.length_map]; lia) (by lia) hc' (Kp.refl _) fun s' s1 e kk fz => ?_) rfl
    refine fz.held (J'.at kk) fr fun s2 hd => hE m' s2 e hm ?_ (by rw [hsk, hke]; exact skipTo_end)
    rw [show skipTo ex x k0 = k by rw [hsk, hke]; exact skipTo_end]
    exact hd
theorem scanJ {x : Str} {tx : Tok} {k0 : Nat} {p1 p2 p3 p4 p5 p6 p7 p8 p9 : Pos} {E : Value → Shared → Prop} {Q : Flow → Shared → Prop} (J : SSt ν ro A' M H L cd s₀ ex ac ms us a b i k0 m cm s) (hx : m "a" = some (.str x tx)) (hk : k0 ≤ ac.length) (hl : ac.length < 1000) (fr : FrOk ν A (eSl L cd)) (hc : CtxOk ν A s)
    (hQ : ∀ m' s', (∀ y : Str, y ≠ "j" → m' y = m y) → Step ν (Env.mut (eSl L cd)) M s s' → SSt ν ro A' M H L cd s₀ ex ac ms us a b i (skipTo ac x k0) m' cm s' → skipTo ac x k0 < ac.length → Q .next s')
    (hE : ∀ m' s' e, (∀ y : Str, y ≠ "j" → m' y = m y) → Held ν ro A A' M H L cd s₀ ex ac ms us a b i (skipTo ac x k0) m' cm s' e (rawInt L) → skipTo ac x k0 = ac.length → E (.ref e) s') :
    wpAny (model prog w) A (exec (.While (.Compare (.Subscript (.Name "actual" p1) (.Name "j" p2) p3) [.Eq] [.Name "a" p4] p5) [.AugAssign (.Name "j" p6) .Add (.Constant (.int 1) 0 p7) p8] [] p9) (eSl L cd)) Q E s := by
  refine wpAny_While (codeAny_whileLoop (fun n s' => ∃ k m', n + k = ac.length ∧ k0 ≤ k ∧ skipTo ac x k0 = skipTo ac x k ∧ (∀ y : Str, y ≠ "j" → m' y = m y) ∧ Step ν (Env.mut (eSl L cd)) M s s' ∧ CtxOk ν A s' ∧ SSt ν ro A' M H L cd s₀ ex ac ms us a b i k m' cm s') ?_ (ac.length - k0) ⟨k0, m, by lia, Nat.le_refl _, rfl, fun _ _ => rfl, Step.refl, hc, J⟩)
  rintro n s₁ ⟨k, m', hn, hk0, hsk, hm, st, hc', J'⟩
  have hx' : m' "a" = some (.str x tx) := (hm _ (by decide)).trans hx
  have eE : ∀ {q : Pos} {s' : Shared}, Kp ν s₁ s' → Ev ν prog w A M s' (eval (.Name "a" q) (eSl L cd)) (vS x) := fun kk => (Ev.name (P := vS x) (J'.F.var (x := "a") hx') ⟨tx, rfl⟩).at kk
  by_cases hlt : k < ac.length
  · have hitem : (ac.map vS)[(k : Int).toNat]? = some (vS (ac.getD k Str.empty)) := by
      rw [Int.toNat_natCast, List.getElem?_map, List.getD_eq_getElem?_getD, List.getElem?_eq_getElem hlt]; rfl
    have tst : Eb ν prog w A s₁ (isTrue (.Compare (.Subscript (.Name "actual" p1) (.Name "j" p2) p3) [.Eq] [.Name "a" p4] p5) (eSl L cd) (eval (.Compare (.Subscript (.Name "actual" p1) (.Name "j" p2) p3) [.Eq] [.Name "a" p4] p5) (eSl L cd))) (ac.getD k Str.empty == x) :=
      Eb.eqS (Ev.itemL (by lia) (by lia) hitem J'.eA J'.eJ) (eE (Kp.refl _))
    refine tst.use (Kp.refl _) fun s₂ k₂ => ?_
    have J₂ := J'.at k₂
    cases hb : (ac.getD k Str.empty == x) with
    | true =>
      simp only [if_true]
      obtain ⟨t, e⟩ := J₂.jv
      refine wpAny_execs_cons (wpAny_mono ((Xs.augI (prog := prog) (w := w) (A := A) (pos := p8) (p := p6) (Q := fun f s₃ => f = .next ∧ ∃ k', k' < n ∧ ∃ k m', k' + k = ac.length ∧ k0 ≤ k ∧ skipTo ac x k0 = skipTo ac x k ∧ (∀ y : Str, y ≠ "j" → m' y = m y) ∧ Step ν (Env.mut (eSl L cd)) M s s₃ ∧ CtxOk ν A s₃ ∧ SSt ν ro A' M H L cd s₀ ex ac ms us a b i k m' cm s₃) J₂.F J₂.C J₂.hM e (Ev.cInt (Mut := M) (k := 0) (pos := p7)) (fun t' s₃ F₃ C₃ st₃ => ?_) rfl).go _) (fun f s₃ y => ?_) fun _ _ y => y)
      · refine ⟨rfl, ac.length - (k + 1), by lia, k + 1, _, by lia, by lia, hsk.trans (skipTo_eq hlt hb), fun y hy => (upd_ne' hy).trans (hm y hy), st.trans ((Step.of k₂).trans st₃), ?_, J₂.step F₃ C₃ st₃ upd_keep (by obtain ⟨t, e⟩ := J₂.iv; exact ⟨t, Eq.trans upd_ne e⟩) ⟨t', upd_eq⟩⟩
        rcases (hc'.at k₂) with h | ⟨e1, o1, vs1, h1, h2, h3, h4, h5⟩
        · exact .inl h
        · exact .inr ⟨e1, o1, vs1, h1, st₃.own _ _ (fun hm => by
            rw [List.mem_singleton.mp hm] at h2
            obtain ⟨oL, hL, dL⟩ := J₂.Ldata
            rw [h2] at hL
            cases hL
            exact dL _ h3) h5 h2, h3, h4, h5⟩
      · obtain ⟨rfl, y⟩ := y
        exact wpAny_execs_nil y
    | false =>
      simp only [Bool.false_eq_true, if_false]
      have hs : skipTo ac x k0 = k := hsk.trans (skipTo_ne hlt hb)
      refine wpAny_execs_nil (hQ m' s₂ hm (st.trans (Step.of k₂)) ?_ (by lia))
      rw [hs]
      exact J₂
  · have hke : k = ac.length := by lia
    refine wpAny_isTrue_Compare1 (sub_raise (k := (k : Int)) J'.eA J'.eJ (by rw [List.length_map]; lia) (by lia) hc' (Kp.refl _) fun s' s1 e kk fz => ?_) rfl
    refine fz.held (J'.at kk) fr fun s2 hd => hE m' s2 e hm ?_ (by rw [hsk, hke]; exact skipTo_end)
    rw [show skipTo ac x k0 = k by rw [hsk, hke]; exact skipTo_end]
    exact hd
end
end Mine
set_option maxRecDepth 10000
namespace Mine
open PySem PySem.W PyProof.Rows PySem.Calls PySem.Spec
section
variable {ro : Nat} {prog : Program} {w : World} {A A' : Around} {M : List Addr} {s₀ s₁ s : Shared} {H : Heap} {mg mb : Str → Option Value} {pos : Pos} {m cm : Str → Option Value} {env : Env}
variable {L a b : Addr} {cd : Value} {ex ac ms us : List Str} {i j : Nat}
theorem Xs.extend {o e : PySem.Expr} {apos pos' : Pos} {a : Addr} {Ps Qs : List VP} {Q : Flow → Shared → Prop} (F : Fm ν env s₀ s m cm) (C : Cx ν ro A' M H s) (ho : Ev ν prog w A M s (eval o env) (vV (.ref a))) (aM : a ∈ M) (f0 : s₀.heap.get? a = none) (aE : a ∉ Env.mut env)
    (O : Own a Ps (vis ν M s.heap) s.heap) (he : Ev ν prog w A M s (eval e env) (vL Qs)) (hsz : Ps.length + Qs.length ≤ sizeLine)
    (h : ∀ s', Fm ν env s₀ s' m cm → Cx ν ro A' M H s' → Step ν [a] M s s' → Own a (Ps ++ Qs) (vis ν M s'.heap) s'.heap → Q .next s')
    (hb : attributeBase o "extend" env (eval o env) = eval o env := by rfl)
    (hform : ((backTo pos (starEach [e] env)).all (fun x => !x.1) && (backToKw pos (keywordEach [] env)).all (fun x => x.1.isSome)
      && decide (([e] : List PySem.Expr).length + ([] : List PySem.Keyword).length + (if ([] : List PySem.Keyword).isEmpty then 0 else 1) < 30)) = true := by rfl)
    (hl : (apos.endLine == pos.line) = true := by rfl) (hst : starEach [e] env = (false, eval e env) :: starEach [] env := by rfl)
    (hi : interactive env = false := by rfl) (hs : swapsWith (.Call (.Attribute o "extend" apos) [e] [] pos) none pos'.line env = pure false := by rfl) :
    Xs ν prog w A (exec (.Expr (.Call (.Attribute o "extend" apos) [e] [] pos) pos') env) Q s := .mk fun E => by
  have n57 : Off ν a := fresh57 F.tab f0
  refine wpAny_Expr_any (wpAny_Call_method_late hb hform hl rfl (ho.use (Kp.refl _) fun v s₁ k₁ p₁ => ?_)) hi hs
  obtain rfl : v = .ref a := p₁
  have O₁ := O.at k₁ n57
  obtain ⟨vs₁, ⟨n₁, e₁⟩, q₁⟩ := O₁.ex
  refine ⟨"list", "list.extend", PySem.F.plainAttrs_list, PySem.F.slot_list_extend, PySem.F.type_list_extend, ⟨_, e₁, rfl⟩, (fun a' e => by cases e; exact ⟨_, e₁, rfl⟩), ?_⟩
  refine callWith_of (P := fun h => Kept h (.builtin "list.extend")) (by rw [hst]; rfl) (fun h x => x _) ?_
  have h2 : wpAny (model prog w) A (spliced (backTo pos (starEach [e] env))) (fun vs s' => Kept s'.heap (.builtin "list.extend") ∧ wpAny (model prog w) A (call (.builtin "list.extend") ([.ref a] ++ vs)) (fun _ => Q Flow.next) E s') E s₁ := by
    refine spliced_more (he.use k₁ fun y s₂ k₂ p₂ => ?_) hst
    refine spliced_none ?_
    refine ⟨Kept.builtin, ?_⟩
    obtain ⟨b, us, rfl, ⟨nb, eb⟩, qb⟩ := p₂
    have eb' := vis_le _ _ eb
    have O₂ := O₁.at k₂ n57
    obtain ⟨vs, ⟨n, ea⟩, q⟩ := O₂.ex
    have l1 := q.length
    have l2 := qb.length
    have hz : vs.toArray.size + us.toArray.size ≤ sizeLine := by rw [List.size_toArray, List.size_toArray, l1, l2]; exact hsz
    show wpAny _ _ (call (.builtin "list.extend") (.ref a :: [.ref b])) _ _ _
    refine call_meets PySem.F.slot_list_extend (⟨_, ea, rfl⟩) PySem.F.entry_list_extend (PySem.F.args_list_extend_2 _ _) (AutoSeq1.list_extend_list_list_0 a vs.toArray n b us.toArray nb (by
      rw [Bool.and_eq_true, not_and]
      intro _
      unfold Builtin.List.listTooLong
      rw [decide_eq_true_eq]
      lia) (by lia) (by lia)) ⟨ea, eb', ?_⟩
    have hs' : Heap.SameBut a s₂.heap (s₂.heap.update a (Obj.mapSeq fun x => x ++ us.toArray)) := Heap.SameBut.update ..
    have hl' : (s₂.heap.update a (Obj.mapSeq fun x => x ++ us.toArray)).PlainList a (vs ++ us).toArray := by
      obtain ⟨c', hc'⟩ : ∃ c', (Obj.mapSeq (fun x => x ++ us.toArray) { cls := .type "list", data := .seq vs.toArray n }) = ({ cls := .type "list", data := .seq (vs.toArray ++ us.toArray) c' } : Obj) := ⟨_, rfl⟩
      refine ⟨c', ?_⟩
      rw [Heap.get?_update_self _ ea (by rw [hc']; rfl), hc']
      simp
    have fc := (F.at (k₁.trans k₂)).change (tk := s₂.toks) hs' f0 (fun e => aE (e ▸ .head _)) (fun p hp e => aE (e ▸ .tail _ (List.mem_map.mpr ⟨p, hp, rfl⟩))) (Nat.le_refl _)
    have hd : ∃ o, (s₂.heap.update a (Obj.mapSeq fun x => x ++ us.toArray)).get? a = some o := by obtain ⟨n, e⟩ := hl'; exact ⟨_, e⟩
    have cc := (C.at (k₁.trans k₂)).change (tk := s₂.toks) hs' aM hd (Nat.le_refl _)
    have fl : Fl (vis ν M s₂.heap) (vis ν M (s₂.heap.update a (Obj.mapSeq fun x => x ++ us.toArray))) := vis_change hs' aM
    exact h { s₂ with heap := s₂.heap.update a (Obj.mapSeq fun x => x ++ us.toArray) } fc cc ((Step.of (k₁.trans k₂)).trans ⟨fl, fun b o nb _ e => (hs'.2 b fun q => nb (q ▸ .head _)).trans e⟩) ⟨vs ++ us, hl', (q.append qb).mono fl⟩
  rw [hst] at h2 ⊢
  exact evalArgs_plain h2
theorem SSt.pushM {x : Str} {s' : Shared} (J : SSt ν ro A' M H L cd s₀ ex ac ms us a b i j m cm s) (F' : Fm ν (eSl L cd) s₀ s' m cm) (C' : Cx ν ro A' M H s') (st : Step ν [a] M s s') (O : Own a (ms.map vS ++ [vS x]) (vis ν M s'.heap) s'.heap) : SSt ν ro A' M H L cd s₀ ex ac (ms ++ [x]) us a b i j m cm s' :=
  ⟨F', C', J.hM, J.aM, J.bM, J.fa, J.fb, J.ab, J.aL, J.bL, J.nu, let ⟨v, e, p⟩ := J.xv; ⟨v, e, (vL _).mono st.fl p⟩, let ⟨v, e, p⟩ := J.av; ⟨v, e, (vL _).mono st.fl p⟩, J.mi, J.un, J.iv, J.jv, by rw [List.map_append]; exact O, J.ou.st st (by simpa using Ne.symm J.ab) J.offB⟩
theorem SSt.pushU {x : Str} {s' : Shared} (J : SSt ν ro A' M H L cd s₀ ex ac ms us a b i j m cm s) (F' : Fm ν (eSl L cd) s₀ s' m cm) (C' : Cx ν ro A' M H s') (st : Step ν [b] M s s') (O : Own b (us.map vS ++ [vS x]) (vis ν M s'.heap) s'.heap) : SSt ν ro A' M H L cd s₀ ex ac ms (us ++ [x]) a b i j m cm s' :=
  ⟨F', C', J.hM, J.aM, J.bM, J.fa, J.fb, J.ab, J.aL, J.bL, J.nu, let ⟨v, e, p⟩ := J.xv; ⟨v, e, (vL _).mono st.fl p⟩, let ⟨v, e, p⟩ := J.av; ⟨v, e, (vL _).mono st.fl p⟩, J.mi, J.un, J.iv, J.jv, J.om.st st (by simpa using J.ab) J.offA, by rw [List.map_append]; exact O⟩
theorem SSt.extM {xs : List Str} {s' : Shared} (J : SSt ν ro A' M H L cd s₀ ex ac ms us a b i j m cm s) (F' : Fm ν (eSl L cd) s₀ s' m cm) (C' : Cx ν ro A' M H s') (st : Step ν [a] M s s') (O : Own a (ms.map vS ++ xs.map vS) (vis ν M s'.heap) s'.heap) : SSt ν ro A' M H L cd s₀ ex ac (ms ++ xs) us a b i j m cm s' :=
  ⟨F', C', J.hM, J.aM, J.bM, J.fa, J.fb, J.ab, J.aL, J.bL, J.nu, let ⟨v, e, p⟩ := J.xv; ⟨v, e, (vL _).mono st.fl p⟩, let ⟨v, e, p⟩ := J.av; ⟨v, e, (vL _).mono st.fl p⟩, J.mi, J.un, J.iv, J.jv, by rw [List.map_append]; exact O, J.ou.st st (by simpa using Ne.symm J.ab) J.offB⟩
theorem SSt.extU {xs : List Str} {s' : Shared} (J : SSt ν ro A' M H L cd s₀ ex ac ms us a b i j m cm s) (F' : Fm ν (eSl L cd) s₀ s' m cm) (C' : Cx ν ro A' M H s') (st : Step ν [b] M s s') (O : Own b (us.map vS ++ xs.map vS) (vis ν M s'.heap) s'.heap) : SSt ν ro A' M H L cd s₀ ex ac ms (us ++ xs) a b i j m cm s' :=
  ⟨F', C', J.hM, J.aM, J.bM, J.fa, J.fb, J.ab, J.aL, J.bL, J.nu, let ⟨v, e, p⟩ := J.xv; ⟨v, e, (vL _).mono st.fl p⟩, let ⟨v, e, p⟩ := J.av; ⟨v, e, (vL _).mono st.fl p⟩, J.mi, J.un, J.iv, J.jv, J.om.st st (by simpa using J.ab) J.offA, by rw [List.map_append]; exact O⟩
noncomputable def AX : Around := { handled := some .none }
theorem Held.toX {e : Addr} {fl : Value} (x : Held ν ro A A' M H L cd s₀ ex ac ms us a b i j m cm s e fl) : Held ν ro AX A' M H L cd s₀ ex ac ms us a b i j m cm s e fl := by
  obtain ⟨T, c, J, t, _, r⟩ := x.x
  exact ⟨T, c, J, t, (fun h => by cases h), r⟩
inductive EB (ν : Nat) (ro : Nat) (A A' : Around) (H : Heap) (L : Addr) (cd : Value) (s₀ : Shared) (P : List Str → List Str → Nat → Nat → Prop) (M₀ : List Addr) (ex ac : List Str) (a b : Addr) (cm : Str → Option Value) (v : Value) (s : Shared) : Prop
  | new (e : Addr) (ms us : List Str) (i j : Nat) (M : List Addr) (m : Str → Option Value) (s' : Shared) (hv : v = .ref e) (hp : P ms us i j) (hs : ∀ x ∈ M₀, x ∈ M) (J : SSt ν ro A' M H L cd s₀ ex ac ms us a b i j m cm s') (x : Fresh ν A s' s e)
  | held (e : Addr) (ms us : List Str) (i j : Nat) (M : List Addr) (m : Str → Option Value) (hv : v = .ref e) (hp : P ms us i j) (hs : ∀ x ∈ M₀, x ∈ M) (x : Held ν ro AX A' M H L cd s₀ ex ac ms us a b i j m cm s e (rawInt L))
theorem Held.note {e : Addr} {E : Value → Shared → Prop} {Q : Unit → Shared → Prop} (x : Held ν ro A A' M H L cd s₀ ex ac ms us a b i j m cm s e (rawInt L)) (h : Q () s) : wpAny (model prog w) A₁ (noteFrame (.ref e) (eSl L cd)) Q E s := by
  obtain ⟨T, c, J, t, r⟩ := x.x
  exact note_again rfl t h
theorem Held.fly {e : Addr} {fl : Value} {f : Option Addr} {E : Value → Shared → Prop} {Q : Unit → Shared → Prop} (x : Held ν ro A A' M H L cd s₀ ex ac ms us a b i j m cm s e fl)
    (h : ∀ s', Held ν ro A A' M H L cd s₀ ex ac ms us a b i j m cm s' e (f.elim .none fun f => rawInt f) → Q () s') : wpAny (model prog w) A₁ (setFlight (.ref e) f) Q E s := by
  obtain ⟨T, c, J, t, hc, f1, f2, f3, f4, f5, f6⟩ := x.x
  refine set_fly t fun h' hs t' => h _ ⟨T, c, ?_, t', hc, f1, f2, f3, f4, f5, f6⟩
  obtain ⟨oe, vs, oT, ts, _, _, _, _, _, _, t2, _⟩ := t'
  exact J.chg hs (.tail _ (.head _)) ⟨_, t2⟩ f2 f3 f4 f5
theorem Held.back {e : Addr} {fl : Value} {E : Value → Shared → Prop} (x : Held ν ro A A' M H L cd s₀ ex ac ms us a b i j m cm s e fl)
    (h : ∀ s', Held ν ro A A' M H L cd s₀ ex ac ms us a b i j m cm s' e (rawInt L) → E (.ref e) s') : cameBackBy (model prog w) A₁ (eSl L cd) E (.ref e) s := by
  obtain ⟨T, c, J, t, hc, f1, f2, f3, f4, f5, f6⟩ := x.x
  refine came_back t rfl fun h' hs t' => h _ ⟨T, c, ?_, t', hc, f1, f2, f3, f4, f5, f6⟩
  obtain ⟨oe, vs, oT, ts, _, _, _, _, _, _, t2, _⟩ := t'
  exact J.chg hs (.tail _ (.head _)) ⟨_, t2⟩ f2 f3 f4 f5
theorem Held.pass {α : Type} {e : Addr} {fl : Value} {what : String} {E : Value → Shared → Prop} {Q : α → Shared → Prop} (x : Held ν ro A A' M H L cd s₀ ex ac ms us a b i j m cm s e fl)
    (h : ∀ s', Held ν ro A A' M H L cd s₀ ex ac ms us a b i j m cm s' e (rawInt L) → E (.ref e) s') : wpAny (model prog w) A₁ (PySem.passOn what (.ref e) (eSl L cd) : Sem α) Q E s := by
  obtain ⟨T, c, J, t, hc, f1, f2, f3, f4, f5, f6⟩ := x.x
  refine pass_on t rfl fun h' hs t' => h _ ⟨T, c, ?_, t', hc, f1, f2, f3, f4, f5, f6⟩
  obtain ⟨oe, vs, oT, ts, _, _, _, _, _, _, t2, _⟩ := t'
  exact J.chg hs (.tail _ (.head _)) ⟨_, t2⟩ f2 f3 f4 f5
theorem EB.land {M₀ : List Addr} {P : List Str → List Str → Nat → Nat → Prop} {v : Value} {E1 E2 : Value → Shared → Prop} {K : Shared → Prop} (x : EB ν ro A A' H L cd s₀ P M₀ ex ac a b cm v s) (fr : FrOk ν A (eSl L cd))
    (h : ∀ e ms us i j M m s', v = .ref e → P ms us i j → (∀ x ∈ M₀, x ∈ M) → Held ν ro AX A' M H L cd s₀ ex ac ms us a b i j m cm s' e .none → K s') :
    wpAny (model prog w) A (noteFrame v (eSl L cd)) (fun _ s₂ => wpAny (model prog w) A (setFlight v none) (fun _ s₃ => K s₃) E1 s₂) E2 s := by
  cases x with
  | new e ms us i j M m s' hv hp hs J x =>
    subst hv
    refine Fresh.note x fr (show ScopeKind.function ≠ ScopeKind.module by decide) rfl J.nuS J.Ldata fun s2 T c X ne nT t hc => ?_
    have he := (off_of J.C.tab ne).1
    have hT := (off_of J.C.tab nT).1
    obtain ⟨f1, f2, f3, f4, f5, f6⟩ := fresh_to J ne nT he hT
    have hd : Held ν ro A A' M H L cd s₀ ex ac ms us a b i j m cm s2 e (rawInt L) := ⟨T, c, J.exc X ne nT t, t, hc, f1, f2, f3, f4, f5, f6⟩
    exact hd.fly (f := none) fun s3 hd' => h e ms us i j M m s3 rfl hp hs hd'.toX
  | held e ms us i j M m hv hp hs x =>
    subst hv
    exact x.note (x.fly (f := none) fun s3 hd' => h e ms us i j M m s3 rfl hp hs hd')
end
end Mine
set_option maxRecDepth 10000
namespace Mine
open PySem PySem.W PyProof.Rows PySem.Calls PySem.Spec
noncomputable abbrev ltS (x y : Str) : Bool := decide (x.cps.toList < y.cps.toList)
noncomputable def sld : Nat → List Str → List Str → List Str × List Str
  | 0, E, A => (E, A)
  | _ + 1, [], A => ([], A)
  | _ + 1, e :: E, [] => (e :: E, [])
  | f + 1, e :: E, a :: A =>
    if ltS e a then (e :: (sld f (E.dropWhile (· == e)) (a :: A)).1, (sld f (E.dropWhile (· == e)) (a :: A)).2)
    else if ltS a e then ((sld f (e :: E) (A.dropWhile (· == a))).1, a :: (sld f (e :: E) (A.dropWhile (· == a))).2)
    else sld f (E.dropWhile (· == e)) (A.dropWhile (· == a))
theorem sld_cons {f : Nat} {e a : Str} {E A : List Str} : sld (f + 1) (e :: E) (a :: A) = if ltS e a then (e :: (sld f (E.dropWhile (· == e)) (a :: A)).1, (sld f (E.dropWhile (· == e)) (a :: A)).2)
    else if ltS a e then ((sld f (e :: E) (A.dropWhile (· == a))).1, a :: (sld f (e :: E) (A.dropWhile (· == a))).2)
    else sld f (E.dropWhile (· == e)) (A.dropWhile (· == a)) := rfl
noncomputable def Rel (ex ac : List Str) (R : List Str × List Str) (ms us : List Str) (i j : Nat) : Prop :=
  i ≤ ex.length ∧ j ≤ ac.length ∧ ∃ f, (ex.length - i) + (ac.length - j) ≤ f ∧ R = (ms ++ (sld f (ex.drop i) (ac.drop j)).1, us ++ (sld f (ex.drop i) (ac.drop j)).2)
theorem drop_skip (l : List Str) (x : Str) (k : Nat) : (l.drop k).dropWhile (· == x) = l.drop (skipTo l x k) := by
  unfold skipTo
  rw [← List.drop_drop]
  generalize l.drop k = r
  induction r with
  | nil => rfl
  | cons a r ih =>
    rw [List.dropWhile_cons, List.takeWhile_cons]
    cases h : a == x with
    | true => simp only [if_true, List.length_cons, List.drop_succ_cons]; exact ih
    | false => simp
theorem skipTo_le {l : List Str} {x : Str} {k : Nat} (hk : k ≤ l.length) : k ≤ skipTo l x k ∧ skipTo l x k ≤ l.length := by
  unfold skipTo
  have := (List.takeWhile_sublist (p := (· == x)) (l := l.drop k)).length_le
  rw [List.length_drop] at this
  lia
theorem drop_one {l : List Str} {k : Nat} (hk : k < l.length) : l.drop k = l.getD k Str.empty :: l.drop (k + 1) := by
  rw [List.drop_eq_getElem_cons hk, List.getD_eq_getElem?_getD, List.getElem?_eq_getElem hk]; rfl
section
variable {ex ac ms us : List Str} {i j : Nat} {R : List Str × List Str}
theorem Rel.lt (h : Rel ex ac R ms us i j) (hi : i < ex.length) (hj : j < ac.length) (hl : ltS (ex.getD i Str.empty) (ac.getD j Str.empty) = true) : Rel ex ac R (ms ++ [ex.getD i Str.empty]) us (skipTo ex (ex.getD i Str.empty) (i + 1)) j := by
  obtain ⟨h1, h2, f, hf, rfl⟩ := h
  obtain ⟨f, rfl⟩ : ∃ g, f = g + 1 := ⟨f - 1, by lia⟩
  have sk := skipTo_le (l := ex) (x := ex.getD i Str.empty) (k := i + 1) hi
  refine ⟨sk.2, h2, f, by lia, ?_⟩
  rw [drop_one hi, drop_one hj]
  rw [sld_cons, if_pos hl, drop_skip]
  simp only [List.append_assoc, List.cons_append, List.nil_append]
theorem Rel.gt (h : Rel ex ac R ms us i j) (hi : i < ex.length) (hj : j < ac.length) (hl : ltS (ex.getD i Str.empty) (ac.getD j Str.empty) = false) (hg : ltS (ac.getD j Str.empty) (ex.getD i Str.empty) = true) : Rel ex ac R ms (us ++ [ac.getD j Str.empty]) i (skipTo ac (ac.getD j Str.empty) (j + 1)) := by
  obtain ⟨h1, h2, f, hf, rfl⟩ := h
  obtain ⟨f, rfl⟩ : ∃ g, f = g + 1 := ⟨f - 1, by lia⟩
  have sk := skipTo_le (l := ac) (x := ac.getD j Str.empty) (k := j + 1) hj
  refine ⟨h1, sk.2, f, by lia, ?_⟩
  rw [drop_one hi, drop_one hj]
  rw [sld_cons, if_neg (by rw [hl]; decide), if_pos hg, drop_skip]
  simp only [List.append_assoc, List.cons_append, List.nil_append]
theorem Rel.eq (h : Rel ex ac R ms us i j) (hi : i < ex.length) (hj : j < ac.length) (hl : ltS (ex.getD i Str.empty) (ac.getD j Str.empty) = false) (hg : ltS (ac.getD j Str.empty) (ex.getD i Str.empty) = false) : Rel ex ac R ms us (skipTo ex (ex.getD i Str.empty) (i + 1)) (skipTo ac (ac.getD j Str.empty) (j + 1)) := by
  obtain ⟨h1, h2, f, hf, rfl⟩ := h
  obtain ⟨f, rfl⟩ : ∃ g, f = g + 1 := ⟨f - 1, by lia⟩
  have sk := skipTo_le (l := ac) (x := ac.getD j Str.empty) (k := j + 1) hj
  have sk' := skipTo_le (l := ex) (x := ex.getD i Str.empty) (k := i + 1) hi
  refine ⟨sk'.2, sk.2, f, by lia, ?_⟩
  rw [drop_one hi, drop_one hj]
  rw [sld_cons, if_neg (by rw [hl]; decide), if_neg (by rw [hg]; decide), drop_skip, drop_skip]
theorem Rel.fin (h : Rel ex ac R ms us i j) (hx : i = ex.length ∨ j = ac.length) : R = (ms ++ ex.drop i, us ++ ac.drop j) := by
  obtain ⟨h1, h2, f, hf, rfl⟩ := h
  rcases hx with rfl | rfl
  · rw [List.drop_length]
    cases f with
    | zero => rfl
    | succ f => rfl
  · rw [List.drop_length]
    cases f with
    | zero => rfl
    | succ f =>
      cases ex.drop i <;> rfl
noncomputable def EndP (ex ac : List Str) (R : List Str × List Str) (ms us : List Str) (i j : Nat) : Prop := Rel ex ac R ms us i j ∧ (i = ex.length ∨ j = ac.length) ∧ ms.length ≤ i ∧ us.length ≤ j
end
noncomputable def tBody : Stmt → List Stmt
  | .Try b _ _ _ _ => b
  | _ => []
noncomputable def tFin : Stmt → List Stmt
  | .Try _ _ _ b _ => b
  | _ => []
noncomputable def slLoop : Stmt := at_ (fBody (nth 30)) 3
noncomputable def slTry : Stmt := at_ (sBody slLoop) 0
noncomputable def slIf : Stmt := at_ (tBody slTry) 2
noncomputable def slEq : List Stmt := sElse (at_ (sElse slIf) 0)
section
variable {ro : Nat} {prog : Program} {w : World} {A A' : Around} {M : List Addr} {s₀ s₁ s : Shared} {H : Heap} {mg mb : Str → Option Value} {pos : Pos} {m cm : Str → Option Value} {env : Env}
variable {L a b : Addr} {cd : Value} {ex ac ms us : List Str} {i j : Nat} {R : List Str × List Str}
theorem Xs.thenW {st : Stmt} {rest : List Stmt} {Q : Flow → Shared → Prop} {E : Value → Shared → Prop} (h : Xs ν prog w A (exec st env) (fun f s' => f = .next ∧ wpAny (model prog w) A (execs rest env) Q E s') s) : wpAny (model prog w) A (execs (st :: rest) env) Q E s :=
  wpAny_execs_cons (wpAny_mono (h.go E) (fun f s' y => by obtain ⟨rfl, y⟩ := y; exact y) fun _ _ y => y)
theorem CtxOk.none {s : Shared} (h : A.handled = none) : CtxOk ν A s := .inl h
theorem sl_fin {y : Str} {ty : Tok} {Q : Flow → Shared → Prop} {E : Value → Shared → Prop} (J : SSt ν ro A' M H L cd s₀ ex ac ms us a b i j m cm s) (hj : j < ac.length) (hl : ac.length < 1000) (fr : FrOk ν A (eSl L cd)) (hc : CtxOk ν A s) (hy : m "a" = some (.str y ty))
    (hQ : ∀ m' s', Step ν (Env.mut (eSl L cd)) M s s' → SSt ν ro A' M H L cd s₀ ex ac ms us a b i (skipTo ac y (j + 1)) m' cm s' → skipTo ac y (j + 1) < ac.length → Q .next s')
    (hE : ∀ m' s' e, Held ν ro A A' M H L cd s₀ ex ac ms us a b i (skipTo ac y (j + 1)) m' cm s' e (rawInt L) → skipTo ac y (j + 1) = ac.length → E (.ref e) s') :
    wpAny (model prog w) A (execs (tFin (at_ slEq 1)) (eSl L cd)) Q E s := by
  obtain ⟨t, e⟩ := J.jv
  refine Xs.thenW (Xs.augI J.F J.C J.hM e (Ev.cInt (Mut := M)) (fun t' s₁ F₁ C₁ st₁ => ⟨rfl, ?_⟩) rfl)
  have J₁ := J.step (i' := i) (j' := j + 1) F₁ C₁ st₁ upd_keep (by obtain ⟨t, e⟩ := J.iv; exact ⟨t, Eq.trans upd_ne e⟩) ⟨t', upd_eq⟩
  have hc₁ : CtxOk ν A s₁ := by
    rcases hc with h | ⟨e1, o1, vs1, h1, h2, h3, h4, h5⟩
    · exact .inl h
    · refine .inr ⟨e1, o1, vs1, h1, st₁.own _ _ (fun hm => ?_) h5 h2, h3, h4, h5⟩
      rw [List.mem_singleton.mp hm] at h2
      obtain ⟨oL, hL, dL⟩ := J.Ldata
      rw [h2] at hL
      cases hL
      exact dL _ h3
  refine wpAny_execs_cons (scanJ J₁ (Eq.trans upd_ne hy) (by lia) hl fr hc₁ (fun m' s' hm st J' hlt => wpAny_execs_nil (hQ m' s' (st₁.trans st) J' hlt)) fun m' s' e hm hd he => hE m' s' e hd he)
end
end Mine
set_option maxRecDepth 10000
namespace Mine
open PySem PySem.W PyProof.Rows PySem.Calls PySem.Spec
section
variable {ro : Nat} {prog : Program} {w : World} {A A' : Around} {M : List Addr} {s₀ s₁ s : Shared} {H : Heap} {mg mb : Str → Option Value} {pos : Pos} {m cm : Str → Option Value} {env : Env}
variable {L a b : Addr} {cd : Value} {ex ac ms us : List Str} {i j : Nat} {R : List Str × List Str}
theorem op_gtS {x y : Str} {v1 v2 : Value} (p1 : (vS x).on (vis ν M s.heap) v1) (p2 : (vS y).on (vis ν M s.heap) v2) : Op ν prog w A M s (compareOp .Gt v1 v2) (vB (ltS y x)) := .mk fun E => by
  obtain ⟨t, rfl⟩ := p1
  obtain ⟨u, rfl⟩ := p2
  exact PySem.P.gt_str ⟨Kp.refl _, rfl⟩
theorem Held.keep {e : Addr} {fl : Value} {i' j' : Nat} {m' : Str → Option Value} {s' : Shared} (x : Held ν ro A A' M H L cd s₀ ex ac ms us a b i j m cm s e fl) {T : Addr} {c : Value} (J : SSt ν ro A' (e :: T :: M) H L cd s₀ ex ac ms us a b i' j' m' cm s') (t : Trc s.heap e T fl c) (hc : A.handled = none → c = .none)
    (f : s₀.heap.get? e = none ∧ s₀.heap.get? T = none ∧ a ≠ T ∧ b ≠ T ∧ T ≠ L ∧ e ≠ L) (st : Step ν (Env.mut (eSl L cd)) (e :: T :: M) s s') : Held ν ro A A' M H L cd s₀ ex ac ms us a b i' j' m' cm s' e fl := by
  obtain ⟨f1, f2, f3, f4, f5, f6⟩ := f
  refine ⟨T, c, J, t.keep fun b o hb e => ?_, hc, f1, f2, f3, f4, f5, f6⟩
  rcases hb with rfl | rfl
  · exact st.own _ _ (fun hm => f6 (List.mem_singleton.mp hm)) (fresh57 J.F.tab f1) e
  · exact st.own _ _ (fun hm => f5 (List.mem_singleton.mp hm)) (fresh57 J.F.tab f2) e
set_option maxHeartbeats 1000000 in
theorem eq_arm {x y : Str} {tx ty : Tok} {Q : Flow → Shared → Prop} {E : Value → Shared → Prop} (hh : A.handled = none) (J : SSt ν ro A' M H L cd s₀ ex ac ms us a b i j m cm s) (hi : i < ex.length) (hj : j < ac.length) (lx : ex.length < 1000) (la : ac.length < 1000) (fr : FrOk ν A (eSl L cd)) (hx : m "e" = some (.str x tx)) (hy : m "a" = some (.str y ty))
    (hQ : ∀ m' s', SSt ν ro A' M H L cd s₀ ex ac ms us a b (skipTo ex x (i + 1)) (skipTo ac y (j + 1)) m' cm s' → Q .next s')
    (hE : ∀ m' s' M' e, (∀ x ∈ M, x ∈ M') → Held ν ro AX A' M' H L cd s₀ ex ac ms us a b (skipTo ex x (i + 1)) (skipTo ac y (j + 1)) m' cm s' e (rawInt L) → (skipTo ex x (i + 1) = ex.length ∨ skipTo ac y (j + 1) = ac.length) → E (.ref e) s') :
    wpAny (model prog w) A (execs slEq (eSl L cd)) Q E s := by
  obtain ⟨t, e⟩ := J.iv
  refine Xs.thenW (Xs.augI J.F J.C J.hM e (Ev.cInt (Mut := M)) (fun t' s₁ F₁ C₁ st₁ => ⟨rfl, ?_⟩) rfl)
  have J₁ := J.step (i' := i + 1) (j' := j) F₁ C₁ st₁ upd_keep ⟨t', upd_eq⟩ (by obtain ⟨t, e⟩ := J.jv; exact ⟨t, Eq.trans upd_ne e⟩)
  have hy₁ : upd m "i" (.int ((i : Int) + 1) t') "a" = some (.str y ty) := Eq.trans upd_ne hy
  refine wpAny_execs_cons (wpAny_Try_finally ?_)
  refine wpAny_execs_cons (scanI J₁ (Eq.trans upd_ne hx) (by lia) lx fr (CtxOk.none hh) (fun m' s' hm st J' hlt => ?_) fun m' s' e hm hd hfull => ?_)
  · refine wpAny_execs_nil (wpAny_execs_nil ?_)
    refine sl_fin J' hj la fr (CtxOk.none hh) ((hm _ (by decide)).trans hy₁) (fun m'' s'' st' J'' _ => wpAny_execs_nil (hQ m'' s'' J'')) fun m'' s'' e hd hend => ?_
    show wpAny _ _ _ _ _ _
    exact hd.note (hd.back fun s3 hd3 => hE m'' s3 _ e (fun _ h => h) hd3.toX (.inr hend))
  · refine hd.note ⟨ref_ne_byPass e, hd.note (hd.fly (f := none) fun s3 hd3 => ?_)⟩
    obtain ⟨T, c, J3, t3, hc3, f⟩ := hd3.x
    obtain rfl : c = .none := hc3 hh
    have hctx : CtxOk ν (A.mark (some (.ref e))) s3 := by
      obtain ⟨oe, vs, oT, ts, q1, q2, q3, q4, q5, _⟩ := t3
      exact .inr ⟨e, oe, vs, rfl, q1, q3, q5, fresh57 J3.F.tab f.1⟩
    refine sl_fin (A := A.mark (some (.ref e))) J3 hj la fr hctx ((hm _ (by decide)).trans hy₁) (fun m'' s'' st' J'' _ => ?_) fun m'' s'' e2 hd2 hend => ?_
    · exact (hd3.keep J'' t3 hc3 f st').pass fun s5 hd5 => hE m'' s5 _ e (fun _ h => h) hd5.toX (.inl hfull)
    · show wpAny _ _ _ _ _ _
      exact hd2.note (hd2.back fun s5 hd5 => hE m'' s5 _ e2 (fun _ h => .tail _ (.tail _ h)) hd5.toX (.inr hend))
noncomputable abbrev EBS (ν : Nat) (ro : Nat) (A : Around) (H : Heap) (L : Addr) (cd : Value) (s₀ : Shared) (ex ac : List Str) (R : List Str × List Str) (M₀ : List Addr) (a b : Addr) (cm : Str → Option Value) : Value → Shared → Prop := EB ν ro A A H L cd s₀ (EndP ex ac R) M₀ ex ac a b cm
set_option maxHeartbeats 1000000 in
theorem try_body {Q : Flow → Shared → Prop} (hh : A.handled = none) (J : SSt ν ro A M H L cd s₀ ex ac ms us a b i j m cm s) (lx : ex.length < 1000) (la : ac.length < 1000) (fr : FrOk ν A (eSl L cd)) (hR : Rel ex ac R ms us i j) (lm : ms.length ≤ i) (lu : us.length ≤ j)
    (hQ : ∀ ms us i' j' m' s', Rel ex ac R ms us i' j' → ms.length ≤ i' → us.length ≤ j' → (ex.length - i') + (ac.length - j') < (ex.length - i) + (ac.length - j) → SSt ν ro A M H L cd s₀ ex ac ms us a b i' j' m' cm s' → Q .next s') :
    wpAny (model prog w) A (execs (tBody slTry) (eSl L cd)) Q (EBS ν ro A H L cd s₀ ex ac R M a b cm) s := by
  obtain ⟨r1, r2, _⟩ := id hR
  have hc : ∀ {s : Shared}, CtxOk ν A s := fun {s} => CtxOk.none hh
  have aE : a ∉ Env.mut (eSl L cd) := by intro h; exact J.aL (List.mem_singleton.mp h)
  have bE : b ∉ Env.mut (eSl L cd) := by intro h; exact J.bL (List.mem_singleton.mp h)
  by_cases hi : i < ex.length
  case neg =>
    refine wpAny_execs_cons (wpAny_Assign_Name (sub_raise (k := (i : Int)) J.eX J.eI (by rw [List.length_map]; lia) (by lia) hc (Kp.refl _) fun s' s1 e kk fz => ?_) rfl)
    exact .new e ms us i j M m s' rfl ⟨hR, .inl (by lia), lm, lu⟩ (fun _ h => h) (J.at kk) fz
  have hitem : (ex.map vS)[(i : Int).toNat]? = some (vS (ex.getD i Str.empty)) := by
    rw [Int.toNat_natCast, List.getElem?_map, List.getD_eq_getElem?_getD, List.getElem?_eq_getElem hi]; rfl
  refine Xs.thenW (Xs.assign J.F J.C J.hM (P := vS (ex.getD i Str.empty)) (Ev.itemL (by lia) (by lia) hitem J.eX J.eI) fun v s₁ F₁ C₁ st₁ p₁ => ⟨rfl, ?_⟩)
  obtain ⟨t1, rfl⟩ := p₁
  have J₁ := J.step (i' := i) (j' := j) F₁ C₁ st₁ upd_keep (by obtain ⟨t, e⟩ := J.iv; exact ⟨t, Eq.trans upd_ne e⟩) (by obtain ⟨t, e⟩ := J.jv; exact ⟨t, Eq.trans upd_ne e⟩)
  by_cases hj : j < ac.length
  case neg =>
    refine wpAny_execs_cons (wpAny_Assign_Name (sub_raise (k := (j : Int)) J₁.eA J₁.eJ (by rw [List.length_map]; lia) (by lia) hc (Kp.refl _) fun s' s1 e kk fz => ?_) rfl)
    exact .new e ms us i j M _ s' rfl ⟨hR, .inr (by lia), lm, lu⟩ (fun _ h => h) (J₁.at kk) fz
  have hitem2 : (ac.map vS)[(j : Int).toNat]? = some (vS (ac.getD j Str.empty)) := by
    rw [Int.toNat_natCast, List.getElem?_map, List.getD_eq_getElem?_getD, List.getElem?_eq_getElem hj]; rfl
  refine Xs.thenW (Xs.assign J₁.F J₁.C J₁.hM (P := vS (ac.getD j Str.empty)) (Ev.itemL (by lia) (by lia) hitem2 J₁.eA J₁.eJ) fun v s₂ F₂ C₂ st₂ p₂ => ⟨rfl, ?_⟩)
  obtain ⟨t2, rfl⟩ := p₂
  have J₂ := J₁.step (i' := i) (j' := j) F₂ C₂ st₂ upd_keep (by obtain ⟨t, e⟩ := J₁.iv; exact ⟨t, Eq.trans upd_ne e⟩) (by obtain ⟨t, e⟩ := J₁.jv; exact ⟨t, Eq.trans upd_ne e⟩)
  have he₂ : upd (upd m "e" (.str (ex.getD i Str.empty) t1)) "a" (.str (ac.getD j Str.empty) t2) "e" = some (.str (ex.getD i Str.empty) t1) := Eq.trans upd_ne upd_eq
  have ha₂ : upd (upd m "e" (.str (ex.getD i Str.empty) t1)) "a" (.str (ac.getD j Str.empty) t2) "a" = some (.str (ac.getD j Str.empty) t2) := upd_eq
  have eE : ∀ {s' : Shared} {q : Pos}, Kp ν s₂ s' → Ev ν prog w A M s' (eval (.Name "e" q) (eSl L cd)) (vS (ex.getD i Str.empty)) := fun k => (Ev.name (P := vS (ex.getD i Str.empty)) (J₂.F.var (x := "e") he₂) ⟨t1, rfl⟩).at k
  have eA : ∀ {s' : Shared} {q : Pos}, Kp ν s₂ s' → Ev ν prog w A M s' (eval (.Name "a" q) (eSl L cd)) (vS (ac.getD j Str.empty)) := fun k => (Ev.name (P := vS (ac.getD j Str.empty)) (J₂.F.var (x := "a") ha₂) ⟨t2, rfl⟩).at k
  have sx := skipTo_le (l := ex) (x := ex.getD i Str.empty) (k := i + 1) hi
  have sa := skipTo_le (l := ac) (x := ac.getD j Str.empty) (k := j + 1) hj
  have tst : ∀ {q1 q2 q3 : Pos} {whole : Sem Value}, Eb ν prog w A s₂ (isTrue (.Compare (.Name "e" q1) [.Lt] [.Name "a" q2] q3) (eSl L cd) whole) (ltS (ex.getD i Str.empty) (ac.getD j Str.empty)) := Eb.cmp (eE (Kp.refl _)) (eA (Kp.refl _)) (fun v1 v2 s k q1 q2 => op_ltS q1 q2)
  refine wpAny_execs_cons (wpAny_If (tst.use (Kp.refl _) fun s₃ k₃ => ?_))
  have J₃ := J₂.at k₃
  cases hlt : ltS (ex.getD i Str.empty) (ac.getD j Str.empty) with
  | true =>
    refine Xs.thenW (Xs.append J₃.F J₃.C (Ev.name (J₃.F.var (x := "missing") J₃.mi) rfl) J₃.aM J₃.fa aE J₃.om (P := vS (ex.getD i Str.empty)) (eE k₃) (by rw [List.length_map]; exact Nat.le_trans (show _ ≤ 1000 by lia) (by decide)) fun s₄ F₄ C₄ st₄ O₄ => ⟨rfl, ?_⟩)
    have J₄ := J₃.pushM F₄ C₄ st₄ O₄
    obtain ⟨t, e⟩ := J₄.iv
    refine Xs.thenW (Xs.augI J₄.F J₄.C J₄.hM e (Ev.cInt (Mut := M)) (fun t' s₅ F₅ C₅ st₅ => ⟨rfl, ?_⟩) rfl)
    have J₅ := J₄.step (i' := i + 1) (j' := j) F₅ C₅ st₅ upd_keep ⟨t', upd_eq⟩ (by obtain ⟨t, e⟩ := J₄.jv; exact ⟨t, Eq.trans upd_ne e⟩)
    refine wpAny_execs_cons (scanI J₅ (Eq.trans upd_ne he₂) (by lia) lx fr hc (fun m' s' hm st J' hl => wpAny_execs_nil (wpAny_execs_nil (hQ _ _ _ _ m' s' (hR.lt hi hj hlt) (by rw [List.length_append, List.length_singleton]; lia) lu (by lia) J'))) fun m' s' e hm hd hfull => .held e _ _ _ _ _ _ rfl ⟨hR.lt hi hj hlt, .inl hfull, (by rw [List.length_append, List.length_singleton]; lia), lu⟩ (fun _ h => h) hd.toX)
  | false =>
    have tst2 : ∀ {q1 q2 q3 : Pos} {whole : Sem Value}, Eb ν prog w A s₃ (isTrue (.Compare (.Name "e" q1) [.Gt] [.Name "a" q2] q3) (eSl L cd) whole) (ltS (ac.getD j Str.empty) (ex.getD i Str.empty)) := Eb.cmp (eE k₃) (eA k₃) (fun v1 v2 s k q1 q2 => op_gtS q1 q2)
    refine wpAny_execs_cons (wpAny_If (tst2.use (Kp.refl _) fun s₄ k₄ => ?_))
    have J₄ := J₃.at k₄
    cases hgt : ltS (ac.getD j Str.empty) (ex.getD i Str.empty) with
    | true =>
      refine Xs.thenW (Xs.append J₄.F J₄.C (Ev.name (J₄.F.var (x := "unexpected") J₄.un) rfl) J₄.bM J₄.fb bE J₄.ou (P := vS (ac.getD j Str.empty)) (eA (k₃.trans k₄)) (by rw [List.length_map]; exact Nat.le_trans (show _ ≤ 1000 by lia) (by decide)) fun s₅ F₅ C₅ st₅ O₅ => ⟨rfl, ?_⟩)
      have J₅ := J₄.pushU F₅ C₅ st₅ O₅
      obtain ⟨t, e⟩ := J₅.jv
      refine Xs.thenW (Xs.augI J₅.F J₅.C J₅.hM e (Ev.cInt (Mut := M)) (fun t' s₆ F₆ C₆ st₆ => ⟨rfl, ?_⟩) rfl)
      have J₆ := J₅.step (i' := i) (j' := j + 1) F₆ C₆ st₆ upd_keep (by obtain ⟨t, e⟩ := J₅.iv; exact ⟨t, Eq.trans upd_ne e⟩) ⟨t', upd_eq⟩
      refine wpAny_execs_cons (scanJ J₆ (Eq.trans upd_ne ha₂) (by lia) la fr hc (fun m' s' hm st J' hl => wpAny_execs_nil (wpAny_execs_nil (wpAny_execs_nil (hQ _ _ _ _ m' s' (hR.gt hi hj hlt hgt) lm (by rw [List.length_append, List.length_singleton]; lia) (by lia) J')))) fun m' s' e hm hd hfull => .held e _ _ _ _ _ _ rfl ⟨hR.gt hi hj hlt hgt, .inr hfull, lm, (by rw [List.length_append, List.length_singleton]; lia)⟩ (fun _ h => h) hd.toX)
    | false =>
      refine eq_arm hh J₄ hi hj lx la fr he₂ ha₂ (fun m' s' J' => wpAny_execs_nil (wpAny_execs_nil (hQ _ _ _ _ m' s' (hR.eq hi hj hlt hgt) (by lia) (by lia) (by lia) J'))) fun m' s' M' e hs hd hfull => .held e _ _ _ _ _ _ rfl ⟨hR.eq hi hj hlt hgt, hfull, by lia, by lia⟩ hs hd
end
end Mine
set_option maxRecDepth 10000
namespace Mine
open PySem PySem.W PyProof.Rows PySem.Calls PySem.Spec
namespace XF
theorem ix_exc : isSubtype (.type "IndexError") (.type "BaseException") = pure true := by rw [isSubtype_type]; kernel_rfl
theorem ix_nt : isSubtype (.type ((Manifest.find? "IndexError").elim "type" fun x => x.metatype)) (.type "tuple") = pure false := by
  have : ((Manifest.find? "IndexError").elim "type" fun x => x.metatype) = "type" := by decide +kernel
  rw [this, isSubtype_type]; kernel_rfl
theorem ix_sub : isSubtype (.type "IndexError") (.type "IndexError") = pure true := by rw [isSubtype_type]; kernel_rfl
end XF
noncomputable def tHand : Stmt → List ExceptHandler
  | .Try _ h _ _ _ => h
  | _ => []
section
variable {ro : Nat} {prog : Program} {w : World} {A A' : Around} {M Mut : List Addr} {s₀ s₁ s : Shared} {H : Heap} {mg mb : Str → Option Value} {pos : Pos} {m cm : Str → Option Value} {env : Env}
variable {L a b : Addr} {cd : Value} {ex ac ms us : List Str} {i j : Nat} {R : List Str × List Str}
theorem hand_ok (B : Base H mg mb) {e : Addr} {E : Value → Shared → Prop} {Q : Flow → Shared → Prop} (x : Held ν ro AX A M H L cd s₀ ex ac ms us a b i j m cm s e .none) (hi : i ≤ ex.length) (hj : j ≤ ac.length) (lx : ex.length < 1000) (la : ac.length < 1000) (lm : ms.length ≤ i) (lu : us.length ≤ j)
    (h : ∀ M' s', (∀ y ∈ M, y ∈ M') → SSt ν ro A M' H L cd s₀ ex ac (ms ++ ex.drop i) (us ++ ac.drop j) a b i j m cm s' → Q .brk s') :
    wpAny (model prog w) A (handleBy (.ref e) (eSl L cd) (tHand slTry)) Q E s := by
  obtain ⟨T, c, J, t, hc, f⟩ := x.x
  refine wpAny_handleBy_builtin (X := "IndexError") (T := "IndexError") (b := true) XF.ix_exc XF.ix_nt XF.ix_sub ?_
  refine (B.bn (A := A.mark (some (.ref e))) J.C 12).use (Kp.refl _) fun v s₁ k₁ p₁ => ?_
  obtain rfl : v = .type "IndexError" := p₁
  have J₁ := J.at k₁
  have offe : Off ν e := fresh57 J.F.tab f.1
  have offT : Off ν T := fresh57 J.F.tab f.2.1
  have t₁ : Trc s₁.heap e T .none c := t.keep fun d o hd ed => by
    rcases hd with rfl | rfl
    · exact k₁.le.keep _ _ offe ed
    · exact k₁.le.keep _ _ offT ed
  have x₁ : Held ν ro AX A M H L cd s₀ ex ac ms us a b i j m cm s₁ e .none := ⟨T, c, J₁, t₁, hc, f⟩
  obtain ⟨oe, vs, oT, ts, q1, q2, _⟩ := t₁
  refine ⟨rfl, ⟨oe, q1, q2⟩, ?_⟩
  rw [if_pos rfl]
  refine x₁.fly (f := none) fun s₂ x₂ => ?_
  obtain ⟨T₂, c₂, J₂, _, _, f₂⟩ := x₂.x
  have aE : a ∉ Env.mut (eSl L cd) := by intro h; exact J₂.aL (List.mem_singleton.mp h)
  have bE : b ∉ Env.mut (eSl L cd) := by intro h; exact J₂.bL (List.mem_singleton.mp h)
  have zx : (ex.map vS).length ≤ sizeLine := by rw [List.length_map]; exact Nat.le_trans (Nat.le_of_lt lx) (by decide)
  have za : (ac.map vS).length ≤ sizeLine := by rw [List.length_map]; exact Nat.le_trans (Nat.le_of_lt la) (by decide)
  have e1 : lpick (ex.map vS) (some (i : Int)) none none = (ex.drop i).map vS := by rw [lpick_from, List.map_drop]
  have e2 : lpick (ac.map vS) (some (j : Int)) none none = (ac.drop j).map vS := by rw [lpick_from, List.map_drop]
  refine Xs.thenW (Xs.extend (A := A.mark (some (.ref e))) (Qs := (ex.drop i).map vS) J₂.F J₂.C (Ev.name (J₂.F.var (x := "missing") J₂.mi) rfl) J₂.aM J₂.fa aE J₂.om ((Ev.sliceL J₂.C J₂.eX (.is J₂.eI) .no .no (by decide) zx).imp fun h v q => by rw [e1] at q; exact q) ?_ fun s₃ F₃ C₃ st₃ O₃ => ⟨rfl, ?_⟩)
  · rw [List.length_map, List.length_map, List.length_drop]
    exact Nat.le_trans (show _ ≤ 1000 by lia) (by decide)
  have J₃ := J₂.extM F₃ C₃ st₃ O₃
  refine Xs.thenW (Xs.extend (A := A.mark (some (.ref e))) (Qs := (ac.drop j).map vS) J₃.F J₃.C (Ev.name (J₃.F.var (x := "unexpected") J₃.un) rfl) J₃.bM J₃.fb bE J₃.ou ((Ev.sliceL J₃.C J₃.eA (.is J₃.eJ) .no .no (by decide) za).imp fun h v q => by rw [e2] at q; exact q) ?_ fun s₄ F₄ C₄ st₄ O₄ => ⟨rfl, ?_⟩)
  · rw [List.length_map, List.length_map, List.length_drop]
    exact Nat.le_trans (show _ ≤ 1000 by lia) (by decide)
  have J₄ := J₃.extU F₄ C₄ st₄ O₄
  exact wpAny_execs_cons (wpAny_Break (h _ s₄ (fun _ hy => .tail _ (.tail _ hy)) J₄))
theorem diff_ok (B : Base H mg mb) (C : Cx ν (ro + 1) A Mut H s) (frA : ∃ eL, A.frames = some [eL] ∧ eL.frame = some ν ∧ eL.scope.kind ≠ .module) (nu : ∃ o, s.heap.get? ν = some o ∧ ∀ vs, o.data ≠ .fields vs)
    {ve va : Value} (pe : (vL (ex.map vS)).on (vis ν Mut s.heap) ve) (pa : (vL (ac.map vS)).on (vis ν Mut s.heap) va) (lx : ex.length < 1000) (la : ac.length < 1000) :
    Op ν prog w A Mut s (call (.ref 130) [ve, va]) (vT [vL ((sld (ex.length + ac.length) ex ac).1.map vS), vL ((sld (ex.length + ac.length) ex ac).2.map vS)]) := by
  refine fn_call C (B.df 8) (binds := [("expected", ve), ("actual", va)]) (fun _ _ _ => rfl) (fun _ x hx => ?_) (fun L cd s' F C' fl => ?_) (by decide)
  · simp only [List.mem_cons, List.not_mem_nil, or_false] at hx
    rcases hx with rfl | rfl <;> exact .inl rfl
  generalize hR : sld (ex.length + ac.length) ex ac = R
  have hM' : ∀ a ∈ Env.mut (eSl L cd), a ∈ Env.mut (eSl L cd) ++ Mut := fun a ha => List.mem_append_left _ ha
  have fr : FrOk ν (A.deeper (eSl L cd)) (eSl L cd) := by
    obtain ⟨eL, h1, h2, h3⟩ := frA
    exact ⟨eL, Around.frames_deeper h1, h2, h3⟩
  have hh : (A.deeper (eSl L cd)).handled = none := C'.hh
  refine Xs.cons (.mk fun E => wpAny_Assign_two ((Ev.cInt (ν := ν) (Mut := Mut)).use (Kp.refl _) fun v s₁ k₁ p₁ => ?_))
  obtain ⟨t₁, rfl⟩ := p₁
  refine wpAny_assign_Name ((F.at k₁).store (C'.at k₁) (hM' _ (.head _)) fun s₂ F₂ C₂ st₂ => ?_)
  refine wpAny_assign_Name (F₂.store C₂ (hM' _ (.head _)) fun s₃ F₃ C₃ st₃ => ?_)
  have fl₃ := ((fl.trans (k₁.vis _)).trans st₂.fl).trans st₃.fl
  refine Xs.cons (Xs.newL F₃ C₃ hM' (Ps := []) Es.nil (by decide) fun a s₄ fa aM a57 F₄ C₄ fl₄ st₄ O₄ => ?_)
  have hM₁ : ∀ x ∈ Env.mut (eSl L cd), x ∈ a :: (Env.mut (eSl L cd) ++ Mut) := fun x hx => .tail _ (hM' x hx)
  refine Xs.cons (Xs.newL F₄ C₄ hM₁ (Ps := []) Es.nil (by decide) fun b s₅ fb bM b57 F₅ C₅ fl₅ st₅ O₅ => ?_)
  have ab : a ≠ b := fun e => bM (e ▸ .head _)
  have aL : a ≠ L := fun e => aM (e ▸ hM' _ (.head _))
  have bL : b ≠ L := fun e => bM (e ▸ hM₁ _ (.head _))
  have Oa : Own a (([] : List Str).map vS) (vis ν (b :: a :: (Env.mut (eSl L cd) ++ Mut)) s₅.heap) s₅.heap := O₄.keep fl₅ fun o e => st₅.own a o (fun hm => aL (List.mem_singleton.mp hm)) a57 e
  have J : SSt ν ro (A.deeper (eSl L cd)) (b :: a :: (Env.mut (eSl L cd) ++ Mut)) H L cd s ex ac [] [] a b 0 0 _ _ s₅ :=
    ⟨F₅, C₅, .tail _ (hM₁ _ (.head _)), .tail _ (.head _), .head _, fa, fb, ab, aL, bL, nu, ⟨ve, rfl, (vL _).mono ((fl₃.trans fl₄).trans fl₅) pe⟩, ⟨va, rfl, (vL _).mono ((fl₃.trans fl₄).trans fl₅) pa⟩, rfl, rfl, ⟨t₁, rfl⟩, ⟨t₁, rfl⟩, Oa, O₅⟩
  generalize hcm : (bindC (eSl L cd).kindOf [(Str.ofString "expected", ve), (Str.ofString "actual", va)] fun _ => none) = cm at *
  have hRel : Rel ex ac R [] [] 0 0 := ⟨Nat.zero_le _, Nat.zero_le _, ex.length + ac.length, by lia, by rw [List.drop_zero, List.drop_zero, hR]; rfl⟩
  refine Xs.cons (Xs.whileM (fun s' => ∃ M' ms us i j m', (∀ y ∈ b :: a :: (Env.mut (eSl L cd) ++ Mut), y ∈ M') ∧ R = (ms, us) ∧ ms.length ≤ 1000 ∧ us.length ≤ 1000 ∧ SSt ν ro (A.deeper (eSl L cd)) M' H L cd s ex ac ms us a b i j m' cm s')
    (fun n s' => ∃ ms us i j m', n = (ex.length - i) + (ac.length - j) ∧ Rel ex ac R ms us i j ∧ ms.length ≤ i ∧ us.length ≤ j ∧ SSt ν ro (A.deeper (eSl L cd)) (b :: a :: (Env.mut (eSl L cd) ++ Mut)) H L cd s ex ac ms us a b i j m' cm s') ?_ _ ⟨[], [], 0, 0, _, rfl, hRel, Nat.le_refl _, Nat.le_refl _, J⟩ ?_)
  · rintro n s₆ ⟨ms, us, i, j, m', rfl, hrel, lm, lu, J₆⟩
    refine ⟨true, Eb.bool (Mut := Mut) Ev.cBool, fun _ s₇ k₇ => ?_, fun h => by cases h⟩
    have J₇ := J₆.at k₇
    refine .mk fun E => wpAny_execs_cons (wpAny_Try_except (wpAny_mono (try_body (Q := fun f s₁ => f = .next ∧ ∃ ms' us' i' j' m'', Rel ex ac R ms' us' i' j' ∧ ms'.length ≤ i' ∧ us'.length ≤ j' ∧ (ex.length - i') + (ac.length - j') < (ex.length - i) + (ac.length - j) ∧ SSt ν ro (A.deeper (eSl L cd)) (b :: a :: (Env.mut (eSl L cd) ++ Mut)) H L cd s ex ac ms' us' a b i' j' m'' cm s₁) hh J₇ lx la fr hrel lm lu fun ms' us' i' j' m'' s₈ h1 h2 h3 h4 J₈ => ⟨rfl, ms', us', i', j', m'', h1, h2, h3, h4, J₈⟩) (fun f s₈ y => ?_) fun v s₈ y => ?_))
    · obtain ⟨rfl, ms', us', i', j', m'', h1, h2, h3, h4, J₈⟩ := y
      exact wpAny_execs_nil (wpAny_execs_nil ⟨_, h4, ms', us', i', j', m'', rfl, h1, h2, h3, J₈⟩)
    · refine y.land fr fun e ms' us' i' j' M' m'' s₉ hv hp hs hd => ?_
      subst hv
      obtain ⟨hr, hx, lm', lu'⟩ := hp
      obtain ⟨r1, r2, _⟩ := id hr
      have hfin := hr.fin hx
      refine hand_ok B hd r1 r2 lx la lm' lu' fun M'' s₁₀ hs' J₁₀ => ?_
      refine ⟨M'', _, _, i', j', m'', fun y hy => hs' y (hs y hy), hfin, ?_, ?_, J₁₀⟩
      · rw [List.length_append, List.length_drop]; lia
      · rw [List.length_append, List.length_drop]; lia
  · rintro s₆ ⟨M', ms, us, i, j, m', hs, rfl, lm, lu, J₆⟩
    have fms : (vL (ms.map vS)).on (vis ν (Env.mut (eSl L cd) ++ Mut) s₆.heap) (.ref a) := by
      obtain ⟨vs, ⟨n, e⟩, q⟩ := J₆.om.ex
      exact ⟨a, vs, rfl, ⟨n, vis_get e aM a57⟩, q.mono (vis_sub fun y hy => hs y (.tail _ (.tail _ hy)))⟩
    have fus : (vL (us.map vS)).on (vis ν (Env.mut (eSl L cd) ++ Mut) s₆.heap) (.ref b) := by
      obtain ⟨vs, ⟨n, e⟩, q⟩ := J₆.ou.ex
      exact ⟨b, vs, rfl, ⟨n, vis_get e (fun hm => bM (.tail _ hm)) b57⟩, q.mono (vis_sub fun y hy => hs y (.tail _ (.tail _ hy)))⟩
    have C₆ : Cx ν ro (A.deeper (eSl L cd)) (Env.mut (eSl L cd) ++ Mut) H s₆ := ⟨J₆.C.hh, J₆.C.dep, J₆.C.un, J₆.C.tab, fun y hy => J₆.C.old y (hs y (.tail _ (.tail _ hy))), J₆.C.base.trans (vis_sub fun y hy => hs y (.tail _ (.tail _ hy))), J₆.C.tk⟩
    exact Xs.cons (Xs.ret (Ev.tuple C₆ (Es.cons (Ev.name (J₆.F.var (x := "missing") J₆.mi) fms) (Es.cons (Ev.name (J₆.F.var (x := "unexpected") J₆.un) fus) Es.nil)) (by show 2 ≤ sizeLine; decide)) fun v s'' k pv => ⟨v, rfl, J₆.F.k.trans k, pv⟩)
end
end Mine
set_option maxRecDepth 10000
namespace Mine
open PySem PySem.W PyProof.Rows PySem.Calls PySem.Spec
structure FmL (env : Env) (s₀ s : Shared) (m cm : Str → Option Value) : Prop where
  ex : ∃ h tk, s = { s₀ with heap := h, toks := tk }
  kf : env.scope.kind = .function
  ns : s.heap.Ns env.locals m
  cell : ∀ n c, env.cells.lookup n = some c → s.heap.IsCell c (cm n)
  l57 : env.locals ≠ 57
  c57 : ∀ p ∈ env.cells, p.2 ≠ 57
  apart : env.cells.Pairwise fun x y => x.2 ≠ y.2
  neL : ∀ p ∈ env.cells, p.2 ≠ env.locals
section
variable {ro : Nat} {prog : Program} {w : World} {A : Around} {Mut : List Addr} {s₀ s₁ s : Shared} {env : Env} {H : Heap} {m cm : Str → Option Value}
theorem FmL.var (F : FmL env s₀ s m cm) {x : Str} {v : Value} (e : m x = some v) (hk : env.kindOf x = some .local := by rfl) : Var env s.heap x v := .inl ⟨hk, F.l57, m, F.ns, e⟩
theorem FmL.varC (F : FmL env s₀ s m cm) {x : Str} {v : Value} (e : cm x = some v) (c : Addr) (hl : env.cells.lookup x = some c) (hk : env.kindOf x = some .cell := by rfl) : Var env s.heap x v :=
  .inr ⟨hk, c, hl, F.c57 _ (mem_of_lookup hl), e ▸ F.cell x c hl⟩
theorem FmL.at (F : FmL env s₀ s m cm) {s' : Shared} (k : Kp ν s s') : FmL env s₀ s' m cm := by
  obtain ⟨h, tk, rfl⟩ := F.ex
  obtain ⟨h', tk', e, kl, _⟩ := k.ex
  exact ⟨⟨h', tk', e⟩, F.kf, ns_le F.ns k.le F.l57, fun n c e => cell_le (F.cell n c e) k.le (F.c57 _ (mem_of_lookup e)), F.l57, F.c57, F.apart, F.neL⟩
theorem FmL.change (F : FmL env s₀ s m cm) {a : Addr} {h' : Heap} {tk : Nat} (hs : Heap.SameBut a s.heap h') (hL : a ≠ env.locals) (hc : ∀ p ∈ env.cells, p.2 ≠ a) : FmL env s₀ { s with heap := h', toks := tk } m cm := by
  obtain ⟨h, tk', rfl⟩ := F.ex
  exact ⟨⟨h', tk, rfl⟩, F.kf, F.ns.sameBut hs (Ne.symm hL), fun n c e => (F.cell n c e).sameBut hs (hc _ (mem_of_lookup e)), F.l57, F.c57, F.apart, F.neL⟩
theorem FmL.store {E : Value → Shared → Prop} {Q : Unit → Shared → Prop} (F : FmL env s₀ s m cm) (C : Cx ν ro A Mut H s) (hL : env.locals ∈ Mut) {x : Str} {v : Value}
    (h : ∀ s', FmL env s₀ s' (upd m x v) cm → Cx ν ro A Mut H s' → Fl (vis ν Mut s.heap) (vis ν Mut s'.heap) → Heap.SameBut env.locals s.heap s'.heap → Q () s') (hk : env.kindOf x = some .local := by rfl) : wpAny (model prog w) A (storeName env x v) Q E s :=
  wpAny_storeName_local hk F.ns (fun h' hn hs => h _ (by
      obtain ⟨h0, tk', rfl⟩ := F.ex
      exact ⟨⟨h', _, rfl⟩, F.kf, hn, fun n c e => (F.cell n c e).sameBut hs (F.neL _ (mem_of_lookup e)), F.l57, F.c57, F.apart, F.neL⟩)
    (C.change hs hL (by obtain ⟨o, _, _, e, _⟩ := hn; exact ⟨o, e⟩) (Nat.le_succ _)) (vis_change hs hL) hs) (by rw [F.kf]; rfl)
theorem FmL.storeC {E : Value → Shared → Prop} {Q : Unit → Shared → Prop} (F : FmL env s₀ s m cm) (C : Cx ν ro A Mut H s) (hM : ∀ a ∈ Env.mut env, a ∈ Mut) {x : Str} {v : Value} (c : Addr) (hl : env.cells.lookup x = some c)
    (h : ∀ s', FmL env s₀ s' m (upd cm x v) → Cx ν ro A Mut H s' → Fl (vis ν Mut s.heap) (vis ν Mut s'.heap) → Q () s') (hk : env.kindOf x = some .cell := by rfl) : wpAny (model prog w) A (storeName env x v) Q E s := by
  have hm := mem_of_lookup hl
  have hcM : c ∈ Env.mut env := .tail _ (List.mem_map.mpr ⟨_, hm, rfl⟩)
  refine wpAny_storeName_cell F.kf hk hl (F.cell x c hl) fun h' hv hs => h _ ?_ ?_ (vis_change hs (hM _ hcM))
  · obtain ⟨h0, tk', rfl⟩ := F.ex
    refine ⟨⟨h', _, rfl⟩, F.kf, F.ns.sameBut hs (Ne.symm (F.neL _ hm)), fun n c' e => ?_, F.l57, F.c57, F.apart, F.neL⟩
    by_cases q : n = x
    · subst q
      rw [hl] at e
      cases e
      simpa [upd] using hv
    · have hcc : c' ≠ c := fun r => q (name_of_addr F.apart (mem_of_lookup e) (r ▸ hm))
      simpa [upd, q] using (F.cell n c' e).sameBut hs hcc
  · have := C.change (tk := s.toks) hs (hM _ hcM) (by obtain ⟨o, e, _⟩ := hv; exact ⟨o, e⟩) (Nat.le_refl _)
    exact this
theorem XsL.assign (F : FmL env s₀ s m cm) (C : Cx ν ro A Mut H s) (hL : env.locals ∈ Mut) {x : Str} {p pos : Pos} {value : PySem.Expr} {P : VP} {Q : Flow → Shared → Prop} (hv : Ev ν prog w A Mut s (eval value env) P)
    (h : ∀ v s', FmL env s₀ s' (upd m x v) cm → Cx ν ro A Mut H s' → Fl (vis ν Mut s.heap) (vis ν Mut s'.heap) → P.on (vis ν Mut s'.heap) v → Q .next s') (hk : env.kindOf x = some .local := by rfl)
    (hs : swapsWith value (some (.Name x p)) pos.line env = pure false := by rfl) : Xs ν prog w A (exec (.Assign [.Name x p] value pos) env) Q s :=
  .mk fun E => wpAny_Assign_Name (hv.use (Kp.refl _) fun v s' k pv => (F.at k).store (C.at k) hL (fun s'' F' C' fl _ => h v s'' F' C' ((k.vis _).trans fl) (P.mono fl pv)) hk) hs
theorem XsL.assignC (F : FmL env s₀ s m cm) (C : Cx ν ro A Mut H s) (hM : ∀ a ∈ Env.mut env, a ∈ Mut) {x : Str} {p pos : Pos} {value : PySem.Expr} {P : VP} {Q : Flow → Shared → Prop} (hv : Ev ν prog w A Mut s (eval value env) P) (c : Addr) (hl : env.cells.lookup x = some c)
    (h : ∀ v s', FmL env s₀ s' m (upd cm x v) → Cx ν ro A Mut H s' → Fl (vis ν Mut s.heap) (vis ν Mut s'.heap) → P.on (vis ν Mut s'.heap) v → Q .next s') (hk : env.kindOf x = some .cell := by rfl)
    (hs : swapsWith value (some (.Name x p)) pos.line env = pure false := by rfl) : Xs ν prog w A (exec (.Assign [.Name x p] value pos) env) Q s :=
  .mk fun E => wpAny_Assign_Name (hv.use (Kp.refl _) fun v s' k pv => (F.at k).storeC (C.at k) hM c hl (fun s'' F' C' fl => h v s'' F' C' ((k.vis _).trans fl) (P.mono fl pv)) hk) hs
theorem comp_run {R : Result → Shared → Prop} {elt iter : PySem.Expr} {x : Str} {px : Pos} {ifs : List PySem.Expr} {scope : Scope} {pos : Pos} {cl' : List (Str × Addr)} (items : Row3) {a C : Addr} {I : Addr} {fp wr : List Addr} {P : Nat → Value → Prop} {St : Nat → Heap → Prop}
    (D : Addr) {s₄ : Shared} {m : Str → Option Value} (ht : Tab ν s.heap) (ho : Old Mut s.heap) (k₀ : Kp ν s s₄)
    (hkind : scope.kind = .function)
    (W : Walks prog w A I fp wr items.length P St) (hst : St 0 s₄.heap) (hwr : ∀ i h, St i h → ∀ b ∈ wr, ∃ o, h.get? b = some o)
    (hfp : ∀ i h, St i h → ∀ b ∈ fp, Off ν b ∧ ∃ o, h.get? b = some o)
    (hD : s₄.heap.PlainList D #[]) (hn : s₄.heap.Ns C m) (T : Tgt (compEnvC scope cl' C env) x a s₄.heap)
    (dDL : D ≠ C) (dDa : D ≠ a) (dDf : D ∉ fp) (dLf : C ∉ fp) (daf : a ∉ fp)
    (fresh : ∀ b ∈ wr ++ [C, a, D], s.heap.get? b = none)
    (hP : ∀ i v, P i v → ∀ t, items[i]? = some t → t.1.on (vis ν Mut s.heap) v) (hsz : items.length ≤ sizeLine)
    (body : ∀ t ∈ items, ∀ N s₃ v, Kp ν s s₃ → Old (N ++ Mut) s₃.heap → Fl (vis ν Mut s.heap) (vis ν (N ++ Mut) s₃.heap) → Var (compEnvC scope cl' C env) s₃.heap x v → t.1.on (vis ν (N ++ Mut) s₃.heap) v →
      Turn ν prog w A (N ++ Mut) (compEnvC scope cl' C env) ifs elt t s₃)
    (hR : ∀ s' ys m', Kp ν s s' → s'.heap.PlainList D ys.toArray → All2 (outsOf items) (vis ν ((wr ++ [C, a, D]) ++ Mut) s'.heap) ys → s'.heap.Ns C m' → R (.ok .next) s') :
    codeAny (model prog w) A (.compStart (.ListComp elt [⟨.Name x px, iter, ifs, 0⟩] scope pos) 0 (.ref I) (.ref D) (compEnvC scope cl' C env)) R s₄ := by
  have loop : codeAny (model prog w) A (.compLoop (.ListComp elt [⟨.Name x px, iter, ifs, 0⟩] scope pos) 0 (.ref I) (.ref D) (compEnvC scope cl' C env)) R s₄ :=
    comp_loop (cenv := compEnvC scope cl' C env) W hst hwr hfp hD hn T (by show (relabel scope env).kind = .function; exact hkind) dDL dDa dDf dLf daf k₀ ht ho fresh hP (fun t htm s₃ v k o f X p => body t htm _ s₃ v k o f X p) hsz hR
  exact codeAny_compStart_list loop (W.self 0 _ _ _ hst loop)
theorem use_end {E : Value → Shared → Prop} {Q : Flow → Shared → Prop} {y : Str} {py : Pos} {items : Row3} {C D a : Addr} {wr : List Addr} {s₂ s' : Shared} {ys : List Value} {m' : Str → Option Value} (F : FmL env s₀ s m cm) (Cs : Cx ν ro A Mut H s) (hM : ∀ a ∈ Env.mut env, a ∈ Mut) (hk : env.kindOf y = some .local)
    (k₂ : Kp ν s s₂) (ks : Kp ν s₂ s') (fresh : ∀ b ∈ wr ++ [C, a, D], s₂.heap.get? b = none) (dDL : D ≠ C) (hl : s'.heap.PlainList D ys.toArray) (hys : All2 (outsOf items) (vis ν ((wr ++ [C, a, D]) ++ Mut) s'.heap) ys) (hns : s'.heap.Ns C m')
    (h : ∀ v s'', FmL env s₀ s'' (upd m y v) cm → Cx ν ro A Mut H s'' → Fl (vis ν Mut s.heap) (vis ν Mut s''.heap) → (vL (outsOf items)).on (vis ν Mut s''.heap) v → Q .next s'') :
    wpAny (model prog w) A (assign (.Name y py) env (.ref D)) (fun _ s'' => ∃ m, s''.heap.Ns C m ∧ ∀ h', Heap.SameBut C s''.heap h' → Q .next { s'' with heap := h' }) E s' := by
  have C₂ := Cs.at k₂
  have F' := F.at (k₂.trans ks)
  have C' := Cs.at (k₂.trans ks)
  have hL := hM _ (.head _)
  have off : ∀ b ∈ wr ++ [C, a, D], Off ν b := fun b hb => off_of C₂.tab (fresh b hb)
  have notM : ∀ b ∈ wr ++ [C, a, D], b ∉ Mut := fun b hb hm => by
    obtain ⟨_, o, e⟩ := C₂.old b hm
    rw [fresh b hb] at e; cases e
  have iC : C ∈ wr ++ [C, a, D] := by simp
  have iD : D ∈ wr ++ [C, a, D] := by simp
  have LC : env.locals ≠ C := fun e => notM C iC (e ▸ hL)
  have LD : env.locals ≠ D := fun e => notM D iD (e ▸ hL)
  refine wpAny_assign_Name (F'.store C' hL (fun s'' F'' C'' fl hs => ⟨m', hns.sameBut hs (Ne.symm LC), fun h' hs' => ?_⟩) hk)
  have fl2 : Fl (vis ν Mut s₂.heap) (vis ν Mut h') := fun b o e => by
    obtain ⟨e1, n1, n2⟩ := vis_iff.mp (fl b o (ks.vis _ b o e))
    have : b ≠ C := fun q => by rw [q] at e; obtain ⟨e, _⟩ := vis_iff.mp e; rw [fresh C iC] at e; cases e
    exact vis_iff.mpr ⟨(hs'.2 b this).trans e1, n1, n2⟩
  refine h (.ref D) { s'' with heap := h' } ?_ ?_ ((k₂.vis _).trans fl2) ?_
  · exact F''.change (tk := s''.toks) hs' (Ne.symm LC) fun p hp q => notM C iC (hM _ (.tail _ (List.mem_map.mpr ⟨p, hp, q⟩)))
  · refine ⟨C''.hh, C''.dep, C''.un, ?_, fun b hb => ?_, C₂.base.trans fl2, C''.tk⟩
    · obtain ⟨ps, e, r, o, eo⟩ := C''.tab
      exact ⟨ps, (hs'.2 57 (Ne.symm (off C iC).1)).trans e, r, o, (hs'.2 ν (Ne.symm (off C iC).2)).trans eo⟩
    · obtain ⟨n, o, e⟩ := C''.old b hb
      exact ⟨n, o, (hs'.2 b fun q => notM C iC (q ▸ hb)).trans e⟩
  · obtain ⟨n, e⟩ := hl
    refine ⟨D, ys, rfl, ⟨n, vis_get ((hs'.2 D dDL).trans ((hs.2 D (Ne.symm LD)).trans e)) (notM D iD) (off D iD)⟩, ?_⟩
    refine hys.mono fun b o eb => ?_
    obtain ⟨e1, n1, n2⟩ := vis_iff.mp eb
    have bN : b ∉ wr ++ [C, a, D] := fun hm => n1 (List.mem_append_left _ hm)
    have bM : b ∉ Mut := fun hm => n1 (List.mem_append_right _ hm)
    exact vis_iff.mpr ⟨(hs'.2 b fun q => bN (q ▸ iC)).trans ((hs.2 b fun q => bM (q ▸ hL)).trans e1), bM, n2⟩
end
end Mine
set_option maxRecDepth 10000
namespace Mine
open PySem PySem.W PyProof.Rows PySem.Calls PySem.Spec
section
variable {ro : Nat} {prog : Program} {w : World} {A : Around} {Mut : List Addr} {s₀ s₁ s : Shared} {env : Env} {H : Heap} {m cm : Str → Option Value}
theorem XsL.assignComp {elt iter : PySem.Expr} {x y : Str} {px py : Pos} {ifs : List PySem.Expr} {scope : Scope} {pos spos : Pos} {cl : List (Str × Addr)} {Psrc : VP} {Q : Flow → Shared → Prop} (items : Row3) (F : FmL env s₀ s m cm) (Cs : Cx ν ro A Mut H s) (hM : ∀ a ∈ Env.mut env, a ∈ Mut)
    (hsrc : Ev ν prog w A Mut s (eval iter env) Psrc)
    (hit : ∀ v s', Kp ν s s' → Psrc.on (vis ν Mut s'.heap) v → Iter ν prog w A Mut s' v (items.map (·.1)))
    (body : ∀ t ∈ items, ∀ C N s₃ v, Kp ν s s₃ → Old (N ++ Mut) s₃.heap → Fl (vis ν Mut s.heap) (vis ν (N ++ Mut) s₃.heap) → Var (compEnvC scope cl C env) s₃.heap x v → t.1.on (vis ν (N ++ Mut) s₃.heap) v →
      Turn ν prog w A (N ++ Mut) (compEnvC scope cl C env) ifs elt t s₃)
    (hsz : items.length ≤ sizeLine)
    (h : ∀ v s', FmL env s₀ s' (upd m y v) cm → Cx ν ro A Mut H s' → Fl (vis ν Mut s.heap) (vis ν Mut s'.heap) → (vL (outsOf items)).on (vis ν Mut s'.heap) v → Q .next s')
    (hclos : closureFor scope env = pure cl) (hx : scope.names.lookup x = some .local)
    (hcell : ∀ y ∈ scope.names, y.2 ≠ .cell) (hnames : ∀ y ∈ scope.names, y.2 = .local → scope.names.lookup y.1 = some .local) (hkind : scope.kind = .function := by rfl)
    (hy : env.kindOf y = some .local := by rfl)
    (hsw : swapsWith (.ListComp elt [⟨.Name x px, iter, ifs, 0⟩] scope pos) (some (.Name y py)) spos.line env = pure true := by rfl)
    (hs : ∀ x, foldedSetIterable iter env x = pure x := by intro _; rfl) :
    Xs ν prog w A (exec (.Assign [.Name y py] (.ListComp elt [⟨.Name x px, iter, ifs, 0⟩] scope pos) spos) env) Q s := .mk fun E => by
  rw [exec_Assign_Name_used _ _ _ _ hsw]
  refine wpAny_bind (wpAny_standAt (wpAny_bind ?_))
  show wpAny _ A (do let _ ← comprehension (.ListComp elt [⟨.Name x px, iter, ifs, 0⟩] scope pos) scope env _ (newList []) false (eval iter env) (some (PySem.assign (.Name y py) env))) _ _ s
  refine wpAny_bind (wpAny_mono (wpAny_comprehension_free (use := some (PySem.assign (.Name y py) env)) (Q := fun _ s' => Q .next s') rfl hs hclos hkind hnames
    (hsrc.use (Kp.refl _) fun xv s₂ k₂ pq => ?_)) (fun _ s' hq => wpAny_pure (wpAny_pure hq)) fun _ _ e => e)
  have ht := Cs.tab
  have ho := Cs.old
  have it := hit xv s₂ k₂ pq
  refine it.go _ _ fun I fp wr P St s₃ k₃ hwn hwr hfp hfl hfM hqu W hst hP => ?_
  rw [List.length_map] at W
  refine wpAny_newObj_type (wpAny_newFunctionEnv hcell (by intro y hy; simp at hy) (fun h₁ hns₁ hsb₁ => ?_) hkind)
  dsimp only at hns₁ hsb₁ ⊢
  generalize hH2 : s₃.heap.push { cls := .type "list", dict := none, data := .seq ([] : List Value).toArray } = H2 at hns₁ hsb₁ ⊢
  have hC : H2.objs.size = s₃.heap.objs.size + 1 := by rw [← hH2, Heap.size_push]
  have hDC : s₃.heap.objs.size ≠ H2.objs.size := by rw [hC]; exact Nat.ne_of_lt (Nat.lt_succ_self _)
  have below : ∀ b, b < s₃.heap.objs.size → b ≠ H2.objs.size ∧ b ≠ s₃.heap.objs.size := fun b hb => ⟨by rw [hC]; exact Nat.ne_of_lt (Nat.lt_succ_of_lt hb), Nat.ne_of_lt hb⟩
  have hDf : s₃.heap.objs.size ∉ fp := fun hm => Nat.lt_irrefl _ (hfl _ hm)
  have hCf : H2.objs.size ∉ fp := fun hm => by have := hfl _ hm; rw [hC] at this; exact Nat.lt_irrefl _ (Nat.lt_of_succ_lt this)
  have old : Fl s₃.heap h₁ := fun b o e => hsb₁.extBut b o (below b (Heap.lt_size e)).1 (Heap.get?_push_of_some _ (hH2 ▸ Heap.get?_push_of_some _ e))
  have hacc : h₁.PlainList s₃.heap.objs.size #[] := ⟨_, hsb₁.extBut _ _ hDC (Heap.get?_push_of_some _ (hH2 ▸ Heap.get?_push_size _ rfl))⟩
  have hst₁ : St 0 h₁ := W.frame _ _ _ hst fun b _ o e => old b o e
  have ksz : ∀ b, s₃.heap.objs.size ≤ b → s₂.heap.get? b = none := fun b hb => by
    cases e : s₂.heap.get? b with
    | none => rfl
    | some o =>
      have h57 : b ≠ 57 := fun q => by
        have := ((k₂.trans k₃).le.tab ht).lt
        lia
      obtain ⟨sl, e'⟩ := k₃.le.frm b o h57 e
      exact absurd (Heap.lt_size e') (Nat.not_lt.mpr hb)
  have fresh : ∀ b ∈ wr ++ [H2.objs.size, H2.objs.size, s₃.heap.objs.size], s₂.heap.get? b = none := by
    intro b hb
    rcases List.mem_append.mp hb with q | q
    · exact hwn b q
    · rcases List.mem_cons.mp q with rfl | q
      · exact ksz _ (by rw [hC]; exact Nat.le_succ _)
      · rcases List.mem_cons.mp q with rfl | q
        · exact ksz _ (by rw [hC]; exact Nat.le_succ _)
        · rw [List.mem_singleton.mp q]; exact ksz _ (Nat.le_refl _)
  exact comp_run (prog := prog) (w := w) (A := A) (Mut := Mut) (s := s₂) (env := env) (elt := elt) (iter := iter) (x := x) (px := px) (ifs := ifs) (scope := scope) (pos := pos) (cl' := cl) items (a := H2.objs.size) (C := H2.objs.size) (D := s₃.heap.objs.size)
    (s₄ := { s₃ with heap := h₁, toks := s₃.toks + ([] : List (Str × Value)).length }) (k₂.le.tab ht) (ho.le k₂.le) (k₃.trans (Kp.both old.le (Nat.le_refl _))) hkind W hst₁ hwr hfp hacc hns₁ (.loc (lookup_relabel_local hx) rfl) hDC hDC hDf hCf hCf fresh
    (fun i v hv t hti => hP i v hv _ (by rw [List.getElem?_map, hti]; rfl)) hsz (fun t htm N s₅ v k₅ o₅ f₅ X₅ p₅ => body t htm _ N s₅ v (k₂.trans k₅) o₅ ((k₂.vis _).trans f₅) X₅ p₅)
    fun s' ys m' ks hl hys hns => use_end F Cs hM hy k₂ ks fresh hDC hl hys hns h
theorem XsL.assignCompC {elt iter : PySem.Expr} {x y : Str} {px py : Pos} {ifs : List PySem.Expr} {scope : Scope} {pos spos : Pos} {cl : List (Str × Addr)} {Psrc : VP} {Q : Flow → Shared → Prop} (items : Row3) (F : FmL env s₀ s m cm) (Cs : Cx ν ro A Mut H s) (hM : ∀ a ∈ Env.mut env, a ∈ Mut)
    (hsrc : Ev ν prog w A Mut s (eval iter env) Psrc)
    (hit : ∀ v s', Kp ν s s' → Psrc.on (vis ν Mut s'.heap) v → Iter ν prog w A Mut s' v (items.map (·.1)))
    (body : ∀ t ∈ items, ∀ C a N s₃ v, Kp ν s s₃ → Old (N ++ Mut) s₃.heap → Fl (vis ν Mut s.heap) (vis ν (N ++ Mut) s₃.heap) → Var (compEnvC scope ((x, a) :: cl) C env) s₃.heap x v → t.1.on (vis ν (N ++ Mut) s₃.heap) v →
      Turn ν prog w A (N ++ Mut) (compEnvC scope ((x, a) :: cl) C env) ifs elt t s₃)
    (hsz : items.length ≤ sizeLine)
    (h : ∀ v s', FmL env s₀ s' (upd m y v) cm → Cx ν ro A Mut H s' → Fl (vis ν Mut s.heap) (vis ν Mut s'.heap) → (vL (outsOf items)).on (vis ν Mut s'.heap) v → Q .next s')
    (hclos : closureFor scope env = pure cl) (hcells : ∀ n, cellsFrom n scope.names cl = (x, n) :: cl) (hpush : ∀ h, pushCells h scope.names = h.push { cls := .type "cell", data := .cell none })
    (hx : ∀ C cl', (compEnvC scope cl' C env).kindOf x = some .cell) (hnames : ∀ y ∈ scope.names, y.2 = .local → scope.names.lookup y.1 = some .local) (hkind : scope.kind = .function := by rfl)
    (hy : env.kindOf y = some .local := by rfl)
    (hsw : swapsWith (.ListComp elt [⟨.Name x px, iter, ifs, 0⟩] scope pos) (some (.Name y py)) spos.line env = pure true := by rfl)
    (hs : ∀ x, foldedSetIterable iter env x = pure x := by intro _; rfl) :
    Xs ν prog w A (exec (.Assign [.Name y py] (.ListComp elt [⟨.Name x px, iter, ifs, 0⟩] scope pos) spos) env) Q s := .mk fun E => by
  rw [exec_Assign_Name_used _ _ _ _ hsw]
  refine wpAny_bind (wpAny_standAt (wpAny_bind ?_))
  show wpAny _ A (do let _ ← comprehension (.ListComp elt [⟨.Name x px, iter, ifs, 0⟩] scope pos) scope env _ (newList []) false (eval iter env) (some (PySem.assign (.Name y py) env))) _ _ s
  refine wpAny_bind (wpAny_mono (wpAny_comprehension_free (use := some (PySem.assign (.Name y py) env)) (Q := fun _ s' => Q .next s') rfl hs hclos hkind hnames
    (hsrc.use (Kp.refl _) fun xv s₂ k₂ pq => ?_)) (fun _ s' hq => wpAny_pure (wpAny_pure hq)) fun _ _ e => e)
  have ht := Cs.tab
  have ho := Cs.old
  have it := hit xv s₂ k₂ pq
  refine it.go _ _ fun I fp wr P St s₃ k₃ hwn hwr hfp hfl hfM hqu W hst hP => ?_
  rw [List.length_map] at W
  refine wpAny_newObj_type (newEnv_cells ?_)
  rw [hcells, hpush]
  generalize hH2 : s₃.heap.push { cls := .type "list", dict := none, data := .seq ([] : List Value).toArray } = H2
  have hC : H2.objs.size = s₃.heap.objs.size + 1 := by rw [← hH2, Heap.size_push]
  generalize hH1 : (H2.push { cls := .type "dict", data := .dict #[] }).push { cls := .type "cell", data := .cell none } = h₁
  have hDC : s₃.heap.objs.size ≠ H2.objs.size := by lia
  have hDa : s₃.heap.objs.size ≠ H2.objs.size + 1 := by lia
  have hDf : s₃.heap.objs.size ∉ fp := fun hm => Nat.lt_irrefl _ (hfl _ hm)
  have hCf : H2.objs.size ∉ fp := fun hm => by have := hfl _ hm; lia
  have haf : H2.objs.size + 1 ∉ fp := fun hm => by have := hfl _ hm; lia
  have old2 : Fl H2 h₁ := fun b o e => by rw [← hH1]; exact Heap.get?_push_of_some _ (Heap.get?_push_of_some _ e)
  have old : Fl s₃.heap h₁ := fun b o e => old2 b o (hH2 ▸ Heap.get?_push_of_some _ e)
  have hacc : h₁.PlainList s₃.heap.objs.size #[] := ⟨0, old2 _ _ (hH2 ▸ Heap.get?_push_size _ rfl)⟩
  have hns₁ : h₁.Ns H2.objs.size fun _ => none := by
    have q := (Heap.Ns.new H2 (.type "dict")).keeps (h' := h₁) fun b o e => by rw [← hH1]; exact Heap.get?_push_of_some _ e
    exact q
  have hcell : h₁.IsCell (H2.objs.size + 1) none := by
    refine ⟨{ cls := .type "cell", data := .cell none }, ?_, rfl⟩
    rw [← hH1]
    have q := Heap.get?_push_size (H2.push { cls := .type "dict", data := .dict #[] }) (o := { cls := .type "cell", data := .cell none }) rfl
    rw [Heap.size_push] at q
    exact q
  have hst₁ : St 0 h₁ := W.frame _ _ _ hst fun b _ o e => old b o e
  have ksz : ∀ b, s₃.heap.objs.size ≤ b → s₂.heap.get? b = none := fun b hb => by
    cases e : s₂.heap.get? b with
    | none => rfl
    | some o =>
      have h57 : b ≠ 57 := fun q => by
        have := ((k₂.trans k₃).le.tab ht).lt
        lia
      obtain ⟨sl, e'⟩ := k₃.le.frm b o h57 e
      exact absurd (Heap.lt_size e') (Nat.not_lt.mpr hb)
  have fresh : ∀ b ∈ wr ++ [H2.objs.size, H2.objs.size + 1, s₃.heap.objs.size], s₂.heap.get? b = none := by
    intro b hb
    rcases List.mem_append.mp hb with q | q
    · exact hwn b q
    · rcases List.mem_cons.mp q with rfl | q
      · exact ksz _ (by lia)
      · rcases List.mem_cons.mp q with rfl | q
        · exact ksz _ (by lia)
        · rw [List.mem_singleton.mp q]; exact ksz _ (Nat.le_refl _)
  exact comp_run (prog := prog) (w := w) (A := A) (Mut := Mut) (s := s₂) (env := env) (elt := elt) (iter := iter) (x := x) (px := px) (ifs := ifs) (scope := scope) (pos := pos) (cl' := (x, H2.objs.size + 1) :: cl) items (a := H2.objs.size + 1) (C := H2.objs.size) (D := s₃.heap.objs.size)
    (s₄ := { s₃ with heap := h₁ }) (k₂.le.tab ht) (ho.le k₂.le) (k₃.trans (Kp.heap old.le)) hkind W hst₁ hwr hfp hacc hns₁ (.cell (hx _ _) (by simp [compEnvC]) (Nat.succ_ne_self _) ⟨_, hcell⟩) hDC hDa hDf hCf haf fresh
    (fun i v hv t hti => hP i v hv _ (by rw [List.getElem?_map, hti]; rfl)) hsz (fun t htm N s₅ v k₅ o₅ f₅ X₅ p₅ => body t htm _ _ N s₅ v (k₂.trans k₅) o₅ ((k₂.vis _).trans f₅) X₅ p₅)
    fun s' ys m' ks hl hys hns => use_end F Cs hM hy k₂ ks fresh hDC hl hys hns h
theorem XsL.compF {α : Type} {elt iter : PySem.Expr} {x y : Str} {px py : Pos} {ifs : List PySem.Expr} {scope : Scope} {pos spos : Pos} {cl : List (Str × Addr)} {Psrc : VP} {Q : Flow → Shared → Prop} (xs : List α) (f : α → VP) (b : α → Bool) (g : α → VP) (F : FmL env s₀ s m cm) (C : Cx ν ro A Mut H s) (hM : ∀ a ∈ Env.mut env, a ∈ Mut)
    (hsrc : Ev ν prog w A Mut s (eval iter env) Psrc)
    (hit : ∀ v s', Kp ν s s' → Cx ν ro A Mut H s' → Psrc.on (vis ν Mut s'.heap) v → Iter ν prog w A Mut s' v (xs.map f))
    (body : ∀ t ∈ xs, ∀ C' N s₃ v, Kp ν s s₃ → Cx ν ro A (N ++ Mut) H s₃ → Fl (vis ν Mut s.heap) (vis ν (N ++ Mut) s₃.heap) → Var (compEnvC scope cl C' env) s₃.heap x v → (f t).on (vis ν (N ++ Mut) s₃.heap) v →
      Turn ν prog w A (N ++ Mut) (compEnvC scope cl C' env) ifs elt (f t, b t, g t) s₃)
    (hsz : xs.length ≤ sizeLine)
    (h : ∀ v s', FmL env s₀ s' (upd m y v) cm → Cx ν ro A Mut H s' → Fl (vis ν Mut s.heap) (vis ν Mut s'.heap) → (vL ((xs.filter b).map g)).on (vis ν Mut s'.heap) v → Q .next s')
    (hclos : closureFor scope env = pure cl) (hx : scope.names.lookup x = some .local)
    (hcell : ∀ y ∈ scope.names, y.2 ≠ .cell) (hnames : ∀ y ∈ scope.names, y.2 = .local → scope.names.lookup y.1 = some .local) (hkind : scope.kind = .function := by rfl)
    (hy : env.kindOf y = some .local := by rfl)
    (hsw : swapsWith (.ListComp elt [⟨.Name x px, iter, ifs, 0⟩] scope pos) (some (.Name y py)) spos.line env = pure true := by rfl)
    (hs : ∀ x, foldedSetIterable iter env x = pure x := by intro _; rfl) :
    Xs ν prog w A (exec (.Assign [.Name y py] (.ListComp elt [⟨.Name x px, iter, ifs, 0⟩] scope pos) spos) env) Q s :=
  XsL.assignComp (xs.map fun x => (f x, b x, g x)) F C hM hsrc (fun v s' k p => by rw [List.map_map]; exact hit v s' k (C.at k) p)
    (fun t ht C' N s₃ v k₃ o₃ f₃ X₃ p₃ => by
      obtain ⟨u, hu, rfl⟩ := List.mem_map.mp ht
      exact body u hu C' N s₃ v k₃ (C.in k₃ o₃ f₃) f₃ X₃ p₃)
    (by rw [List.length_map]; exact hsz) (fun v s' F' C' fl q => h v s' F' C' fl (by rw [outs_filter] at q; exact q)) hclos hx hcell hnames hkind hy hsw hs
theorem XsL.compFC {α : Type} {elt iter : PySem.Expr} {x y : Str} {px py : Pos} {ifs : List PySem.Expr} {scope : Scope} {pos spos : Pos} {cl : List (Str × Addr)} {Psrc : VP} {Q : Flow → Shared → Prop} (xs : List α) (f : α → VP) (b : α → Bool) (g : α → VP) (F : FmL env s₀ s m cm) (C : Cx ν ro A Mut H s) (hM : ∀ a ∈ Env.mut env, a ∈ Mut)
    (hsrc : Ev ν prog w A Mut s (eval iter env) Psrc)
    (hit : ∀ v s', Kp ν s s' → Cx ν ro A Mut H s' → Psrc.on (vis ν Mut s'.heap) v → Iter ν prog w A Mut s' v (xs.map f))
    (body : ∀ t ∈ xs, ∀ C' a N s₃ v, Kp ν s s₃ → Cx ν ro A (N ++ Mut) H s₃ → Fl (vis ν Mut s.heap) (vis ν (N ++ Mut) s₃.heap) → Var (compEnvC scope ((x, a) :: cl) C' env) s₃.heap x v → (f t).on (vis ν (N ++ Mut) s₃.heap) v →
      Turn ν prog w A (N ++ Mut) (compEnvC scope ((x, a) :: cl) C' env) ifs elt (f t, b t, g t) s₃)
    (hsz : xs.length ≤ sizeLine)
    (h : ∀ v s', FmL env s₀ s' (upd m y v) cm → Cx ν ro A Mut H s' → Fl (vis ν Mut s.heap) (vis ν Mut s'.heap) → (vL ((xs.filter b).map g)).on (vis ν Mut s'.heap) v → Q .next s')
    (hclos : closureFor scope env = pure cl) (hcells : ∀ n, cellsFrom n scope.names cl = (x, n) :: cl) (hpush : ∀ h, pushCells h scope.names = h.push { cls := .type "cell", data := .cell none })
    (hx : ∀ C cl', (compEnvC scope cl' C env).kindOf x = some .cell) (hnames : ∀ y ∈ scope.names, y.2 = .local → scope.names.lookup y.1 = some .local) (hkind : scope.kind = .function := by rfl)
    (hy : env.kindOf y = some .local := by rfl)
    (hsw : swapsWith (.ListComp elt [⟨.Name x px, iter, ifs, 0⟩] scope pos) (some (.Name y py)) spos.line env = pure true := by rfl)
    (hs : ∀ x, foldedSetIterable iter env x = pure x := by intro _; rfl) :
    Xs ν prog w A (exec (.Assign [.Name y py] (.ListComp elt [⟨.Name x px, iter, ifs, 0⟩] scope pos) spos) env) Q s :=
  XsL.assignCompC (xs.map fun x => (f x, b x, g x)) F C hM hsrc (fun v s' k p => by rw [List.map_map]; exact hit v s' k (C.at k) p)
    (fun t ht C' a N s₃ v k₃ o₃ f₃ X₃ p₃ => by
      obtain ⟨u, hu, rfl⟩ := List.mem_map.mp ht
      exact body u hu C' a N s₃ v k₃ (C.in k₃ o₃ f₃) f₃ X₃ p₃)
    (by rw [List.length_map]; exact hsz) (fun v s' F' C' fl q => h v s' F' C' fl (by rw [outs_filter] at q; exact q)) hclos hcells hpush hx hnames hkind hy hsw hs
end
end Mine
set_option maxRecDepth 10000
namespace Mine
open PySem PySem.W PyProof.Rows PySem.Calls PySem.Spec
noncomputable abbrev eLaw (L : Addr) (cd : Addr × Value) : Env := envOfC "law" (fScope (nth 40)) L cd.1 cd.2
noncomputable def aVal : Stmt → PySem.Expr
  | .Assign _ v _ => v
  | .If t _ _ _ => t
  | .Return (some e) _ => e
  | _ => .Constant .none 0 default
noncomputable abbrev lawS (k : Nat) : Stmt := at_ (fBody (nth 40)) k
noncomputable def Has (ν : Nat) (Mut : List Addr) (env : Env) (s : Shared) (x : Str) (P : VP) : Prop := ∃ v, Var env s.heap x v ∧ P.on (vis ν Mut s.heap) v
noncomputable abbrev vNm (ns : List (List Nat)) : VP := vL (ns.map fun n => vS (T n))
noncomputable def fixed10 : List (List Nat) := [[], [97], [97, 98], [97, 61, 98], [42, 97], [233, 97], [98, 32, 97], [95], [97, 97, 98], [97, 98, 97, 98]]
noncomputable def drawnOf (ns : List Int) : List (List Nat) := ((List.range (min 3 ns.length)).map fun (k : Nat) => nameOf ((lpick ns (some (k : Int)) none (some 3)).sum)) ++ fixed10
noncomputable def ninB (l : List (List Nat)) (x : List Nat) : Bool := !((l.map T).any (· == T x))
noncomputable def namesOf (d : List (List Nat)) : List (List Nat) := ((List.range d.length).filter fun k => ninB (d.take k) (d.getD k [])).map fun k => d.getD k []
noncomputable def fig1 (c : Nat) : List Nat := [61, hx (c / 16), hx (c % 16)]
noncomputable def fig (n : List Nat) : List Nat := (n.map fig1).flatten
noncomputable def hd1 (c : Nat) : List Nat := if c = 32 then [95] else fig1 c
noncomputable def hdr (n : List Nat) : List Nat := (n.map hd1).flatten
noncomputable def nameOk (n : List Nat) : Prop := n.length < 100 ∧ ∀ c ∈ n, c < 256
theorem fig_len (n : List Nat) : (fig n).length = 3 * n.length := by
  unfold fig
  induction n with
  | nil => rfl
  | cons a r ih => rw [List.map_cons, List.flatten_cons, List.length_append, ih, List.length_cons]; show 3 + _ = _; lia
section
variable {ro : Nat} {prog : Program} {w : World} {A : Around} {Mut : List Addr} {s₀ s₁ s : Shared} {env : Env} {H : Heap} {mg mb : Str → Option Value} {m cm : Str → Option Value} {L : Addr} {cd : Addr × Value} {ns : List Int}
theorem Has.ev {x : Str} {P : VP} {pos : Pos} (h : Has ν Mut env s x P) (hk : env.scope.kind = .function := by rfl) (hd : (x == ("__debug__" : Str)) = false := by decide) : Ev ν prog w A Mut s (eval (.Name x pos) env) P := let ⟨v, X, p⟩ := h; Ev.name X p hk hd
theorem Has.comp {x : Str} {P : VP} {s' : Shared} {scope : Scope} {cl : List (Str × Addr)} {C : Addr} {N : List Addr} (h : Has ν Mut env s x P) (k : Kp ν s s') (f : Fl (vis ν Mut s.heap) (vis ν (N ++ Mut) s'.heap)) (hk : env.kindOf x = some .cell) (hk' : (compEnvC scope cl C env).kindOf x = some .cell)
    (hl : ∀ c, env.cells.lookup x = some c → cl.lookup x = some c) : Has ν (N ++ Mut) (compEnvC scope cl C env) s' x P := let ⟨v, X, p⟩ := h; ⟨v, (X.keeps k.le).comp hk hk' hl, P.mono f p⟩
theorem Has.cev {x : Str} {P : VP} {s' : Shared} {scope : Scope} {cl : List (Str × Addr)} {C : Addr} {N : List Addr} {pos : Pos} (h : Has ν Mut env s x P) (k : Kp ν s s') (f : Fl (vis ν Mut s.heap) (vis ν (N ++ Mut) s'.heap)) (hk : env.kindOf x = some .cell := by rfl) (hk' : (compEnvC scope cl C env).kindOf x = some .cell := by rfl)
    (hl : ∀ c, env.cells.lookup x = some c → cl.lookup x = some c := by exact fun c h => h) (hkd : (compEnvC scope cl C env).scope.kind = .function := by rfl) (hd : (x == ("__debug__" : Str)) = false := by decide) : Ev ν prog w A (N ++ Mut) s' (eval (.Name x pos) (compEnvC scope cl C env)) P := (Has.comp h k f hk hk' hl).ev hkd hd
theorem fits_small {n : Nat} (h : n ≤ 100000) : n ≤ sizeLine := Nat.le_trans h (by decide)
theorem s1_ok (B : Base H mg mb) (C : Cx ν (ro + 5) A Mut H s) {d : List (List Nat)} (hd : Has ν Mut (eLaw L cd) s "drawn" (vNm d)) (hn : d.length < 1000) : Ev ν prog w A Mut s (eval (aVal (lawS 1)) (eLaw L cd)) (vNm (namesOf d)) := by
  unfold namesOf vNm
  rw [List.map_map]
  have z1 : (d.map fun n => vS (T n)).length < 2 ^ 63 := by rw [List.length_map]; lia
  have z2 : (d.map fun n => vS (T n)).length ≤ sizeLine := by rw [List.length_map]; exact fits_small (by lia)
  refine Ev.compF (Psrc := vR 0 d.length) (List.range d.length) (fun (k : Nat) => vI (k : Int)) (fun k => ninB (d.take k) (d.getD k [])) (fun k => vS (T (d.getD k []))) C ?_ (fun v s k c q => Iter.ran c q) (fun t ht C' N s₃ v k₃ C₃ f₃ X₃ p₃ => ?_) (by rw [List.length_range]; exact fits_small (by lia)) rfl rfl (by decide) (by decide)
  · exact Ev.range1 B C ((Ev.lenL B C hd.ev z1).imp fun h v q => by simpa using q) (by lia)
  · have ht' := List.mem_range.mp ht
    have hit : (d.map fun n => vS (T n))[(t : Int).toNat]? = some (vS (T (d.getD t []))) := by
      rw [Int.toNat_natCast, List.getElem?_map, List.getD_eq_getElem?_getD, List.getElem?_eq_getElem ht']; rfl
    refine Turn.one ?_ fun _ => Ev.itemL (k := (t : Int)) (by lia) (by lia) hit (hd.cev k₃ f₃) (Ev.name X₃ p₃)
    refine Eb.cmp (P1 := vS (T (d.getD t []))) (P2 := vL (((d.take t).map T).map vS)) (Ev.itemL (k := (t : Int)) (by lia) (by lia) hit (hd.cev k₃ f₃) (Ev.name X₃ p₃)) ((Ev.sliceL C₃ (hd.cev k₃ f₃) .no (.is (Ev.name X₃ p₃)) .no (by decide) z2).imp fun h v q => ?_) (fun v1 v2 s k q1 q2 => op_ninL q1 q2)
    rw [lpick_to, ← List.map_take] at q
    rw [List.map_map]
    exact q
theorem figs_ev (B : Base H mg mb) (C : Cx ν (ro + 5) A Mut H s) {n : List Nat} {e1 elt : PySem.Expr} {g : Nat → List Nat} {sc : Scope} {cl : List (Str × Addr)} {k : Nat} {p q1 q2 apos pos : Pos} (hok : nameOk n) (he : Ev ν prog w A Mut s (eval e1 env) (vS (T n)))
    (body : ∀ c ∈ n, ∀ C' N s₃ v, Kp ν s s₃ → Cx ν (ro + 5) A (N ++ Mut) H s₃ → Fl (vis ν Mut s.heap) (vis ν (N ++ Mut) s₃.heap) → Var (compEnvC sc cl C' env) s₃.heap "sign" v → (vS ⟨#[c]⟩).on (vis ν (N ++ Mut) s₃.heap) v → Ev ν prog w A (N ++ Mut) s₃ (eval elt (compEnvC sc cl C' env)) (vS (T (g c))))
    (hg : ∀ c, (g c).length ≤ 3)
    (hclos : closureFor sc env = pure cl) (hx : sc.names.lookup (Str.ofString "sign") = some NameKind.local) (hcell : ∀ y ∈ sc.names, y.2 ≠ .cell) (hnames : ∀ y ∈ sc.names, y.2 = .local → sc.names.lookup y.1 = some .local) (hkind : sc.kind = .function)
    (hs : ∀ x, foldedSetIterable e1 env x = pure x) (hl : (apos.endLine == pos.line) = true)
    (h1 : attributeBase (.Constant (.str (Str.ofString "")) k p) "join" env (eval (.Constant (.str (Str.ofString "")) k p) env) = eval (.Constant (.str (Str.ofString "")) k p) env)
    (h2 : ((((backTo pos (starEach [.ListComp elt [⟨.Name "sign" q1, e1, [], 0⟩] sc q2] env)).all fun x => !x.fst) && (backToKw pos (keywordEach [] env)).all fun x => x.fst.isSome) && decide (([PySem.Expr.ListComp elt [⟨.Name "sign" q1, e1, [], 0⟩] sc q2].length + ([] : List PySem.Keyword).length + if ([] : List PySem.Keyword).isEmpty = true then 0 else 1) < 30)) = true)
    (h3 : starEach [.ListComp elt [⟨.Name "sign" q1, e1, [], 0⟩] sc q2] env = (false, eval (.ListComp elt [⟨.Name "sign" q1, e1, [], 0⟩] sc q2) env) :: starEach [] env) (h4 : (backTo pos (starEach [] env)).any (·.1) = false) :
    Ev ν prog w A Mut s (eval (.Call (.Attribute (.Constant (.str (Str.ofString "")) k p) "join" apos) [.ListComp elt [⟨.Name "sign" q1, e1, [], 0⟩] sc q2] [] pos) env) (vS (T (n.map g).flatten)) := by
  refine Ev.join0 (ls := n.map g) ?_ (fits_small (Nat.le_trans (flat_len g hg n) (by have := hok.1; lia))) h1 h2 hl h3 h4
  rw [List.map_map]
  refine Ev.compM (Psrc := vS (T n)) n (fun c => vS ⟨#[c]⟩) (fun c => vS (T (g c))) C he (fun v s' k c q => ?_) body (by exact fits_small (by have := hok.1; lia)) hclos hx hcell hnames hkind hs
  obtain ⟨t, rfl⟩ := q
  have := Iter.str (prog := prog) (w := w) (x := T n) (t := t) c.hh c.tab c.old
  exact this
end
end Mine
set_option maxRecDepth 10000
namespace Mine
open PySem PySem.W PyProof.Rows PySem.Calls PySem.Spec
structure LawB (prog : Program) (w : World) (H : Heap) (mg mb : Str → Option Value) (ok : Nat → Prop) : Prop where
  b : Base H mg mb
  q : QPat H
  f : ∃ o, H.get? 116 = some o ∧ o.cls = .type "function"
  g : mg "twin_re_1_quoprimime" = some (.ref 74)
  l : LamB H mg
  s : SMap prog w H mg ok
noncomputable abbrev dNm (ns : List (List Nat)) : PyData := .list (ns.map fun n => .str (T n))
theorem strOkT {n : List Nat} (h : ∀ c ∈ n, c < 256) : PyData.strOk (T n) = true := by
  unfold PyData.strOk
  rw [Array.all_eq_true']
  intro c hc
  have := h c (by simpa using hc)
  exact decide_eq_true (by lia)
theorem datNm {ns : List (List Nat)} (h : ∀ n ∈ ns, ∀ c ∈ n, c < 256) : Dat (vNm ns) (dNm ns) :=
  Dat.l (n := 0) (by decide) (Dats.map (f := fun n => vS (T n)) (g := fun n => PyData.str (T n)) ns fun n hn => ⟨Dat.s (strOkT (h n hn)), by simp [PyData.depth]⟩)
theorem datNm0 {ns : List (List Nat)} : (dNm ns).depth ≤ 1 := by
  unfold dNm
  rw [PyData.depth]
  have : ∀ l : List (List Nat), PyData.depthAll (l.map fun n => PyData.str (T n)) ≤ 0 := by
    intro l
    induction l with
    | nil => exact Nat.le_refl _
    | cons a r ih => rw [List.map_cons, PyData.depthAll]; exact Nat.max_le.mpr ⟨by simp [PyData.depth], ih⟩
  have := this ns
  lia
noncomputable abbrev vNs (l : List (List (List Nat))) : VP := vL (l.map vNm)
noncomputable abbrev dNs (l : List (List (List Nat))) : PyData := .list (l.map dNm)
theorem datNs {l : List (List (List Nat))} (h : ∀ ns ∈ l, ∀ n ∈ ns, ∀ c ∈ n, c < 256) : Dat (vNs l) (dNs l) :=
  Dat.l (n := 1) (by decide) (Dats.map (f := vNm) (g := dNm) l fun ns hn => ⟨datNm (h ns hn), datNm0⟩)
theorem nameOk.fig {n : List Nat} (h : nameOk n) : ∀ c ∈ fig n, c < 256 := by
  intro c hc
  unfold Mine.fig at hc
  obtain ⟨l, hl, hc⟩ := List.mem_flatten.mp hc
  obtain ⟨d, hd, rfl⟩ := List.mem_map.mp hl
  have := h.2 d hd
  have b1 := hx_lt (d := d / 16) (by lia)
  have b2 := hx_lt (d := d % 16) (by lia)
  simp only [fig1, List.mem_cons, List.not_mem_nil, or_false] at hc
  lia
section
variable {ro : Nat} {prog : Program} {w : World} {A : Around} {Mut : List Addr} {s₀ s₁ s : Shared} {env : Env} {H : Heap} {mg mb : Str → Option Value} {m cm : Str → Option Value} {L : Addr} {cd : Addr × Value} {ns : List Int} {ok : Nat → Prop}
theorem s2_ok (B : LawB prog w H mg mb ok) (C : Cx ν (ro + 5) A Mut H s) {nm : List (List Nat)} (hn : Has ν Mut (eLaw L cd) s "names" (vNm nm)) (hl : nm.length < 1000) (hok : ∀ n ∈ nm, nameOk n) : Ev ν prog w A Mut s (eval (aVal (lawS 2)) (eLaw L cd)) (vNm (nm.map fig)) := by
  unfold vNm
  rw [List.map_map]
  refine Ev.compM (Psrc := vNm nm) nm (fun n => vS (T n)) (fun n => vS (T (fig n))) C hn.ev (fun v s k c q => Iter.lst c q) (fun t ht C' N s₃ v k₃ C₃ f₃ X₃ p₃ => ?_) (fits_small (by lia)) rfl rfl (by decide) (by decide)
  refine figs_ev B.b C₃ (g := fig1) (hok t ht) (Ev.name X₃ p₃) (fun c hc C'' N' s₄ v k₄ C₄ f₄ X₄ p₄ => ?_) (fun _ => Nat.le_refl 3) rfl rfl (by decide) (by decide) rfl (by intro _; rfl) rfl rfl rfl rfl rfl
  refine Ev.callN (Ps := [vS ⟨#[c]⟩]) (B.b.fn C₄ 5) (B.b.kept C₄ 5) (Es.cons (Ev.name X₄ p₄) Es.nil) fun vs s₅ k₅ q => ?_
  obtain ⟨w1, _, rfl, r1, rfl⟩ := q
  exact quote_ok (ro := ro + 4) B.b (C₄.at k₅) ((hok t ht).2 c hc) r1
noncomputable def five : List Nat := [97, 42, 233, 255, 0]
theorem s3_ok (B : LawB prog w H mg mb ok) (C : Cx ν (ro + 5) A Mut H s) {nm : List (List Nat)} {whole : Sem Value} (hn : Has ν Mut (eLaw L cd) s "names" (vNm nm)) (hf : Has ν Mut (eLaw L cd) s "figures" (vNm (nm.map fig))) (hl : nm.length < 1000) (hok : ∀ n ∈ nm, nameOk n) :
    Eb ν prog w A s (isTrue (aVal (lawS 3)) (eLaw L cd) whole) false := by
  have d1 : Dat (vNm (nm.map fig)) (dNm (nm.map fig)) := datNm fun n hn' => by
    obtain ⟨n0, h0, rfl⟩ := List.mem_map.mp hn'
    exact (hok n0 h0).fig
  have d2 : Dat (vNm (five.map fun c => [c])) (dNm (five.map fun c => [c])) := datNm (by decide)
  refine Eb.eq (Eb.or2 (b := !(dNm (nm.map fig)).eqv (dNm (nm.map fig))) (c := !(dNm (five.map fun c => [c])).eqv (dNm (five.map fun c => [c]))) (Eb.neD C d1 d1 hf.ev ?_) fun _ => Eb.neD C d2 d2 ?_ ?_) (by rw [SeqAt.eqv_refl _ d1.lay, SeqAt.eqv_refl _ d2.lay]; rfl)
  · unfold vNm
    rw [List.map_map]
    refine Ev.compM (Psrc := vNm nm) nm (fun n => vS (T n)) (fun n => vS (T (fig n))) C hn.ev (fun v s k c q => Iter.lst c q) (fun t ht C' N s₃ v k₃ C₃ f₃ X₃ p₃ => ?_) (fits_small (by lia)) rfl rfl (by decide) (by decide)
    refine figs_ev B.b C₃ (g := fig1) (hok t ht) (Ev.name X₃ p₃) (fun c hc C'' N' s₄ v k₄ C₄ f₄ X₄ p₄ => ?_) (fun _ => Nat.le_refl 3) rfl rfl (by decide) (by decide) rfl (by intro _; rfl) rfl rfl rfl rfl rfl
    refine Ev.callN (Ps := [vS ⟨#[c]⟩]) (B.b.fn C₄ 11) (B.b.kept C₄ 11) (Es.cons (Ev.name X₄ p₄) Es.nil) fun vs s₅ k₅ q => ?_
    obtain ⟨w1, _, rfl, r1, rfl⟩ := q
    exact figures_ok (ro := ro + 4) B.b (C₄.at k₅) ((hok t ht).2 c hc) r1
  · unfold vNm
    rw [List.map_map]
    refine Ev.compM (Psrc := vS (T five)) five (fun c => vS ⟨#[c]⟩) (fun c => vS (T [c])) C Ev.cStr (fun v s' k c q => ?_) (fun t ht C' N s₃ v k₃ C₃ f₃ X₃ p₃ => ?_) (by decide) rfl rfl (by decide) (by decide)
    · obtain ⟨t, rfl⟩ := q
      exact Iter.str (prog := prog) (w := w) (x := T five) (t := t) c.hh c.tab c.old
    · have ht' : t < 256 := (by decide : ∀ t ∈ five, t < 256) t ht
      refine Ev.callN (Ps := [vS (hex2 t)]) (B.b.fn C₃ 4) (B.b.kept C₃ 4) (Es.cons (Ev.callN (Ps := [vS ⟨#[t]⟩]) (B.b.fn C₃ 5) (B.b.kept C₃ 5) (Es.cons (Ev.name X₃ p₃) Es.nil) fun vs s₄ k₄ q => ?_) Es.nil) fun vs s₄ k₄ q => ?_
      · obtain ⟨w1, _, rfl, r1, rfl⟩ := q
        exact quote_ok (ro := ro + 4) B.b (C₃.at k₄) ht' r1
      · obtain ⟨w1, _, rfl, r1, rfl⟩ := q
        exact unquote_ok (ro := ro + 4) B.b (C₃.at k₄) ht' r1
  · refine Ev.callN (Ps := [vS (T five)]) (B.b.bn C 6) Kept.type (Es.cons Ev.cStr Es.nil) fun vs s₄ k₄ q => ?_
    obtain ⟨w1, _, rfl, r1, rfl⟩ := q
    exact op_listS (x := T five) (C.at k₄) (by decide) r1
noncomputable def chs (n : List Nat) : List Ch := n.map fun c => if c = 32 then none else some c
theorem hx_ne95 {d : Nat} (h : d < 16) : hx d ≠ 95 := by unfold hx; split <;> lia
theorem hdr_encs {n : List Nat} (h : ∀ c ∈ n, c < 256) : (hdr n).map under = encs (chs n) := by
  unfold hdr encs chs
  induction n with
  | nil => rfl
  | cons a r ih =>
    rw [List.map_cons, List.flatten_cons, List.map_append, ih fun c hc => h c (.tail _ hc), List.map_cons, List.map_cons, List.flatten_cons]
    congr 1
    have ha := h a (.head _)
    unfold hd1
    by_cases e : a = 32
    · rw [if_pos e, if_pos e]; rfl
    · rw [if_neg e, if_neg e]
      show [under 61, under (hx (a / 16)), under (hx (a % 16))] = [61, hx (a / 16), hx (a % 16)]
      unfold under
      rw [if_neg (by decide), if_neg (hx_ne95 (by lia)), if_neg (hx_ne95 (by lia))]
theorem fig_encs {n : List Nat} (h : ∀ c ∈ n, c < 256) : (fig n).map under = encs (n.map some) := by
  unfold fig encs
  induction n with
  | nil => rfl
  | cons a r ih =>
    rw [List.map_cons, List.flatten_cons, List.map_append, ih fun c hc => h c (.tail _ hc), List.map_cons, List.map_cons, List.flatten_cons]
    congr 1
    have ha := h a (.head _)
    show [under 61, under (hx (a / 16)), under (hx (a % 16))] = [61, hx (a / 16), hx (a % 16)]
    unfold under
    rw [if_neg (by decide), if_neg (hx_ne95 (by lia)), if_neg (hx_ne95 (by lia))]
theorem chs_dec (n : List Nat) : (chs n).map dec1 = n := by
  unfold chs
  rw [List.map_map]
  conv => rhs; rw [← List.map_id n]
  apply List.map_congr_left
  intro c hc
  simp only [Function.comp, id]
  split
  · rename_i e; rw [e]; rfl
  · rfl
theorem some_dec (n : List Nat) : (n.map some).map dec1 = n := by
  rw [List.map_map]
  conv => rhs; rw [← List.map_id n]
  rfl
theorem chs_lt {n : List Nat} (h : ∀ c ∈ n, c < 256) : ∀ c, some c ∈ chs n → c < 256 := fun c hc => by
  obtain ⟨d, hd, e⟩ := List.mem_map.mp hc
  split at e
  · cases e
  · cases e; exact h c hd
theorem decode_fig (B : LawB prog w H mg mb ok) (C : Cx ν (ro + 4) A Mut H s) {n : List Nat} (hok : nameOk n) {v : Value} (p : (vS (T (fig n))).on (vis ν Mut s.heap) v) : Op ν prog w A Mut s (call (.ref 123) [v]) (vS (T n)) := by
  have := header_ok (prog := prog) (w := w) (ro := ro) B.b B.q B.f B.g B.s.t C (l := fig n) (rest := n.map some) (fun c hc => by
    obtain ⟨d, hd, e⟩ := List.mem_map.mp hc
    cases e; exact hok.2 c hd) (by rw [List.length_map]; have := hok.1; lia) (fig_encs hok.2) p
  rw [some_dec] at this
  exact this
theorem s4_ok (B : LawB prog w H mg mb ok) (C : Cx ν (ro + 5) A Mut H s) {nm : List (List Nat)} {whole : Sem Value} (hn : Has ν Mut (eLaw L cd) s "names" (vNm nm)) (hl : nm.length < 1000) (hok : ∀ n ∈ nm, nameOk n) :
    Eb ν prog w A s (isTrue (aVal (lawS 4)) (eLaw L cd) whole) false := by
  have d1 : Dat (vNm nm) (dNm nm) := datNm fun n hn' => (hok n hn').2
  refine Eb.eq (Eb.neD C d1 d1 ?_ hn.ev) (by rw [SeqAt.eqv_refl _ d1.lay]; rfl)
  refine Ev.compM (Psrc := vNm nm) nm (fun n => vS (T n)) (fun n => vS (T n)) C hn.ev (fun v s k c q => Iter.lst c q) (fun t ht C' N s₃ v k₃ C₃ f₃ X₃ p₃ => ?_) (fits_small (by lia)) rfl rfl (by decide) (by decide)
  refine Ev.callN (Ps := [vS (T (hdr t))]) (B.b.fn C₃ 7) (B.b.kept C₃ 7) (Es.cons (figs_ev B.b C₃ (g := hd1) (hok t ht) (Ev.name X₃ p₃) (fun c hc C'' N' s₄ v k₄ C₄ f₄ X₄ p₄ => ?_) (fun c => ?_) rfl rfl (by decide) (by decide) rfl (by intro _; rfl) rfl rfl rfl rfl rfl) Es.nil) fun vs s₄ k₄ q => ?_
  · refine Ev.ifExp (b := T [c] == T [32]) (Eb.eqS (Ev.name X₄ p₄) Ev.cStr) (fun hb => ?_) (fun hb => ?_)
    · rw [beqT, beq_iff_eq] at hb
      injection hb with hb _
      subst hb
      exact Ev.cStr
    · rw [beqT, beq_eq_false_iff_ne] at hb
      have hne : c ≠ 32 := fun e => hb (by rw [e])
      have : hd1 c = fig1 c := if_neg hne
      rw [this]
      refine Ev.callN (Ps := [vS ⟨#[c]⟩]) (B.b.fn C₄ 11) (B.b.kept C₄ 11) (Es.cons (Ev.name X₄ p₄) Es.nil) fun vs s₅ k₅ q => ?_
      obtain ⟨w1, _, rfl, r1, rfl⟩ := q
      exact figures_ok (ro := ro + 4) B.b (C₄.at k₅) ((hok t ht).2 c hc) r1
  · unfold hd1; split <;> simp [fig1]
  · obtain ⟨w1, _, rfl, r1, rfl⟩ := q
    have := header_ok (prog := prog) (w := w) (ro := ro + 1) B.b B.q B.f B.g B.s.t (C₃.at k₄) (l := hdr t) (rest := chs t) (chs_lt (hok t ht).2) (by unfold chs; rw [List.length_map]; have := (hok t ht).1; lia) (hdr_encs (hok t ht).2) r1
    rw [chs_dec] at this
    exact this
end
end Mine
set_option maxRecDepth 10000
namespace Mine
open PySem PySem.W PyProof.Rows PySem.Calls PySem.Spec
noncomputable def sl (l : List (List Nat)) : List (List Nat) := (srt (l.map T)).map fun x => x.cps.toList
theorem sl_T (l : List (List Nat)) : (sl l).map T = srt (l.map T) := by
  unfold sl
  rw [List.map_map]
  conv => rhs; rw [← List.map_id (srt (l.map T))]
  apply List.map_congr_left
  intro x _
  obtain ⟨⟨x⟩⟩ := x
  rfl
noncomputable abbrev vIt (it : List Item) : VP := vL (it.map vItem)
noncomputable abbrev vPs (ps : List PartR) : VP := vL (ps.map vPart)
noncomputable def wsum (ns : List Int) : Int := ((List.range ns.length).map fun (k : Nat) => ((k : Int) + 1) * ns.getD k 0).sum
noncomputable def rowsOf (ns : List Int) : List (List Item) := [itemsOf (12368 + ns.sum), itemsOf (129 + wsum ns)]
noncomputable def toksOf1 (wr : Bool) : Item → List PT
  | none => [.star]
  | some [] => if wr then [.pl 61, .quest, .quest] else [.quest]
  | some (c :: _) => if wr then [.pl 61, .pl (hx (c / 16)), .pl (hx (c % 16))] else if c = 42 then [.set] else [.pl c]
noncomputable def toksOf (wr : Bool) (it : List Item) : List PT := (it.map (toksOf1 wr)).flatten
noncomputable def elRT : List Nat → RT
  | [46] => .dot
  | [91, 42, 93] => .set
  | c :: _ => .pl c
  | [] => .dot
noncomputable abbrev elRTs (l : List El) : List RT := l.map fun e => elRT (txt e)
noncomputable def segRT : Nat → List El → List RT
  | 0, _ => []
  | _ + 1, [] => []
  | f + 1, _ :: r => if r = [] then [.gB] else if r.dropWhile (·.isSome) = [] then .gB :: elRTs (r.takeWhile (·.isSome))
    else (.gA :: elRTs (r.takeWhile (·.isSome)) ++ [.close]) ++ segRT f (r.dropWhile (·.isSome))
noncomputable def rtsOf (els : List El) : List RT := elRTs (els.takeWhile (·.isSome)) ++ segRT els.length (els.dropWhile (·.isSome))
noncomputable def rts (wr : Bool) (it : List Item) : List RT := rtsOf (elsOf (toksOf wr it))
noncomputable def prt (wr : Bool) (it : List Item) : List PartR := rdOf (rts wr it)
structure PatOk (ok : Nat → Prop) (wr : Bool) (it : List Item) : Prop where
  p1 : patTxt wr it = ptTxt (toksOf wr it)
  p2 : (toksOf wr it).length < 290
  p3 : ∀ t ∈ toksOf wr it, ptOk ok t
  p4 : joinF (elsOf (toksOf wr it)) = madeTxt (rts wr it)
  p5 : (rts wr it).length < 900
  p6 : ∀ t ∈ rts wr it, rtOk t
  p7 : it.length < 1000 ∧ ∀ i ∈ it, itemOk i
  p8 : ∀ p ∈ prt wr it, p.2.length < 1000
section
variable {ro : Nat} {prog : Program} {w : World} {A : Around} {Mut : List Addr} {s₀ s₁ s : Shared} {env : Env} {H : Heap} {mg mb : Str → Option Value} {m cm : Str → Option Value} {L : Addr} {cd : Addr × Value} {ns : List Int} {ok : Nat → Prop}
theorem filter_all {α : Type} (l : List α) : l.filter (fun _ => true) = l := List.filter_eq_self.mpr fun _ _ => rfl
theorem s5_ok (B : LawB prog w H mg mb ok) (C : Cx ν (ro + 5) A Mut H s) (hs : Has ν Mut (eLaw L cd) s "script" (vL (ns.map vI))) (hn : ns.length < 1000) : Ev ν prog w A Mut s (eval (aVal (lawS 5)) (eLaw L cd)) (vL ((rowsOf ns).map vIt)) := by
  have li : (ns.map vI).length < 2 ^ 63 := by rw [List.length_map]; lia
  refine Ev.list C (Es.cons ?_ (Es.cons ?_ Es.nil)) (by show 2 ≤ sizeLine; decide)
  · refine Ev.callN (Ps := [vI (12368 + ns.sum)]) (B.b.fn C 10) (B.b.kept C 10) (Es.cons (Ev.addI Ev.cInt (Ev.callN (Ps := [vL (ns.map vI)]) (B.b.bn C 4) Kept.builtin (Es.cons hs.ev Es.nil) fun vs s₄ k₄ q => ?_)) Es.nil) fun vs s₄ k₄ q => ?_
    · obtain ⟨w1, _, rfl, r1, rfl⟩ := q
      exact op_sum C.hh r1
    · obtain ⟨w1, _, rfl, r1, rfl⟩ := q
      exact items_ok (ro := ro + 4) B.b (C.at k₄) r1
  · refine Ev.callN (Ps := [vI (129 + wsum ns)]) (B.b.fn C 10) (B.b.kept C 10) (Es.cons (Ev.addI Ev.cInt (Ev.callN (Ps := [vL (((List.range ns.length).map fun (k : Nat) => ((k : Int) + 1) * ns.getD k 0).map vI)]) (B.b.bn C 4) Kept.builtin (Es.cons ?_ Es.nil) fun vs s₄ k₄ q => ?_)) Es.nil) fun vs s₄ k₄ q => ?_
    · rw [List.map_map]
      refine Ev.compM (Psrc := vR 0 ns.length) (List.range ns.length) (fun (k : Nat) => vI (k : Int)) _ C (Ev.range1 B.b C ((Ev.lenL B.b C hs.ev li).imp fun h v q => by simpa using q) (by lia)) (fun v s k c q => Iter.ran c q) (fun t ht C' N s₃ v k₃ C₃ f₃ X₃ p₃ => ?_) (by rw [List.length_range]; exact fits_small (by lia)) rfl rfl (by decide) (by decide)
      have ht' := List.mem_range.mp ht
      refine Ev.mulI (a := (t : Int) + 1) (b := ns.getD t 0) (IntMulOk.of_left ?_) (Ev.addI (Ev.name X₃ p₃) Ev.cInt) (Ev.itemL (Ps := ns.map vI) (k := (t : Int)) (by lia) (by lia) ?_ (hs.cev k₃ f₃) (Ev.name X₃ p₃))
      · unfold Builtin.Int.intBits
        have h1 : ((t : Int) + 1).natAbs < 2 ^ 60 := by lia
        split
        · lia
        · rename_i hne
          have hb : ((t : Int) + 1).natAbs ≠ 0 := by lia
          have := (Nat.log2_lt hb).mpr h1
          lia
      · rw [Int.toNat_natCast, List.getElem?_map, List.getD_eq_getElem?_getD, List.getElem?_eq_getElem ht']; rfl
    · obtain ⟨w1, _, rfl, r1, rfl⟩ := q
      exact op_sum C.hh r1
    · obtain ⟨w1, _, rfl, r1, rfl⟩ := q
      exact items_ok (ro := ro + 4) B.b (C.at k₄) r1
theorem sorted_ev (B : LawB prog w H mg mb ok) (C : Cx ν ro A Mut H s) {e : PySem.Expr} {l : List (List Nat)} {np pos : Pos} (he : Ev ν prog w A Mut s (eval e env) (vNm l)) (hl : l.length < 64)
    (hk : env.scope.kind = .function := by rfl) (hg : env.globals = mainGlobals := by rfl) (hb : env.builtins = builtinsNs := by rfl) (hx : env.kindOf "sorted" = some .globalImplicit := by rfl)
    (hst : starEach [e] env = (false, eval e env) :: starEach [] env := by rfl) : Ev ν prog w A Mut s (eval (.Call (.Name "sorted" np) [e] [] pos) env) (vNm (sl l)) :=
  Ev.callN (Ps := [vNm l]) (B.b.bn C 7 rfl hk hg hb hx) Kept.builtin (Es.cons he Es.nil hst) (fun vs s₄ k₄ q => by
    obtain ⟨w1, _, rfl, r1, rfl⟩ := q
    have e1 : vNm l = vL ((l.map T).map vS) := by unfold vNm; rw [List.map_map]; rfl
    rw [e1] at r1
    have := op_sorted (prog := prog) (w := w) (C.at k₄) (by rw [List.length_map]; exact hl) r1
    rw [← sl_T, List.map_map] at this
    exact this) hst (by cases pos; rfl)
theorem Ev.compMC {α : Type} {elt iter : PySem.Expr} {x : Str} {px pos : Pos} {scope : Scope} {cl : List (Str × Addr)} {Psrc : VP} (xs : List α) (f : α → VP) (g : α → VP) (C : Cx ν ro A Mut H s)
    (hsrc : Ev ν prog w A Mut s (eval iter env) Psrc)
    (hit : ∀ v s', Kp ν s s' → Cx ν ro A Mut H s' → Psrc.on (vis ν Mut s'.heap) v → Iter ν prog w A Mut s' v (xs.map f))
    (body : ∀ t ∈ xs, ∀ C' a N s₃ v, Kp ν s s₃ → Cx ν ro A (N ++ Mut) H s₃ → Fl (vis ν Mut s.heap) (vis ν (N ++ Mut) s₃.heap) → Var (compEnvC scope ((x, a) :: cl) C' env) s₃.heap x v → (f t).on (vis ν (N ++ Mut) s₃.heap) v →
      Ev ν prog w A (N ++ Mut) s₃ (eval elt (compEnvC scope ((x, a) :: cl) C' env)) (g t))
    (hsz : xs.length ≤ sizeLine)
    (hclos : closureFor scope env = pure cl) (hcells : ∀ n, cellsFrom n scope.names cl = (x, n) :: cl) (hpush : ∀ h, pushCells h scope.names = h.push { cls := .type "cell", data := .cell none })
    (hx : ∀ C cl', (compEnvC scope cl' C env).kindOf x = some .cell) (hnames : ∀ y ∈ scope.names, y.2 = .local → scope.names.lookup y.1 = some .local) (hkind : scope.kind = .function := by rfl)
    (hs : ∀ x, foldedSetIterable iter env x = pure x := by intro _; rfl) :
    Ev ν prog w A Mut s (eval (.ListComp elt [⟨.Name x px, iter, [], 0⟩] scope pos) env) (vL (xs.map g)) := by
  have := Ev.compFC (elt := elt) (px := px) (pos := pos) (ifs := []) xs f (fun _ => true) g C hsrc hit (fun t ht C' a N s₃ v k₃ c₃ f₃ X₃ p₃ => Turn.none (body t ht C' a N s₃ v k₃ c₃ f₃ X₃ p₃)) hsz hclos hcells hpush hx hnames hkind hs
  rw [filter_all] at this
  exact this
theorem s6_ok (B : LawB prog w H mg mb ok) (C : Cx ν (ro + 5) A Mut H s) {nm : List (List Nat)} {rows : List (List Item)} (hn : Has ν Mut (eLaw L cd) s "names" (vNm nm)) (hr : Has ν Mut (eLaw L cd) s "rows" (vL (rows.map vIt))) (hl : nm.length < 64) (hok : ∀ n ∈ nm, nameOk n) (lr : rows.length < 1000) :
    Ev ν prog w A Mut s (eval (aVal (lawS 6)) (eLaw L cd)) (vNs (rows.map fun it => sl (nm.filter (triedF it)))) := by
  unfold vNs
  rw [List.map_map]
  refine Ev.compMC (Psrc := vL (rows.map vIt)) rows vIt (fun it => vNm (sl (nm.filter (triedF it)))) C hr.ev (fun v s k c q => Iter.lst c q) (fun it hit C' a N s₃ v k₃ C₃ f₃ X₃ p₃ => ?_) (fits_small (by lia)) rfl (by intro n; rfl) (by intro h; rfl) (by intro C cl; rfl) (by decide)
  refine (sorted_ev B C₃ ?_ (Nat.lt_of_le_of_lt (List.length_filter_le _ _) hl))
  refine Ev.compF (Psrc := vNm nm) nm (fun n => vS (T n)) (triedF it) (fun n => vS (T n)) C₃ (hn.cev k₃ f₃) (fun v s k c q => Iter.lst c q) (fun n hnm C'' N' s₄ v' k₄ C₄ f₄ X₄ p₄ => ?_) (fits_small (by lia)) rfl rfl (by decide) (by decide)
  have hit : Has ν (N ++ Mut) _ s₃ "items" (vIt it) := ⟨v, X₃, p₃⟩
  refine Turn.one (Eb.bool (Mut := N' ++ (N ++ Mut)) (Ev.callN (Ps := [vIt it, vS (T n)]) (B.b.fn C₄ 13) (B.b.kept C₄ 13) (Es.cons (hit.cev k₄ f₄) (Es.cons (Ev.name X₄ p₄) Es.nil)) fun vs s₅ k₅ q => ?_)) fun _ => Ev.name X₄ p₄
  obtain ⟨w1, _, rfl, r1, w2, _, rfl, r2, rfl⟩ := q
  exact tried_ok (ro := ro + 4) B.b (C₄.at k₅) r1 r2 (by have := (hok n hnm).1; lia)
end
end Mine
set_option maxRecDepth 10000
namespace Mine
open PySem PySem.W PyProof.Rows PySem.Calls PySem.Spec
section
variable {ro : Nat} {prog : Program} {w : World} {A : Around} {Mut : List Addr} {s₀ s₁ s : Shared} {env : Env} {H : Heap} {mg mb : Str → Option Value} {m cm : Str → Option Value} {L : Addr} {cd : Addr × Value} {ns : List Int} {ok : Nat → Prop}
theorem op_mul2 (C : Cx ν ro A Mut H s) {Ps : List VP} {v u : Value} (hn : Ps.length < 1000) (p : (vL Ps).on (vis ν Mut s.heap) v) (q : (vI 2).on (vis ν Mut s.heap) u) : Op ν prog w A Mut s (binaryOp .Mult v u) (vL (Ps ++ Ps)) := .mk fun E => by
  obtain ⟨a, vs, rfl, l, ql⟩ := p
  obtain ⟨t, rfl⟩ := q
  obtain ⟨n, e⟩ := plist_le l vis_le
  have hl := ql.length
  have sz : vs.toArray.size * (2 : Int).toNat ≤ 2000 := by rw [List.size_toArray, hl]; show _ * 2 ≤ _; lia
  have hd := e
  refine wpAny_binaryOp_repeat_ref (T := "list") (U := "int") (by decide) ⟨_, e, rfl⟩ (fun s' => typeIs_int s' 2 t) noFill_list_mul F.fills_int_mul F.slot_int_rmul repeat_list F.slot_int_index.lookup
    (call_meets F.slot_int_rmul (typeIs_int s 2 t) F.entry_int_rmul (F.args_int_rmul_2 _ _) (int___rmul___int_list 2 t a vs.toArray n)
      ⟨hd, rfl, ⟨_, e, rfl⟩, call_meets F.slot_list_mul ⟨_, e, rfl⟩ F.entry_list_mul (F.args_list_mul_2 _ _)
        (AutoListH.list___mul___list_int_3 a vs.toArray n 2 t (by decide) (by lia) (by unfold Builtin.List.listTooLong; rw [decide_eq_true_eq]; have : 2000 ≤ sizeLine := (by decide); lia))
        ⟨hd, Kp.heap (fl_push _ _).le, _, vs ++ vs, rfl, ⟨0, ?_⟩, (ql.append ql).mono (vis_mono (fl_push _ _).le)⟩⟩)
  have ee : (List.foldl (fun x1 x2 => x1 ++ x2) #[] (List.replicate (if vs.toArray.isEmpty = true then 0 else (2 : Int).toNat) vs.toArray)) = (vs ++ vs).toArray := by
    cases vs with
    | nil => rfl
    | cons x r => simp [List.replicate, List.isEmpty]
  rw [ee]
  exact vis_push C.old C.tab rfl
theorem made_ev (wr : Bool) (B : LawB prog w H mg mb ok) (C : Cx ν (ro + 5) A Mut H s) {e1 e2 : PySem.Expr} {it : List Item} {p1 p2 p3 p4 p5 p6 : Pos} (P : PatOk ok wr it) (h1 : Ev ν prog w A Mut s (eval e1 env) (vIt it)) (h2 : Ev ν prog w A Mut s (eval e2 env) (vB wr))
    (hk : env.scope.kind = .function := by rfl) (hg : env.globals = mainGlobals := by rfl) (x1 : env.kindOf "_law_read" = some .globalImplicit := by rfl) (x2 : env.kindOf "translate" = some .globalImplicit := by rfl) (x3 : env.kindOf "_law_pattern" = some .globalImplicit := by rfl)
    (s1 : starEach [.Call (.Name "translate" p1) [.Call (.Name "_law_pattern" p2) [e1, e2] [] p3] [] p4] env = (false, eval (.Call (.Name "translate" p1) [.Call (.Name "_law_pattern" p2) [e1, e2] [] p3] [] p4) env) :: starEach [] env := by rfl)
    (s2 : starEach [.Call (.Name "_law_pattern" p2) [e1, e2] [] p3] env = (false, eval (.Call (.Name "_law_pattern" p2) [e1, e2] [] p3) env) :: starEach [] env := by rfl)
    (s3 : starEach [e1, e2] env = (false, eval e1 env) :: starEach [e2] env := by rfl) (s4 : starEach [e2] env = (false, eval e2 env) :: starEach [] env := by rfl)
    (t3 : (backTo p3 (starEach [e2] env)).any (·.1) = false := by rfl) :
    Ev ν prog w A Mut s (eval (.Call (.Name "_law_read" p5) [.Call (.Name "translate" p1) [.Call (.Name "_law_pattern" p2) [e1, e2] [] p3] [] p4] [] p6) env) (vPs (prt wr it)) := by
  refine Ev.callN (Ps := [vS (T (madeTxt (rts wr it)))]) (B.b.fn C 14 rfl hk hg x1) (B.b.kept C 14) (Es.cons ?_ Es.nil s1) (fun vs s₄ k₄ q => ?_) s1 (by cases p6; rfl)
  · refine Ev.callN (Ps := [vS (T (ptTxt (toksOf wr it)))]) (B.b.fn C 0 rfl hk hg x2) (B.b.kept C 0) (Es.cons ?_ Es.nil s2) (fun vs s₄ k₄ q => ?_) s2 (by cases p4; rfl)
    · refine Ev.callN (Ps := [vIt it, vB wr]) (B.b.fn C 12 rfl hk hg x3) (B.b.kept C 12) (Es.cons h1 (Es.cons h2 Es.nil s4) s3) (fun vs s₄ k₄ q => ?_) s3 t3
      obtain ⟨w1, _, rfl, r1, w2, _, rfl, r2, rfl⟩ := q
      rw [← P.p1]
      exact pattern_ok (ro := ro + 3) B.b (C.at k₄) r1 r2 P.p7.1 P.p7.2
    · obtain ⟨w1, _, rfl, r1, rfl⟩ := q
      rw [← P.p4]
      exact translate_ok (ro := ro) B.b B.l B.s (C.at k₄) r1 P.p2 P.p3
  · obtain ⟨w1, _, rfl, r1, rfl⟩ := q
    exact read_ok (ro := ro + 4) B.b (C.at k₄) r1 P.p5 P.p6
theorem fits_turn (B : LawB prog w H mg mb ok) (C : Cx ν (ro + 5) A Mut H s) {e1 : PySem.Expr} {x : Str} {nm : List (List Nat)} {ps : List PartR} {sc : Scope} {cl : List (Str × Addr)} {q1 q2 q3 q4 q5 q6 q7 q8 q9 : Pos} (he : Ev ν prog w A Mut s (eval e1 env) (vNm nm)) (hp : Has ν Mut env s "parts" (vPs ps)) (hl : nm.length < 64) (hok : ∀ n ∈ nm, n.length < 900) (lp : ∀ p ∈ ps, p.2.length < 1000)
    (hclos : closureFor sc env = pure cl) (hx : sc.names.lookup x = some .local) (hcell : ∀ y ∈ sc.names, y.2 ≠ .cell) (hnames : ∀ y ∈ sc.names, y.2 = .local → sc.names.lookup y.1 = some .local) (hkind : sc.kind = .function) (hs : ∀ v, foldedSetIterable e1 env v = pure v)
    (hk : env.scope.kind = .function) (hg : env.globals = mainGlobals) (hb : env.builtins = builtinsNs) (x1 : env.kindOf "sorted" = some .globalImplicit)
    (g1 : ∀ C, (compEnvC sc cl C env).scope.kind = .function) (g2 : ∀ C, (compEnvC sc cl C env).globals = mainGlobals) (g3 : ∀ C, (compEnvC sc cl C env).kindOf "_law_fits" = some .globalImplicit) (g4 : env.kindOf "parts" = some .cell) (g5 : ∀ C, (compEnvC sc cl C env).kindOf "parts" = some .cell) (g6 : ∀ c, env.cells.lookup (Str.ofString "parts") = some c → cl.lookup (Str.ofString "parts") = some c) (g7 : (x == ("__debug__" : Str)) = false)
    (s1 : starEach [.ListComp (.Name x q1) [⟨.Name x q2, e1, [.Call (.Name "_law_fits" q3) [.Name "parts" q4, .Name x q5] [] q6], 0⟩] sc q7] env = (false, eval (.ListComp (.Name x q1) [⟨.Name x q2, e1, [.Call (.Name "_law_fits" q3) [.Name "parts" q4, .Name x q5] [] q6], 0⟩] sc q7) env) :: starEach [] env) :
    Ev ν prog w A Mut s (eval (.Call (.Name "sorted" q8) [.ListComp (.Name x q1) [⟨.Name x q2, e1, [.Call (.Name "_law_fits" q3) [.Name "parts" q4, .Name x q5] [] q6], 0⟩] sc q7] [] q9) env) (vNm (sl (nm.filter (fitsF ps)))) := by
  refine sorted_ev B C ?_ (Nat.lt_of_le_of_lt (List.length_filter_le _ _) hl) hk hg hb x1 s1
  refine Ev.compF (Psrc := vNm nm) nm (fun n => vS (T n)) (fitsF ps) (fun n => vS (T n)) C he (fun v s k c q => Iter.lst c q) (fun n hnm C'' N' s₄ v' k₄ C₄ f₄ X₄ p₄ => ?_) (fits_small (by lia)) hclos hx hcell hnames hkind hs
  have en : ∀ {pos : Pos}, Ev ν prog w A (N' ++ Mut) s₄ (eval (.Name x pos) (compEnvC sc cl C'' env)) (vS (T n)) := fun {pos} => Ev.name X₄ p₄ (g1 C'') g7
  refine Turn.one (Eb.bool (Mut := N' ++ Mut) (Ev.callN (Ps := [vPs ps, vS (T n)]) (B.b.fn C₄ 16 rfl (g1 C'') (g2 C'') (g3 C'')) (B.b.kept C₄ 16) (Es.cons (hp.cev k₄ f₄ g4 (g5 C'') g6 (g1 C'')) (Es.cons en Es.nil)) (fun vs s₅ k₅ q => ?_) rfl rfl)) fun _ => en
  obtain ⟨w1, _, rfl, r1, w2, _, rfl, r2, rfl⟩ := q
  exact fits_ok (ro := ro + 3) B.b (C₄.at k₅) r1 r2 (by have := hok n hnm; lia) lp
end
end Mine
set_option maxRecDepth 10000
namespace Mine
open PySem PySem.W PyProof.Rows PySem.Calls PySem.Spec
noncomputable abbrev nmOf (ns : List Int) : List (List Nat) := namesOf (drawnOf ns)
noncomputable abbrev row0 (ns : List Int) : List Item := itemsOf (12368 + ns.sum)
noncomputable abbrev row1 (ns : List Int) : List Item := itemsOf (129 + wsum ns)
noncomputable def dueOf (nm : List (List Nat)) (it : List Item) : List (List Nat) := sl (nm.filter (triedF it))
noncomputable def only (a b : List (List Nat)) : List (List Nat) := a.filter (ninB b)
structure Facts (ok : Nat → Prop) (nm : List (List Nat)) (r0 r1 : List Item) : Prop where
  nl : nm.length < 31
  nok : ∀ n ∈ nm, nameOk n
  pat : ∀ it ∈ [r0, r1], ∀ wr, PatOk ok wr it
  f1 : ∀ it ∈ [r0, r1], nm.filter (fitsF (prt false it)) = nm.filter (triedF it)
  f2 : ∀ it ∈ [r0, r1], sl ((nm.map fig).filter (fitsF (prt true it))) = (dueOf nm it).map fig
  f3 : sld ((dueOf nm r0).length + (dueOf nm r1).length) ((dueOf nm r0).map T) ((dueOf nm r1).map T) = ((only (dueOf nm r0) (dueOf nm r1)).map T, (only (dueOf nm r1) (dueOf nm r0)).map T)
  f4 : sld ((sl (dueOf nm r0 ++ dueOf nm r0) ++ [[255]]).length + (dueOf nm r1 ++ [[255]]).length) ((sl (dueOf nm r0 ++ dueOf nm r0) ++ [[255]]).map T) ((dueOf nm r1 ++ [[255]]).map T) = ((only (dueOf nm r0) (dueOf nm r1)).map T, (only (dueOf nm r1) (dueOf nm r0)).map T)
  f5 : sld (((dueOf nm r0).map fig).length + ((dueOf nm r1).map fig).length) (((dueOf nm r0).map fig).map T) (((dueOf nm r1).map fig).map T) = (((only (dueOf nm r0) (dueOf nm r1)).map fig).map T, ((only (dueOf nm r1) (dueOf nm r0)).map fig).map T)
theorem sl_mem {l : List (List Nat)} {x : List Nat} : x ∈ sl l ↔ x ∈ l := by
  have h : T x ∈ (sl l).map T ↔ T x ∈ l.map T := by rw [sl_T]; exact (srt_perm _).mem_iff
  have inj : ∀ {y z : List Nat}, T y = T z → y = z := fun {y z} e => (by have := congrArg (fun s : Str => s.cps.toList) e; simpa using this)
  constructor
  · intro hx
    obtain ⟨y, hy, e⟩ := List.mem_map.mp (h.mp (List.mem_map_of_mem hx))
    exact inj e ▸ hy
  · intro hx
    obtain ⟨y, hy, e⟩ := List.mem_map.mp (h.mpr (List.mem_map_of_mem hx))
    exact inj e ▸ hy
theorem sl_length (l : List (List Nat)) : (sl l).length = l.length := by
  have := (srt_perm (l.map T)).length_eq
  rw [← sl_T, List.length_map, List.length_map] at this
  exact this
theorem vNmT (l : List (List Nat)) : vNm l = vL ((l.map T).map vS) := by unfold vNm; rw [List.map_map]; rfl
theorem dueOf_ok {nm : List (List Nat)} {it : List Item} (h : ∀ n ∈ nm, nameOk n) : ∀ n ∈ dueOf nm it, nameOk n := fun n hn => h n (List.mem_filter.mp (sl_mem.mp hn)).1
theorem dueOf_len {nm : List (List Nat)} {it : List Item} : (dueOf nm it).length ≤ nm.length := by unfold dueOf; rw [sl_length]; exact List.length_filter_le _ _
theorem only_ok {a b : List (List Nat)} (h : ∀ n ∈ a, nameOk n) : ∀ n ∈ only a b, nameOk n := fun n hn => h n (List.mem_filter.mp hn).1
theorem only_len {a b : List (List Nat)} : (only a b).length ≤ a.length := List.length_filter_le _ _
section
variable {ro : Nat} {prog : Program} {w : World} {A : Around} {Mut : List Addr} {s₀ s₁ s : Shared} {env : Env} {H : Heap} {mg mb : Str → Option Value} {m cm : Str → Option Value} {L : Addr} {cd : Addr × Value} {ns : List Int} {ok : Nat → Prop} {nm : List (List Nat)} {r0 r1 : List Item}
theorem s9_ok (B : LawB prog w H mg mb ok) (Fa : Facts ok nm r0 r1) (C : Cx ν (ro + 5) A Mut H s) {whole : Sem Value} (hn : Has ν Mut (eLaw L cd) s "names" (vNm nm)) (hd : Has ν Mut (eLaw L cd) s "due" (vNs ([r0, r1].map (dueOf nm)))) (hp : Has ν Mut (eLaw L cd) s "plain" (vL ([r0, r1].map fun it => vPs (prt false it)))) :
    Eb ν prog w A s (isTrue (aVal (lawS 9)) (eLaw L cd) whole) false := by
  have d1 : Dat (vNs ([r0, r1].map (dueOf nm))) (dNs ([r0, r1].map (dueOf nm))) := datNs fun d hd n hn => by
    obtain ⟨it, _, rfl⟩ := List.mem_map.mp hd
    exact (dueOf_ok Fa.nok n hn).2
  refine Eb.eq (Eb.neD C d1 d1 ?_ hd.ev) (by rw [SeqAt.eqv_refl _ d1.lay]; rfl)
  unfold vNs
  rw [List.map_map]
  have nl := Fa.nl
  refine Ev.compMC (Psrc := vL ([r0, r1].map fun it => vPs (prt false it))) [r0, r1] (fun it => vPs (prt false it)) _ C hp.ev (fun v s k c q => Iter.lst c q) (fun it hit C' a N s₃ v k₃ C₃ f₃ X₃ p₃ => ?_) (by show 2 ≤ sizeLine; decide) rfl (by intro n; rfl) (by intro h; rfl) (by intro C cl; rfl) (by decide)
  have e : dueOf nm it = sl (nm.filter (fitsF (prt false it))) := by rw [Fa.f1 it hit]; rfl
  show Ev _ _ _ _ _ _ _ (vNm (dueOf nm it))
  rw [e]
  exact fits_turn B C₃ (hn.cev k₃ f₃) ⟨v, X₃, p₃⟩ (by lia) (fun n hn' => by have := (Fa.nok n hn').1; lia) (Fa.pat it hit false).p8 rfl rfl (by decide) (by decide) rfl (by intro _; rfl) rfl rfl rfl rfl (fun _ => rfl) (fun _ => rfl) (fun _ => rfl) rfl (fun _ => rfl) (fun c h => h) (by decide) rfl
theorem s11_ok (B : LawB prog w H mg mb ok) (Fa : Facts ok nm r0 r1) (C : Cx ν (ro + 5) A Mut H s) {whole : Sem Value} (hd : Has ν Mut (eLaw L cd) s "due" (vNs ([r0, r1].map (dueOf nm)))) (hp : Has ν Mut (eLaw L cd) s "told" (vL ([r0, r1].map fun it => vNm ((dueOf nm it).map fig)))) :
    Eb ν prog w A s (isTrue (aVal (lawS 11)) (eLaw L cd) whole) false := by
  have d1 : Dat (vNs ([r0, r1].map (dueOf nm))) (dNs ([r0, r1].map (dueOf nm))) := datNs fun d hd n hn => by
    obtain ⟨it, _, rfl⟩ := List.mem_map.mp hd
    exact (dueOf_ok Fa.nok n hn).2
  refine Eb.eq (Eb.neD C d1 d1 ?_ hd.ev) (by rw [SeqAt.eqv_refl _ d1.lay]; rfl)
  unfold vNs
  rw [List.map_map]
  have nl := Fa.nl
  refine Ev.compM (Psrc := vL ([r0, r1].map fun it => vNm ((dueOf nm it).map fig))) [r0, r1] (fun it => vNm ((dueOf nm it).map fig)) _ C hp.ev (fun v s k c q => Iter.lst c q) (fun it hit C' N s₃ v k₃ C₃ f₃ X₃ p₃ => ?_) (by show 2 ≤ sizeLine; decide) rfl rfl (by decide) (by decide)
  show Ev _ _ _ _ _ _ _ (vNm (dueOf nm it))
  refine Ev.compM (Psrc := vNm ((dueOf nm it).map fig)) (dueOf nm it) (fun n => vS (T (fig n))) (fun n => vS (T n)) C₃ (Ev.name X₃ p₃) (fun v s k c q => ?_) (fun n hn C'' N' s₄ v' k₄ C₄ f₄ X₄ p₄ => ?_) (fits_small (by have := @dueOf_len nm it; lia)) rfl rfl (by decide) (by decide)
  · have := Iter.lst (prog := prog) (w := w) c q
    rw [List.map_map] at this
    exact this
  · refine Ev.callN (Ps := [vS (T (fig n))]) (B.b.fn C₄ 7) (B.b.kept C₄ 7) (Es.cons (Ev.name X₄ p₄) Es.nil) fun vs s₅ k₅ q => ?_
    obtain ⟨w1, _, rfl, r1, rfl⟩ := q
    exact decode_fig (ro := ro + 1) B (C₄.at k₅) (dueOf_ok Fa.nok n hn) r1
theorem two_item {P0 P1 : VP} {l r : PySem.Expr} {k : Int} {pos : Pos} (h1 : Ev ν prog w A Mut s (eval l env) (vL [P0, P1])) (h2 : Ev ν prog w A Mut s (eval r env) (vI k)) (hk : k = 0 ∨ k = 1)
    (hs : ∃ f : Value → Value → List Value, ∀ o i, subscripted r false o i = operate (f o i) (getItem o i) := by exact ⟨fun o i => [o, i], fun _ _ => rfl⟩) : Ev ν prog w A Mut s (eval (.Subscript l r pos) env) (if k = 0 then P0 else P1) := by
  rcases hk with rfl | rfl
  · exact Ev.itemL (Ps := [P0, P1]) (by decide) (by decide) rfl h1 h2 hs
  · exact Ev.itemL (Ps := [P0, P1]) (by decide) (by decide) rfl h1 h2 hs
theorem diff_ev (B : LawB prog w H mg mb ok) (C : Cx ν (ro + 1) A Mut H s) (frA : ∃ eL, A.frames = some [eL] ∧ eL.frame = some ν ∧ eL.scope.kind ≠ .module) (nu : ∃ o, s.heap.get? ν = some o ∧ ∀ vs, o.data ≠ .fields vs)
    {e1 e2 : PySem.Expr} {a b x y : List (List Nat)} {np pos : Pos} (h1 : Ev ν prog w A Mut s (eval e1 env) (vNm a)) (h2 : Ev ν prog w A Mut s (eval e2 env) (vNm b)) (la : a.length < 1000) (lb : b.length < 1000) (hR : sld (a.length + b.length) (a.map T) (b.map T) = (x.map T, y.map T))
    (hk : env.scope.kind = .function := by rfl) (hg : env.globals = mainGlobals := by rfl) (hx : env.kindOf "sorted_list_difference" = some .globalImplicit := by rfl)
    (s3 : starEach [e1, e2] env = (false, eval e1 env) :: starEach [e2] env := by rfl) (s4 : starEach [e2] env = (false, eval e2 env) :: starEach [] env := by rfl) (t3 : (backTo pos (starEach [e2] env)).any (·.1) = false := by rfl) :
    Ev ν prog w A Mut s (eval (.Call (.Name "sorted_list_difference" np) [e1, e2] [] pos) env) (vT [vNm x, vNm y]) := by
  refine Ev.callN (Ps := [vNm a, vNm b]) (B.b.fn C 8 rfl hk hg hx) (B.b.kept C 8) (Es.cons h1 (Es.cons h2 Es.nil s4) s3) (fun vs s₄ k₄ q => ?_) s3 t3
  obtain ⟨w1, _, rfl, q1, w2, _, rfl, q2, rfl⟩ := q
  rw [vNmT] at q1 q2
  have := diff_ok (prog := prog) (w := w) B.b (C.at k₄) frA (nu_kp nu C.tab k₄) q1 q2 (by rw [List.length_map]; exact la) (by rw [List.length_map]; exact lb)
  rw [List.length_map, List.length_map, hR] at this
  rw [vNmT, vNmT]
  exact this
end
end Mine
set_option maxRecDepth 10000
namespace Mine
open PySem PySem.W PyProof.Rows PySem.Calls PySem.Spec
section
variable {ro : Nat} {prog : Program} {w : World} {A : Around} {Mut : List Addr} {s₀ s₁ s : Shared} {env : Env} {H : Heap} {mg mb : Str → Option Value} {m cm : Str → Option Value} {L : Addr} {cd : Addr × Value} {ns : List Int} {ok : Nat → Prop} {nm : List (List Nat)} {r0 r1 : List Item}
theorem s13_ok (B : LawB prog w H mg mb ok) (Fa : Facts ok nm r0 r1) (C : Cx ν (ro + 5) A Mut H s) (frA : ∃ eL, A.frames = some [eL] ∧ eL.frame = some ν ∧ eL.scope.kind ≠ .module) (nu : ∃ o, s.heap.get? ν = some o ∧ ∀ vs, o.data ≠ .fields vs) {whole : Sem Value}
    (hd : Has ν Mut (eLaw L cd) s "due" (vNs ([r0, r1].map (dueOf nm)))) (hw : Has ν Mut (eLaw L cd) s "wanted" (vNs [only (dueOf nm r0) (dueOf nm r1), only (dueOf nm r1) (dueOf nm r0)])) :
    Eb ν prog w A s (isTrue (aVal (lawS 13)) (eLaw L cd) whole) false := by
  have hdu : Has ν Mut (eLaw L cd) s "due" (vL [vNm (dueOf nm r0), vNm (dueOf nm r1)]) := hd
  have nl := Fa.nl
  have l0 := @dueOf_len nm r0
  have l1 := @dueOf_len nm r1
  have d1 : Dat (vNs [only (dueOf nm r0) (dueOf nm r1), only (dueOf nm r1) (dueOf nm r0)]) (dNs [only (dueOf nm r0) (dueOf nm r1), only (dueOf nm r1) (dueOf nm r0)]) := datNs fun d hd n hn => by
    rcases List.mem_cons.mp hd with rfl | hd
    · exact (only_ok (dueOf_ok Fa.nok) n hn).2
    · rw [List.mem_singleton.mp hd] at hn; exact (only_ok (dueOf_ok Fa.nok) n hn).2
  have dd : (dNs [only (dueOf nm r0) (dueOf nm r1), only (dueOf nm r1) (dueOf nm r0)]).depth ≤ 2 := by
    unfold dNs
    simp only [List.map_cons, List.map_nil]
    rw [PyData.depth, PyData.depthAll, PyData.depthAll, PyData.depthAll]
    have h1 := @datNm0 (only (dueOf nm r0) (dueOf nm r1))
    have h2 := @datNm0 (only (dueOf nm r1) (dueOf nm r0))
    lia
  generalize hW : [only (dueOf nm r0) (dueOf nm r1), only (dueOf nm r1) (dueOf nm r0)] = W at d1 dd hw
  have d2 : Dat (vL [vNs W, vNs W]) (.list [dNs W, dNs W]) := Dat.l (n := 2) (by decide) (.cons d1 dd (.cons d1 dd .nil))
  refine Eb.eq (Eb.neD C d2 d2 (Ev.list C (Es.cons ?_ (Es.cons ?_ Es.nil)) (by show 2 ≤ sizeLine; decide)) (Ev.list C (Es.cons hw.ev (Es.cons hw.ev Es.nil)) (by show 2 ≤ sizeLine; decide))) (by rw [SeqAt.eqv_refl _ d2.lay]; rfl)
  · refine Ev.callN (Ps := [vT [vNm (only (dueOf nm r0) (dueOf nm r1)), vNm (only (dueOf nm r1) (dueOf nm r0))]]) (B.b.bn C 6) Kept.type (Es.cons (diff_ev (ro := ro + 4) B C frA nu (two_item (k := 0) hdu.ev Ev.cInt (.inl rfl)) (two_item (k := 1) hdu.ev Ev.cInt (.inr rfl)) (by lia) (by lia) Fa.f3) Es.nil) fun vs s₄ k₄ q => ?_
    obtain ⟨w1, _, rfl, q1, rfl⟩ := q
    have := op_listT (prog := prog) (w := w) (C.at k₄) (by show 2 ≤ sizeLine; decide) q1
    rw [← hW]
    exact this
  · refine Ev.callN (Ps := [vT [vNm (only (dueOf nm r0) (dueOf nm r1)), vNm (only (dueOf nm r1) (dueOf nm r0))]]) (B.b.bn C 6) Kept.type (Es.cons (diff_ev (ro := ro + 4) B C frA nu (a := sl (dueOf nm r0 ++ dueOf nm r0) ++ [[255]]) (b := dueOf nm r1 ++ [[255]]) ?_ ?_ ?_ ?_ Fa.f4) Es.nil) fun vs s₄ k₄ q => ?_
    · unfold vNm
      rw [List.map_append]
      refine Ev.addL C ?_ (sorted_ev B C ?_ ?_) (Ev.list C (Es.cons Ev.cStr Es.nil) (by show 1 ≤ sizeLine; decide))
      · rw [List.length_map, sl_length, List.length_append]; exact fits_small (show _ + 1 ≤ _ by lia)
      · unfold vNm
        rw [List.map_append]
        refine Ev.bin (two_item (k := 0) hdu.ev Ev.cInt (.inl rfl)) (Ev.cInt (i := 2)) fun v1 v2 s₄ k₄ p1 p2 => op_mul2 (C.at k₄) (by rw [List.length_map]; lia) p1 p2
      · rw [List.length_append]; lia
    · unfold vNm
      rw [List.map_append]
      refine Ev.addL C ?_ (two_item (k := 1) hdu.ev Ev.cInt (.inr rfl)) (Ev.list C (Es.cons Ev.cStr Es.nil) (by show 1 ≤ sizeLine; decide))
      rw [List.length_map]; exact fits_small (show _ + 1 ≤ _ by lia)
    · rw [List.length_append, sl_length, List.length_append]; show _ + 1 < _; lia
    · rw [List.length_append]; show _ + 1 < _; lia
    · obtain ⟨w1, _, rfl, q1, rfl⟩ := q
      have := op_listT (prog := prog) (w := w) (C.at k₄) (by show 2 ≤ sizeLine; decide) q1
      rw [← hW]
      exact this
theorem s14_ok (B : LawB prog w H mg mb ok) (Fa : Facts ok nm r0 r1) (C : Cx ν (ro + 5) A Mut H s) (frA : ∃ eL, A.frames = some [eL] ∧ eL.frame = some ν ∧ eL.scope.kind ≠ .module) (nu : ∃ o, s.heap.get? ν = some o ∧ ∀ vs, o.data ≠ .fields vs)
    (hp : Has ν Mut (eLaw L cd) s "told" (vL ([r0, r1].map fun it => vNm ((dueOf nm it).map fig)))) (hw : Has ν Mut (eLaw L cd) s "wanted" (vNs [only (dueOf nm r0) (dueOf nm r1), only (dueOf nm r1) (dueOf nm r0)])) :
    Ev ν prog w A Mut s (eval (aVal (lawS 14)) (eLaw L cd)) (vB true) := by
  have htd : Has ν Mut (eLaw L cd) s "told" (vL [vNm ((dueOf nm r0).map fig), vNm ((dueOf nm r1).map fig)]) := hp
  have nl := Fa.nl
  have l0 := @dueOf_len nm r0
  have l1 := @dueOf_len nm r1
  have wok : ∀ d ∈ [only (dueOf nm r0) (dueOf nm r1), only (dueOf nm r1) (dueOf nm r0)], (∀ n ∈ d, nameOk n) ∧ d.length < 31 := fun d hd => by
    rcases List.mem_cons.mp hd with rfl | hd
    · exact ⟨only_ok (dueOf_ok Fa.nok), by have := @only_len (dueOf nm r0) (dueOf nm r1); lia⟩
    · rw [List.mem_singleton.mp hd]; exact ⟨only_ok (dueOf_ok Fa.nok), by have := @only_len (dueOf nm r1) (dueOf nm r0); lia⟩
  have d1 : Dat (vNs [only (dueOf nm r0) (dueOf nm r1), only (dueOf nm r1) (dueOf nm r0)]) (dNs [only (dueOf nm r0) (dueOf nm r1), only (dueOf nm r1) (dueOf nm r0)]) := datNs fun d hd n hn => ((wok d hd).1 n hn).2
  have e : (dNs [only (dueOf nm r0) (dueOf nm r1), only (dueOf nm r1) (dueOf nm r0)]).eqv (dNs [only (dueOf nm r0) (dueOf nm r1), only (dueOf nm r1) (dueOf nm r0)]) = true := SeqAt.eqv_refl _ d1.lay
  rw [← e]
  refine Ev.eqD C d1 d1 ?_ hw.ev
  refine Ev.compM (Psrc := vT [vNm ((only (dueOf nm r0) (dueOf nm r1)).map fig), vNm ((only (dueOf nm r1) (dueOf nm r0)).map fig)]) [only (dueOf nm r0) (dueOf nm r1), only (dueOf nm r1) (dueOf nm r0)] (fun d => vNm (d.map fig)) (fun d => vNm d) C ?_ (fun v s k c q => Iter.tuple c.hh c.tab c.old q) (fun d hd C' N s₃ v k₃ C₃ f₃ X₃ p₃ => ?_) (by show 2 ≤ sizeLine; decide) rfl rfl (by decide) (by decide)
  · exact diff_ev (ro := ro + 4) B C frA nu (two_item (k := 0) htd.ev Ev.cInt (.inl rfl)) (two_item (k := 1) htd.ev Ev.cInt (.inr rfl)) (by rw [List.length_map]; lia) (by rw [List.length_map]; lia) Fa.f5
  · refine Ev.compM (Psrc := vNm (d.map fig)) d (fun n => vS (T (fig n))) (fun n => vS (T n)) C₃ (Ev.name X₃ p₃) (fun v s k c q => ?_) (fun n hn C'' N' s₄ v' k₄ C₄ f₄ X₄ p₄ => ?_) (fits_small (by have := (wok d hd).2; lia)) rfl rfl (by decide) (by decide)
    · have := Iter.lst (prog := prog) (w := w) c q
      rw [List.map_map] at this
      exact this
    · refine Ev.callN (Ps := [vS (T (fig n))]) (B.b.fn C₄ 7) (B.b.kept C₄ 7) (Es.cons (Ev.name X₄ p₄) Es.nil) fun vs s₅ k₅ q => ?_
      obtain ⟨w1, _, rfl, q1, rfl⟩ := q
      exact decode_fig (ro := ro + 1) B (C₄.at k₅) ((wok d hd).1 n hn) q1
end
end Mine
set_option maxRecDepth 10000
namespace Mine
open PySem PySem.W PyProof.Rows PySem.Calls PySem.Spec
noncomputable def binL : PySem.Expr → PySem.Expr
  | .BinOp l _ _ _ => l
  | e => e
section
variable {H0 : Heap} {ro : Nat} {prog : Program} {w : World} {A : Around} {Mut : List Addr} {s₀ s₁ s : Shared} {env : Env} {H : Heap} {mg mb : Str → Option Value} {m cm : Str → Option Value} {L : Addr} {cd : Addr × Value} {ns : List Int} {ok : Nat → Prop} {nm : List (List Nat)} {r0 r1 : List Item}
theorem FmL.hasC (F : FmL env s₀ s m cm) {x : Str} {v : Value} {P : VP} (e : cm x = some v) (c : Addr) (p : P.on (vis ν Mut s.heap) v) (hl : env.cells.lookup x = some c := by rfl) (hk : env.kindOf x = some .cell := by rfl) : Has ν Mut env s x P := ⟨v, F.varC e c hl hk, p⟩
theorem FmL.has (F : FmL env s₀ s m cm) {x : Str} {v : Value} {P : VP} (e : m x = some v) (p : P.on (vis ν Mut s.heap) v) (hk : env.kindOf x = some .local := by rfl) : Has ν Mut env s x P := ⟨v, F.var e hk, p⟩
theorem FmL.nu (F : FmL (eLaw L cd) s₀ s m cm) : ∃ o, s.heap.get? L = some o ∧ ∀ vs, o.data ≠ .fields vs := by
  obtain ⟨o, es, ep, e, d, _⟩ := F.ns
  exact ⟨o, e, fun vs q => by rw [d] at q; cases q⟩
theorem XsL.assignT {l : PySem.Expr} {es : List PySem.Expr} {y : Str} {k0 : Nat} {p0 q bp : Pos} {Ps Qs : List VP} (F : FmL env s₀ s m cm) (C : Cx ν ro A Mut H s) (hM : ∀ a ∈ Env.mut env, a ∈ Mut) {x : Str} {p pos : Pos} {Q : Flow → Shared → Prop}
    (h1 : Ev ν prog w A Mut s (eval l env) (vL Ps)) (h3 : Es ν prog w A Mut s (spliced (backTo q (starEach es env))) Qs) (hf : Ps.length + (Qs.length + 1) ≤ sizeLine) (c : Addr) (hl : env.cells.lookup x = some c)
    (h : ∀ v s', FmL env s₀ s' m (upd cm x v) → Cx ν ro A Mut H s' → Fl (vis ν Mut s.heap) (vis ν Mut s'.heap) → (vL (Ps ++ (vS y :: Qs))).on (vis ν Mut s'.heap) v → 0 < s'.toks → Q .next s') (hk : env.kindOf x = some .cell := by rfl)
    (he : starEach (.Constant (.str y) k0 p0 :: es) env = (false, eval (.Constant (.str y) k0 p0) env) :: starEach es env := by rfl)
    (hs : swapsWith (.BinOp l .Add (.List (.Constant (.str y) k0 p0 :: es) q) bp) (some (.Name x p)) pos.line env = pure false := by rfl) : Xs ν prog w A (exec (.Assign [.Name x p] (.BinOp l .Add (.List (.Constant (.str y) k0 p0 :: es) q) bp) pos) env) Q s := by
  refine .mk fun E => wpAny_Assign_Name (wpAny_BinOp (h1.use (Kp.refl _) fun v1 s1 k1 p1 => List_ (spliced_more (Constant_str ?_) he))) hs
  refine wpAny_with_toks (n := 1) (Nat.le_add_left 1 s1.toks) (wpAny_mono (h3.go _ _ (k1.trans Kp.tok)) (fun vs s3 z ht => ?_) fun _ _ z => z)
  obtain ⟨k3, q3⟩ := z
  have k13 := (k1.trans Kp.tok).trans k3
  have C3 := C.at k13
  have hq : All2 (vS y :: Qs) (vis ν Mut s3.heap) (.str y s1.toks :: vs) := ⟨_, vs, rfl, ⟨_, rfl⟩, q3⟩
  refine (newList_op C3 hq (by have := q3.length; show vs.length + 1 ≤ _; lia)).use fun v2 s4 k4 p2 => ?_
  have k14 := k13.trans k4
  have kt : Kp ν s1 { s1 with toks := s1.toks + 1 } := Kp.tok
  have p1' := (vL Ps).mono (((kt.trans k3).trans k4).vis _) p1
  have C4 := C.at k14
  obtain ⟨a, us, rfl, l1, q1⟩ := p1'
  obtain ⟨b, ws, rfl, l2, q2⟩ := p2
  obtain ⟨n1, e1⟩ := plist_le l1 vis_le
  obtain ⟨n2, e2⟩ := plist_le l2 vis_le
  have e : us.toArray ++ ws.toArray = (us ++ ws).toArray := by simp
  refine concat_meets ⟨_, e1, rfl⟩ ⟨_, e2, rfl⟩ noFill_list_add seq_list_add PySem.F.slot_list_add PySem.F.entry_list_add (PySem.F.args_list_add_2 _ _) (list_addW a b us.toArray ws.toArray n1 n2 none none #[] #[] (by have := q1.length; have := q2.length; rw [List.length_cons] at this; simp; lia)) ⟨e1, e2, ?_⟩
  rw [e]
  have fl5 := fl_push s4.heap { cls := .type "list", data := .seq (us ++ ws).toArray 0 }
  have k5 := k14.trans (Kp.heap (s := s4) fl5.le)
  have pv : (vL (Ps ++ (vS y :: Qs))).on (vis ν Mut (s4.heap.push { cls := .type "list", data := .seq (us ++ ws).toArray 0 })) (.ref s4.heap.objs.size) := ⟨_, _, rfl, ⟨0, vis_push C4.old C4.tab rfl⟩, (q1.append q2).mono (vis_mono fl5.le)⟩
  have ht5 : 1 ≤ s4.toks := Nat.le_trans ht k4.tk
  refine wpAny_with_toks (n := 1) ht5 ((F.at k5).storeC (C.at k5) hM c hl (fun s'' F' C' fl ht' => h _ s'' F' C' ((k5.vis _).trans fl) ((vL _).mono fl pv) ht') hk)
theorem s0c_ok (B : Base H mg mb) (C : Cx ν (ro + 5) A Mut H s) (hs : Has ν Mut (eLaw L cd) s "script" (vL (ns.map vI))) (hn : ns.length < 1000) : Ev ν prog w A Mut s (eval (binL (aVal (lawS 0))) (eLaw L cd)) (vL ((List.range (min 3 ns.length)).map fun (k : Nat) => vS (T (nameOf ((lpick ns (some (k : Int)) none (some 3)).sum))))) := by
  have z1 : (ns.map vI).length ≤ sizeLine := by rw [List.length_map]; exact fits_small (by lia)
  have e3 : ((lpick (ns.map vI) none (some ((3 : Nat) : Int)) none).length) = min 3 ns.length := by rw [lpick_to, List.length_take, List.length_map]
  refine Ev.compM (Psrc := vR 0 (min 3 ns.length)) (List.range (min 3 ns.length)) (fun (k : Nat) => vI (k : Int)) (fun (k : Nat) => vS (T (nameOf ((lpick ns (some (k : Int)) none (some 3)).sum)))) C ?_ (fun v s k c q => Iter.ran c q) (fun t ht C' N s₃ v k₃ C₃ f₃ X₃ p₃ => ?_) (by rw [List.length_range]; exact fits_small (by lia)) rfl rfl (by decide) (by decide)
  · refine Ev.range1 B C ((Ev.lenL B C (Ev.sliceL C hs.ev .no (.is (i := ((3 : Nat) : Int)) Ev.cInt) .no (by decide) z1) (by rw [e3]; lia)).imp fun h v q => by rw [e3] at q; exact q) (by lia)
  · refine Ev.callN (Ps := [vI ((lpick ns (some (t : Int)) none (some 3)).sum)]) (B.fn C₃ 9) (B.kept C₃ 9) (Es.cons ?_ Es.nil) fun vs s₄ k₄ q => ?_
    · refine Ev.callN (Ps := [vL ((lpick ns (some (t : Int)) none (some 3)).map vI)]) (B.bn C₃ 4) Kept.builtin (Es.cons ((Ev.sliceL C₃ (hs.cev k₃ f₃) (.is (Ev.name X₃ p₃)) .no (.is Ev.cInt) (by decide) z1).imp fun h v q => by rw [lpick_map] at q; exact q) Es.nil) fun vs s₄ k₄ q => ?_
      obtain ⟨w1, _, rfl, r1, rfl⟩ := q
      exact op_sum C₃.hh r1
    · obtain ⟨w1, _, rfl, r1, rfl⟩ := q
      exact name_ok (ro := ro + 4) B (C₃.at k₄) r1
set_option maxHeartbeats 2000000 in
theorem law_ok (B : LawB prog w H mg mb ok) (B0 : Base H0 mg mb) (hH : ∀ b, H.get? b = H0.get? b) (hl1 : H.life.soft ≤ 1) (Fa : Facts ok (nmOf ns) (row0 ns) (row1 ns)) (F : FmL (eLaw L cd) s₀ s m cm) (C : Cx L (ro + 5) A Mut H0 s) (hM : ∀ a ∈ Env.mut (eLaw L cd), a ∈ Mut) (frA : A.frames = some [eLaw L cd])
    {vs : Value} (hs : cm "script" = some vs) (ps : (vL (ns.map vI)).on (vis L Mut s.heap) vs) (hn : ns.length < 100) :
    Xs L prog w A (execs (fBody (nth 40)) (eLaw L cd)) (fun f s' => f = .ret (.bool true) ∧ (∃ h tk, s' = { s₀ with heap := h, toks := tk }) ∧ Cx L (ro + 5) A Mut H s') s := by
  have nl := Fa.nl
  have nl2 : (namesOf (drawnOf ns)).length < 31 := nl
  have frA' : ∃ eL, A.frames = some [eL] ∧ eL.frame = some L ∧ eL.scope.kind ≠ .module := ⟨_, frA, rfl, show ScopeKind.function ≠ ScopeKind.module by decide⟩
  have ld : (drawnOf ns).length < 1000 := by
    unfold drawnOf
    rw [List.length_append, List.length_map, List.length_range]
    show _ + 10 < _
    lia
  refine Xs.cons (XsL.assignT F C hM (s0c_ok B0 C (F.hasC hs (L + 1) ps) (by lia)) (Es.cons Ev.cStr (Es.cons Ev.cStr (Es.cons Ev.cStr (Es.cons Ev.cStr (Es.cons Ev.cStr (Es.cons Ev.cStr (Es.cons Ev.cStr (Es.cons Ev.cStr (Es.cons Ev.cStr Es.nil))))))))) (by rw [List.length_map, List.length_range]; exact fits_small (show _ + 10 ≤ _ by lia)) (L + 2) rfl fun v0 s1 F1 C1' fl1 p0' t1 => ?_)
  have C1 : Cx L (ro + 5) A Mut H s1 := ⟨C1'.hh, C1'.dep, C1'.un, C1'.tab, C1'.old, fun b o e => C1'.base b o (by rw [← hH]; exact e), by lia⟩
  have p0 : (vNm (drawnOf ns)).on (vis L Mut s1.heap) v0 := by
    have e : vNm (drawnOf ns) = vL (((List.range (min 3 ns.length)).map fun (k : Nat) => vS (T (nameOf ((lpick ns (some (k : Int)) none (some 3)).sum)))) ++ fixed10.map fun n => vS (T n)) := by
      unfold vNm drawnOf
      rw [List.map_append, List.map_map]
      rfl
    rw [e]
    exact p0'
  refine Xs.cons (XsL.assignC F1 C1 hM (s1_ok B.b C1 (F1.hasC (x := "drawn") upd_eq (L + 2) p0) ld) (L + 3) rfl fun v1 s2 F2 C2 fl2 p1 => ?_)
  refine Xs.cons (XsL.assignC F2 C2 hM (s2_ok B C2 (F2.hasC (x := "names") upd_eq (L + 3) p1) (by lia) Fa.nok) (L + 4) rfl fun v2 s3 F3 C3 fl3 p2 => ?_)
  have p1₃ := (vNm (nmOf ns)).mono fl3 p1
  have e1 : upd (upd (upd cm "drawn" v0) "names" v1) "figures" v2 "names" = some v1 := Eq.trans upd_ne upd_eq
  have e2 : upd (upd (upd cm "drawn" v0) "names" v1) "figures" v2 "figures" = some v2 := upd_eq
  have es : upd (upd (upd cm "drawn" v0) "names" v1) "figures" v2 "script" = some vs := Eq.trans upd_ne (Eq.trans upd_ne (Eq.trans upd_ne hs))
  refine Xs.cons (Xs.if (b := false) (s3_ok B C3 (F3.hasC (x := "names") e1 (L + 3) p1₃) (F3.hasC (x := "figures") e2 (L + 4) p2) (by lia) Fa.nok) (fun h => by cases h) (fun _ s4 k4 => Xs.nil ?_))
  have F4 := F3.at k4
  have C4 := C3.at k4
  have p1₄ := (vNm (nmOf ns)).mono (k4.vis _) p1₃
  refine Xs.cons (Xs.if (b := false) (s4_ok B C4 (F4.hasC (x := "names") e1 (L + 3) p1₄) (by lia) Fa.nok) (fun h => by cases h) (fun _ s5 k5 => Xs.nil ?_))
  have F5 := F4.at k5
  have C5 := C4.at k5
  have kk := k4.trans k5
  have p1₅ := (vNm (nmOf ns)).mono (kk.vis _) p1₃
  have p2₅ := (vNm ((nmOf ns).map fig)).mono (kk.vis _) p2
  have ps₅ := (vL (ns.map vI)).mono (((fl1.trans fl2).trans fl3).trans (kk.vis _)) ps
  refine Xs.cons (XsL.assign F5 C5 (hM _ (.head _)) (s5_ok B C5 (F5.hasC (x := "script") es (L + 1) ps₅) (by lia)) fun v5 s6 F6 C6 fl6 p5 => ?_)
  have p1₆ := (vNm (nmOf ns)).mono fl6 p1₅
  have p2₆ := (vNm ((nmOf ns).map fig)).mono fl6 p2₅
  have p5₆ : (vL ([row0 ns, row1 ns].map vIt)).on (vis L Mut s6.heap) v5 := p5
  refine Xs.cons (XsL.assignC F6 C6 hM (s6_ok (rows := [row0 ns, row1 ns]) B C6 (F6.hasC (x := "names") e1 (L + 3) p1₆) (F6.has (x := "rows") upd_eq p5₆) (by lia) Fa.nok (by show 2 < 1000; decide)) (L + 5) rfl fun v6 s7 F7 C7 fl7 p6 => ?_)
  have p1₇ := (vNm (nmOf ns)).mono fl7 p1₆
  have p2₇ := (vNm ((nmOf ns).map fig)).mono fl7 p2₆
  have p5₇ := (vL ([row0 ns, row1 ns].map vIt)).mono fl7 p5₆
  have p6₇ : (vNs ([row0 ns, row1 ns].map (dueOf (nmOf ns)))).on (vis L Mut s7.heap) v6 := p6
  have e1' : upd (upd (upd (upd cm "drawn" v0) "names" v1) "figures" v2) "due" v6 "names" = some v1 := Eq.trans upd_ne e1
  have e2' : upd (upd (upd (upd cm "drawn" v0) "names" v1) "figures" v2) "due" v6 "figures" = some v2 := Eq.trans upd_ne e2
  have e6' : upd (upd (upd (upd cm "drawn" v0) "names" v1) "figures" v2) "due" v6 "due" = some v6 := upd_eq
  generalize upd (upd (upd (upd cm "drawn" v0) "names" v1) "figures" v2) "due" v6 = cm' at F7 e1' e2' e6'
  refine Xs.cons (XsL.compF (Psrc := vL ([row0 ns, row1 ns].map vIt)) [row0 ns, row1 ns] vIt (fun _ => true) (fun it => vPs (prt false it)) F7 C7 hM (F7.has (x := "rows") upd_eq p5₇).ev (fun v s k c q => Iter.lst c q) (fun it hit C' N s₃ v k₃ C₃ f₃ X₃ p₃ => Turn.none (made_ev (ro := ro) false B C₃ (Fa.pat it hit false) (Ev.name X₃ p₃) Ev.cBool)) (by show 2 ≤ sizeLine; decide) (fun v7 s8 F8 C8 fl8 p7 => ?_) rfl rfl (by decide) (by decide))
  rw [filter_all] at p7
  have p5₈ := (vL ([row0 ns, row1 ns].map vIt)).mono fl8 p5₇
  refine Xs.cons (XsL.compF (Psrc := vL ([row0 ns, row1 ns].map vIt)) [row0 ns, row1 ns] vIt (fun _ => true) (fun it => vPs (prt true it)) F8 C8 hM (F8.has (x := "rows") (Eq.trans upd_ne upd_eq) p5₈).ev (fun v s k c q => Iter.lst c q) (fun it hit C' N s₃ v k₃ C₃ f₃ X₃ p₃ => Turn.none (made_ev (ro := ro) true B C₃ (Fa.pat it hit true) (Ev.name X₃ p₃) Ev.cBool)) (by show 2 ≤ sizeLine; decide) (fun v8 s9 F9 C9 fl9 p8 => ?_) rfl rfl (by decide) (by decide))
  rw [filter_all] at p8
  have fl79 := fl8.trans fl9
  have p1₉ := (vNm (nmOf ns)).mono fl79 p1₇
  have p2₉ := (vNm ((nmOf ns).map fig)).mono fl79 p2₇
  have p6₉ := (vNs ([row0 ns, row1 ns].map (dueOf (nmOf ns)))).mono fl79 p6₇
  have p7₉ := (vL ([row0 ns, row1 ns].map fun it => vPs (prt false it))).mono fl9 p7
  refine Xs.cons (Xs.if (b := false) (s9_ok B Fa C9 (F9.hasC (x := "names") e1' (L + 3) p1₉) (F9.hasC (x := "due") e6' (L + 5) p6₉) (F9.has (x := "plain") (Eq.trans upd_ne upd_eq) p7₉)) (fun h => by cases h) (fun _ s10 k10 => Xs.nil ?_))
  have F10 := F9.at k10
  have C10 := C9.at k10
  have p2₁₀ := (vNm ((nmOf ns).map fig)).mono (k10.vis _) p2₉
  have p6₁₀ := (vNs ([row0 ns, row1 ns].map (dueOf (nmOf ns)))).mono (k10.vis _) p6₉
  have p8₁₀ := (vL ([row0 ns, row1 ns].map fun it => vPs (prt true it))).mono (k10.vis _) p8
  refine Xs.cons (XsL.compFC (Psrc := vL ([row0 ns, row1 ns].map fun it => vPs (prt true it))) [row0 ns, row1 ns] (fun it => vPs (prt true it)) (fun _ => true) (fun it => vNm ((dueOf (nmOf ns) it).map fig)) F10 C10 hM (F10.has (x := "written") upd_eq p8₁₀).ev (fun v s k c q => Iter.lst c q) (fun it hit C' a N s₃ v k₃ C₃ f₃ X₃ p₃ => Turn.none ?_) (by show 2 ≤ sizeLine; decide) (fun v10 s11 F11 C11 fl11 p10 => ?_) rfl (by intro n; rfl) (by intro h; rfl) (by intro C cl; rfl) (by decide))
  · rw [← Fa.f2 it hit]
    exact fits_turn B C₃ ((F10.hasC (x := "figures") e2' (L + 4) p2₁₀).cev k₃ f₃) ⟨v, X₃, p₃⟩ (by rw [List.length_map]; lia) (fun n hn' => by
      obtain ⟨n0, h0, rfl⟩ := List.mem_map.mp hn'
      rw [fig_len]
      have := (Fa.nok n0 h0).1
      lia) (Fa.pat it hit true).p8 rfl rfl (by decide) (by decide) rfl (by intro _; rfl) rfl rfl rfl rfl (fun _ => rfl) (fun _ => rfl) (fun _ => rfl) rfl (fun _ => rfl) (fun c h => h) (by decide) rfl
  rw [filter_all] at p10
  have p6₁₁ := (vNs ([row0 ns, row1 ns].map (dueOf (nmOf ns)))).mono fl11 p6₁₀
  refine Xs.cons (Xs.if (b := false) (s11_ok B Fa C11 (F11.hasC (x := "due") e6' (L + 5) p6₁₁) (F11.has (x := "told") upd_eq p10)) (fun h => by cases h) (fun _ s12 k12 => Xs.nil ?_))
  have F12 := F11.at k12
  have C12 := C11.at k12
  have p6₁₂ := (vNs ([row0 ns, row1 ns].map (dueOf (nmOf ns)))).mono (k12.vis _) p6₁₁
  have p10₁₂ := (vL ([row0 ns, row1 ns].map fun it => vNm ((dueOf (nmOf ns) it).map fig))).mono (k12.vis _) p10
  have hdue : Has L Mut (eLaw L cd) s12 "due" (vL [vNm (dueOf (nmOf ns) (row0 ns)), vNm (dueOf (nmOf ns) (row1 ns))]) := F12.hasC (x := "due") e6' (L + 5) p6₁₂
  refine Xs.cons (XsL.compFC (Psrc := vL [vI ((0 : Nat) : Int), vI ((1 : Nat) : Int)]) [0, 1] (fun (k : Nat) => vI (k : Int)) (fun _ => true) (fun k => if k = 0 then vNm (only (dueOf (nmOf ns) (row0 ns)) (dueOf (nmOf ns) (row1 ns))) else vNm (only (dueOf (nmOf ns) (row1 ns)) (dueOf (nmOf ns) (row0 ns)))) F12 C12 hM (Ev.list C12 (Es.cons Ev.cInt (Es.cons Ev.cInt Es.nil)) (by show 2 ≤ sizeLine; decide)) (fun v s k c q => Iter.lst c q) (fun k hk C' a N s₃ v k₃ C₃ f₃ X₃ p₃ => Turn.none ?_) (by show 2 ≤ sizeLine; decide) (fun v12 s13 F13 C13 fl13 p12 => ?_) rfl (by intro n; rfl) (by intro h; rfl) (by intro C cl; rfl) (by decide))
  · have hk' : k = 0 ∨ k = 1 := by simpa using hk
    have key : ∀ (d0 d1 : List (List Nat)), d0.length < 1000 → True := fun _ _ _ => trivial
    have lk : ∀ it, (dueOf (nmOf ns) it).length < 1000 := fun it => by have := @dueOf_len (nmOf ns) it; lia
    have e : (if k = 0 then vNm (only (dueOf (nmOf ns) (row0 ns)) (dueOf (nmOf ns) (row1 ns))) else vNm (only (dueOf (nmOf ns) (row1 ns)) (dueOf (nmOf ns) (row0 ns)))) = vNm (only (if k = 0 then dueOf (nmOf ns) (row0 ns) else dueOf (nmOf ns) (row1 ns)) (if k = 0 then dueOf (nmOf ns) (row1 ns) else dueOf (nmOf ns) (row0 ns))) := by
      rcases hk' with rfl | rfl <;> rfl
    rw [e]
    have src : ∀ {pos : Pos}, True := fun {_} => trivial
    refine Ev.compF (Psrc := vNm (if k = 0 then dueOf (nmOf ns) (row0 ns) else dueOf (nmOf ns) (row1 ns))) (if k = 0 then dueOf (nmOf ns) (row0 ns) else dueOf (nmOf ns) (row1 ns)) (fun n => vS (T n)) _ (fun n => vS (T n)) C₃ ?_ (fun v s k c q => Iter.lst c q) (fun n hn' C'' N' s₄ v' k₄ C₄ f₄ X₄ p₄ => Turn.one ?_ fun _ => Ev.name X₄ p₄) ?_ rfl rfl (by decide) (by decide)
    · refine (two_item (prog := prog) (w := w) (A := A) (k := (k : Int)) (P0 := vNm (dueOf (nmOf ns) (row0 ns))) (P1 := vNm (dueOf (nmOf ns) (row1 ns))) (hdue.cev k₃ f₃) (Ev.name X₃ p₃) (by lia)).imp fun h v q => ?_
      rcases hk' with rfl | rfl <;> exact q
    · refine Eb.cmp (P1 := vS (T n)) (P2 := vL (((if k = 0 then dueOf (nmOf ns) (row1 ns) else dueOf (nmOf ns) (row0 ns)).map T).map vS)) (Ev.name X₄ p₄) ?_ (fun v1 v2 s k q1 q2 => op_ninL q1 q2)
      have hk1 : Has L (N ++ Mut) _ s₃ "k" (vI (k : Int)) := ⟨v, X₃, p₃⟩
      refine (two_item (prog := prog) (w := w) (A := A) (k := 1 - (k : Int)) (P0 := vNm (dueOf (nmOf ns) (row0 ns))) (P1 := vNm (dueOf (nmOf ns) (row1 ns))) ?_ (Ev.subI Ev.cInt (hk1.cev k₄ f₄)) (by lia)).imp fun h v q => ?_
      · refine Has.cev ?_ k₄ f₄
        exact Has.comp hdue k₃ f₃ rfl rfl fun c h => h
      rw [← vNmT]
      rcases hk' with rfl | rfl <;> exact q
    · have := lk (row0 ns)
      have := lk (row1 ns)
      rcases hk' with rfl | rfl <;> exact fits_small (by show (dueOf _ _).length ≤ _; lia)
  rw [filter_all] at p12
  have p12' : (vNs [only (dueOf (nmOf ns) (row0 ns)) (dueOf (nmOf ns) (row1 ns)), only (dueOf (nmOf ns) (row1 ns)) (dueOf (nmOf ns) (row0 ns))]).on (vis L Mut s13.heap) v12 := p12
  have p6₁₃ := (vNs ([row0 ns, row1 ns].map (dueOf (nmOf ns)))).mono fl13 p6₁₂
  have p10₁₃ := (vL ([row0 ns, row1 ns].map fun it => vNm ((dueOf (nmOf ns) it).map fig))).mono fl13 p10₁₂
  refine Xs.cons (Xs.if (b := false) (s13_ok B Fa C13 frA' F13.nu (F13.hasC (x := "due") e6' (L + 5) p6₁₃) (F13.has (x := "wanted") upd_eq p12')) (fun h => by cases h) (fun _ s14 k14 => Xs.nil ?_))
  have F14 := F13.at k14
  have C14 := C13.at k14
  have p12₁₄ := (vNs [only (dueOf (nmOf ns) (row0 ns)) (dueOf (nmOf ns) (row1 ns)), only (dueOf (nmOf ns) (row1 ns)) (dueOf (nmOf ns) (row0 ns))]).mono (k14.vis _) p12'
  have p10₁₄ := (vL ([row0 ns, row1 ns].map fun it => vNm ((dueOf (nmOf ns) it).map fig))).mono (k14.vis _) p10₁₃
  refine Xs.cons (Xs.ret (s14_ok B Fa C14 frA' F14.nu (F14.has (x := "told") (Eq.trans upd_ne upd_eq) p10₁₄) (F14.has (x := "wanted") upd_eq p12₁₄)) fun v s15 k15 pv => ?_)
  obtain rfl : v = .bool true := pv
  exact ⟨rfl, (F14.at k15).ex, C14.at k15⟩
end
end Mine
set_option maxRecDepth 10000
namespace Mine
open PySem PySem.W PyProof.Rows PySem.Calls PySem.Spec
noncomputable def sit (i : RItem) (n : List Nat) (p : Nat) : Prop := p < n.length ∧ decide (n.getD p 0 ∈ i.1) ≠ i.2
noncomputable def MatE (n : List Nat) : List (Option RItem) → Nat → Nat → Prop
  | [], p, q => p = q
  | none :: r, p, q => ∃ k, p ≤ k ∧ MatE n r k q
  | some i :: r, p, q => sit i n p ∧ MatE n r (p + 1) q
theorem MatE.le {n : List Nat} : ∀ {l : List (Option RItem)} {p q : Nat}, MatE n l p q → p ≤ q
  | [], p, q, h => Nat.le_of_eq h
  | none :: r, p, q, ⟨k, h, h'⟩ => Nat.le_trans h h'.le
  | some i :: r, p, q, ⟨_, h⟩ => by have := MatE.le h; lia
theorem MatE.app {n : List Nat} : ∀ {a b : List (Option RItem)} {p q : Nat}, MatE n (a ++ b) p q ↔ ∃ k, MatE n a p k ∧ MatE n b k q
  | [], b, p, q => by simp [MatE]
  | none :: r, b, p, q => by
    simp only [List.cons_append, MatE, MatE.app (a := r)]
    constructor
    · rintro ⟨k, h, j, h1, h2⟩; exact ⟨j, ⟨k, h, h1⟩, h2⟩
    · rintro ⟨j, ⟨k, h, h1⟩, h2⟩; exact ⟨k, h, j, h1, h2⟩
  | some i :: r, b, p, q => by
    simp only [List.cons_append, MatE, MatE.app (a := r)]
    constructor
    · rintro ⟨h, j, h1, h2⟩; exact ⟨j, ⟨h, h1⟩, h2⟩
    · rintro ⟨j, ⟨h, h1⟩, h2⟩; exact ⟨h, j, h1, h2⟩
theorem MatE.star2 {n : List Nat} {r : List (Option RItem)} {p q : Nat} : MatE n (none :: none :: r) p q ↔ MatE n (none :: r) p q := by
  constructor
  · rintro ⟨k, h, j, h1, h2⟩; exact ⟨j, Nat.le_trans h h1, h2⟩
  · rintro ⟨k, h, h2⟩; exact ⟨k, h, k, Nat.le_refl _, h2⟩
theorem MatE.low {n : List Nat} {r : List (Option RItem)} {p p' q : Nat} (h : MatE n (none :: r) p q) (hp : p' ≤ p) : MatE n (none :: r) p' q := let ⟨k, h1, h2⟩ := h; ⟨k, Nat.le_trans hp h1, h2⟩
theorem stands_nil {n : List Nat} {p : Nat} : standsF [] n p = decide (p ≤ n.length) := by
  unfold standsF; simp
theorem misses_succ {i : RItem} {g : List RItem} {n : List Nat} {p k : Nat} : misses (i :: g) n p (k + 1) = misses g n (p + 1) k := by
  unfold misses
  rw [List.getD_cons_succ, show p + (k + 1) = p + 1 + k by lia]
theorem stands_cons {i : RItem} {g : List RItem} {n : List Nat} {p : Nat} : standsF (i :: g) n p = true ↔ sit i n p ∧ standsF g n (p + 1) = true := by
  unfold standsF sit
  simp only [Bool.and_eq_true, decide_eq_true_eq, List.length_cons, List.isEmpty_iff, List.filter_eq_nil_iff, List.mem_range]
  have e0 : misses (i :: g) n p 0 = (decide (n.getD p 0 ∈ i.1) == i.2) := by
    unfold misses
    rw [List.getD_cons_zero, contains_one, Nat.add_zero]
  constructor
  · rintro ⟨h1, h2⟩
    refine ⟨⟨by lia, ?_⟩, by lia, fun k hk => ?_⟩
    · have := h2 0 (by lia)
      rw [e0] at this
      simpa using this
    · rw [← misses_succ (i := i)]; exact h2 (k + 1) (by lia)
  · rintro ⟨⟨h1, h2⟩, h3, h4⟩
    refine ⟨by lia, fun k hk => ?_⟩
    cases k with
    | zero => rw [e0]; simpa using h2
    | succ k => rw [misses_succ]; exact h4 k (by lia)
theorem stands_mat {n : List Nat} {r : List (Option RItem)} {q : Nat} : ∀ {g : List RItem} {p : Nat}, p ≤ n.length → (MatE n (g.map some ++ r) p q ↔ standsF g n p = true ∧ MatE n r (p + g.length) q)
  | [], p, hp => by simp [stands_nil, hp]
  | i :: g, p, hp => by
    show sit i n p ∧ MatE n (g.map some ++ r) (p + 1) q ↔ _
    rw [stands_cons, List.length_cons, show p + (g.length + 1) = p + 1 + g.length by lia, and_assoc]
    constructor
    · rintro ⟨h, h'⟩; exact ⟨h, (stands_mat (by have := h.1; lia)).mp h'⟩
    · rintro ⟨h, h'⟩; exact ⟨h, (stands_mat (by have := h.1; lia)).mpr h'⟩
noncomputable def rtI : RT → RItem
  | .dot => ([], true)
  | .set => ([42], false)
  | .pl c => ([c], false)
  | _ => ([], false)
noncomputable def elI (e : El) : Option RItem := e.map fun l => rtI (elRT l)
noncomputable abbrev itemsE (l : List El) : List RItem := l.map fun e => rtI (elRT (txt e))
noncomputable def Gp : Nat → List El → List PartR
  | 0, _ => []
  | _ + 1, [] => []
  | f + 1, _ :: r => if r.dropWhile (·.isSome) = [] then [(starB, itemsE (r.takeWhile (·.isSome)))]
    else (starA, itemsE (r.takeWhile (·.isSome))) :: ([], []) :: Gp f (r.dropWhile (·.isSome))
noncomputable def flat (x : RdSt) : List PartR := x.1 ++ [x.2]
theorem rd_els (l : List El) : ∀ (x : RdSt), (elRTs l).foldl rdTok x = (x.1, (x.2.1, x.2.2 ++ itemsE l)) := by
  have one : ∀ (x : RdSt) (l : List Nat), rdTok x (elRT l) = addItem x (rtI (elRT l)) := by
    intro x l
    unfold elRT
    split <;> rfl
  induction l with
  | nil => intro x; simp
  | cons e r ih =>
    intro x
    show (elRTs r).foldl rdTok (rdTok x (elRT (txt e))) = _
    rw [ih, one]
    simp [addItem]
theorem rd_seg : ∀ (f : Nat) (l : List El) (x : RdSt), flat ((segRT f l).foldl rdTok x) = x.1 ++ [x.2] ++ Gp f l
  | 0, _, x => by simp [segRT, Gp, flat]
  | _ + 1, [], x => by simp [segRT, Gp, flat]
  | f + 1, e :: r, x => by
    unfold segRT Gp
    by_cases h : r = []
    · subst h
      simp [flat, rdTok, newPart]
    · rw [if_neg h]
      by_cases h' : r.dropWhile (·.isSome) = []
      · rw [if_pos h', if_pos h']
        rw [List.foldl_cons, rd_els]
        simp [flat, rdTok, newPart]
      · rw [if_neg h', if_neg h']
        rw [List.foldl_append, List.foldl_append, List.foldl_cons (l := elRTs _)]
        rw [rd_els, List.foldl_cons, List.foldl_nil]
        rw [rd_seg f]
        simp [rdTok, newPart]
theorem rd_parts (els : List El) : rdOf (rtsOf els) = ([], itemsE (els.takeWhile (·.isSome))) :: Gp els.length (els.dropWhile (·.isSome)) := by
  show flat (rdSt (rtsOf els)) = _
  unfold rdSt rtsOf
  rw [List.foldl_append, rd_els, rd_seg]
  simp
theorem tw_map (l : List El) : l.map elI = (itemsE (l.takeWhile (·.isSome))).map some ++ (l.dropWhile (·.isSome)).map elI := by
  induction l with
  | nil => rfl
  | cons e r ih =>
    cases e with
    | none => simp
    | some t =>
      rw [List.takeWhile_cons, List.dropWhile_cons]
      simp only [Option.isSome_some, if_true, List.map_cons, List.cons_append]
      rw [ih]
      rfl
theorem dw_none {l : List El} {e : El} {r : List El} (h : l.dropWhile (·.isSome) = e :: r) : e = none := by
  have := List.head_dropWhile_not (p := (·.isSome)) (l := l) (by rw [h]; simp)
  simp only [h, List.head_cons] at this
  cases e with
  | none => rfl
  | some _ => simp at this
theorem starA_ne : starA ≠ starB := by decide
theorem fits_seg (n : List Nat) : ∀ (f : Nat) (l : List El) (p : Nat), (l = [] ∨ ∃ r, l = none :: r) → l.length ≤ f → p ≤ n.length → (fitsGo n p (Gp f l) = true ↔ MatE n (l.map elI) p n.length)
  | f, [], p, _, _, hp => by
    have e : Gp f ([] : List El) = [] := by cases f <;> rfl
    rw [e]
    show (p == n.length) = true ↔ p = n.length
    rw [beq_iff_eq]
  | 0, _ :: _, p, _, hl, _ => by simp at hl
  | f + 1, e :: r, p, he, hl, hp => by
    have en : e = none := by rcases he with h | ⟨_, h⟩ <;> cases h; rfl
    subst en
    have hm : (none :: r : List El).map elI = none :: (itemsE (r.takeWhile (·.isSome))).map some ++ (r.dropWhile (·.isSome)).map elI := by
      rw [List.map_cons, tw_map r]; rfl
    rw [hm]
    show _ ↔ ∃ k, p ≤ k ∧ MatE n ((itemsE (r.takeWhile (·.isSome))).map some ++ (r.dropWhile (·.isSome)).map elI) k n.length
    have tl := tw_len (·.isSome) r
    rw [List.length_cons] at hl
    generalize hg : itemsE (r.takeWhile (·.isSome)) = g at *
    unfold Gp
    rw [hg]
    by_cases h' : r.dropWhile (·.isSome) = []
    · rw [if_pos h', h']
      show fitsGo n p [(starB, g)] = true ↔ _
      unfold fitsGo
      show (match found2 n p (starB, g) with | [] => false | f :: _ => standsF g n f && fitsGo n (f + g.length) []) = true ↔ _
      unfold found2
      rw [if_pos rfl]
      by_cases hle : p + g.length ≤ n.length
      · rw [if_pos hle]
        show (standsF g n (n.length - g.length) && (n.length - g.length + g.length == n.length)) = true ↔ _
        rw [Bool.and_eq_true, beq_iff_eq]
        constructor
        · rintro ⟨h1, h2⟩
          exact ⟨n.length - g.length, by lia, (stands_mat (by lia)).mpr ⟨h1, h2⟩⟩
        · rintro ⟨k, h1, h2⟩
          have hk := h2.le
          have h3 := (stands_mat hk).mp h2
          have : k + g.length = n.length := h3.2
          obtain rfl : k = n.length - g.length := by lia
          exact ⟨h3.1, this⟩
      · rw [if_neg hle]
        constructor
        · intro h; cases h
        · rintro ⟨k, h1, h2⟩
          have h3 := (stands_mat h2.le).mp h2
          have : k + g.length = n.length := h3.2
          lia
    · rw [if_neg h']
      obtain ⟨e', r', hr'⟩ : ∃ e' r', r.dropWhile (·.isSome) = e' :: r' := by
        cases h : r.dropWhile (·.isSome) with
        | nil => exact absurd h h'
        | cons a b => exact ⟨a, b, rfl⟩
      obtain rfl := dw_none hr'
      have ih : ∀ p, p ≤ n.length → (fitsGo n p (Gp f (r.dropWhile (·.isSome))) = true ↔ MatE n ((r.dropWhile (·.isSome)).map elI) p n.length) := fun p hp => fits_seg n f _ p (.inr ⟨r', hr'⟩) (by lia) hp
      have low : ∀ {k k'}, MatE n ((r.dropWhile (·.isSome)).map elI) k n.length → k' ≤ k → MatE n ((r.dropWhile (·.isSome)).map elI) k' n.length := by
        rw [hr']
        intro k k' h hk
        exact MatE.low h hk
      have step : ∀ k, k ≤ n.length → fitsGo n k (([], []) :: Gp f (r.dropWhile (·.isSome))) = fitsGo n k (Gp f (r.dropWhile (·.isSome))) := by
        intro k hk
        show (standsF [] n k && fitsGo n (k + 0) _) = _
        rw [stands_nil, decide_eq_true hk, Bool.true_and, Nat.add_zero]
      have e1 : fitsGo n p ((starA, g) :: ([], []) :: Gp f (r.dropWhile (·.isSome))) = (match found2 n p (starA, g) with | [] => false | f' :: _ => standsF g n f' && fitsGo n (f' + g.length) (([], []) :: Gp f (r.dropWhile (·.isSome)))) := rfl
      have e2 : found2 n p (starA, g) = (((List.range (n.length + 1 - p)).map (p + ·)).filter (standsF g n)).take 1 := by
        unfold found2
        rw [if_neg starA_ne]
        unfold found1
        rw [if_pos rfl]
      have e3 : ((List.range (n.length + 1 - p)).map (p + ·)) = List.range' p (n.length + 1 - p) := (List.range'_eq_map_range ..).symm
      rw [e1, e2, e3]
      have inr : ∀ k, k ∈ List.range' p (n.length + 1 - p) ↔ p ≤ k ∧ k ≤ n.length := by intro k; rw [List.mem_range'_1]; lia
      cases hF : (List.range' p (n.length + 1 - p)).filter (standsF g n) with
      | nil =>
        constructor
        · intro h; cases h
        · rintro ⟨k, h1, h2⟩
          have h3 := (stands_mat h2.le).mp h2
          have : k ∈ (List.range' p (n.length + 1 - p)).filter (standsF g n) := List.mem_filter.mpr ⟨(inr k).mpr ⟨h1, h2.le⟩, h3.1⟩
          rw [hF] at this
          cases this
      | cons k0 ks =>
        show (standsF g n k0 && fitsGo n (k0 + g.length) _) = true ↔ _
        have hk0 : k0 ∈ (List.range' p (n.length + 1 - p)).filter (standsF g n) := by rw [hF]; exact .head _
        obtain ⟨m1, m2⟩ := List.mem_filter.mp hk0
        have b0 := (inr k0).mp m1
        have b1 := stands_le m2
        have pw : (k0 :: ks).Pairwise (· < ·) := by rw [← hF]; exact (List.pairwise_lt_range').filter _
        rw [m2, Bool.true_and, step _ b1, ih _ b1]
        constructor
        · intro h; exact ⟨k0, b0.1, (stands_mat b0.2).mpr ⟨m2, h⟩⟩
        · rintro ⟨k, h1, h2⟩
          have h3 := (stands_mat h2.le).mp h2
          have hk : k ∈ k0 :: ks := by rw [← hF]; exact List.mem_filter.mpr ⟨(inr k).mpr ⟨h1, h2.le⟩, h3.1⟩
          have : k0 ≤ k := by
            rcases List.mem_cons.mp hk with rfl | h
            · exact Nat.le_refl _
            · exact Nat.le_of_lt ((List.pairwise_cons.mp pw).1 k h)
          exact low h3.2 (by lia)
theorem fits_mat (n : List Nat) (els : List El) : fitsF (rdOf (rtsOf els)) n = true ↔ MatE n (els.map elI) 0 n.length := by
  rw [rd_parts, tw_map els, stands_mat (Nat.zero_le _)]
  show (standsF _ n 0 && fitsGo n _ _) = true ↔ _
  rw [Bool.and_eq_true]
  constructor
  · rintro ⟨h, h'⟩
    have tl := tw_len (·.isSome) els
    exact ⟨h, (fits_seg n _ _ _ (by cases e : els.dropWhile (·.isSome) with | nil => exact .inl rfl | cons a b => exact .inr ⟨b, by rw [dw_none e]⟩) (by lia) (stands_le h)).mp h'⟩
  · rintro ⟨h, h'⟩
    have tl := tw_len (·.isSome) els
    exact ⟨h, (fits_seg n _ _ _ (by cases e : els.dropWhile (·.isSome) with | nil => exact .inl rfl | cons a b => exact .inr ⟨b, by rw [dw_none e]⟩) (by lia) (stands_le h)).mpr h'⟩
end Mine
set_option maxRecDepth 10000
namespace Mine
open PySem PySem.W PyProof.Rows PySem.Calls PySem.Spec
noncomputable def tokI : PT → Option RItem
  | .star => none
  | .quest => some ([], true)
  | .set => some ([42], false)
  | .pl c => some ([c], false)
theorem els_mat (n : List Nat) (toks : List PT) (h46 : ∀ t ∈ toks, t ≠ .pl 46) (p q : Nat) : MatE n ((elsOf toks).map elI) p q ↔ MatE n (toks.map tokI) p q := by
  have key : ∀ (toks : List PT) (acc : List El), (∀ t ∈ toks, t ≠ .pl 46) → ∀ p q, MatE n ((toks.foldl addTok acc).map elI) p q ↔ MatE n (acc.map elI ++ toks.map tokI) p q := by
    intro toks
    induction toks with
    | nil => intro acc _ p q; simp
    | cons t r ih =>
      intro acc h p q
      rw [List.foldl_cons, ih _ (fun t ht => h t (.tail _ ht))]
      have sn : ∀ x : El, elI x = tokI t → (MatE n ((acc ++ [x]).map elI ++ r.map tokI) p q ↔ MatE n (acc.map elI ++ (t :: r).map tokI) p q) := by
        intro x hx
        rw [List.map_append, List.append_assoc, List.map_cons, List.map_cons, hx]
        rfl
      cases t with
      | star =>
        show MatE n ((if acc.getLast? = some none then acc else acc ++ [none]).map elI ++ r.map tokI) p q ↔ _
        split
        · rename_i hl
          obtain ⟨acc', rfl⟩ : ∃ a, acc = a ++ [none] := List.getLast?_eq_some_iff.mp hl
          rw [List.map_append, List.append_assoc, List.append_assoc, MatE.app, MatE.app]
          constructor
          · rintro ⟨k, h1, h2⟩; exact ⟨k, h1, MatE.star2.mpr h2⟩
          · rintro ⟨k, h1, h2⟩; exact ⟨k, h1, MatE.star2.mp h2⟩
        · exact sn _ rfl
      | quest => exact sn _ rfl
      | set => exact sn _ rfl
      | pl c =>
        refine sn _ ?_
        have hc : c ≠ 46 := fun e => h (.pl c) (.head _) (by rw [e])
        show some (rtI (elRT [c])) = some ([c], false)
        have : elRT [c] = .pl c := by
          unfold elRT
          split
          · rename_i e; exact absurd (List.cons.inj e).1 hc
          · rename_i e; cases e
          · rename_i e; cases e; rfl
          · rename_i e; cases e
        rw [this]; rfl
  rw [show elsOf toks = toks.foldl addTok [] from rfl, key toks [] h46]
  simp
noncomputable def itI : Item → Option RItem := Option.map fun l => (l, l == [])
noncomputable def it8 (i : Item) : Prop := i = none ∨ i = some [] ∨ ∃ c ∈ [97, 98, 61, 233, 42, 95], i = some [c]
theorem it8_in {i : Item} (h : it8 i) : i ∈ item8 := by
  rcases h with rfl | rfl | ⟨c, hc, rfl⟩
  · decide
  · decide
  · revert c
    decide
theorem sit_takes {l n : List Nat} {p : Nat} (hl : l = [] ∨ ∃ c, l = [c]) : takes l n p = true ↔ sit (l, l == []) n p := by
  unfold takes sit
  rw [Bool.and_eq_true, decide_eq_true_eq]
  refine and_congr_right fun _ => ?_
  rcases hl with rfl | ⟨c, rfl⟩
  · simp
  · simp only [Bool.or_eq_true, beq_iff_eq, List.mem_singleton]
    constructor
    · rintro (h | h)
      · cases h
      · have := (List.cons.inj h).1
        simp [this]
    · intro h
      right
      by_cases e : n.getD p 0 = c
      · rw [e]
      · rw [decide_eq_false e] at h
        exact absurd rfl h
theorem tried_mat (n : List Nat) (it : List Item) (h8 : ∀ i ∈ it, it8 i) : triedF it n = true ↔ MatE n (it.map itI) 0 n.length := by
  have key : ∀ (it : List Item) (ps : List Nat), (∀ i ∈ it, it8 i) → (∀ q, q ≤ n.length → (q ∈ it.foldl (tryStep n) ps ↔ ∃ p ∈ ps, MatE n (it.map itI) p q)) := by
    intro it
    induction it with
    | nil =>
      intro ps _ q _
      constructor
      · intro h; exact ⟨q, h, rfl⟩
      · rintro ⟨p, h, e⟩; exact (show p = q from e) ▸ h
    | cons i r ih =>
      intro ps h q hq
      rw [List.foldl_cons, ih _ (fun t ht => h t (.tail _ ht)) q hq]
      cases i with
      | none =>
        show (∃ p ∈ (List.range (n.length + 1)).filter _, _) ↔ ∃ p ∈ ps, ∃ k, p ≤ k ∧ MatE n (r.map itI) k q
        constructor
        · rintro ⟨k, hk, h2⟩
          have := (List.mem_filter.mp hk).2
          simp only [List.any_eq_true, decide_eq_true_eq] at this
          obtain ⟨p, hp, hpk⟩ := this
          exact ⟨p, hp, k, hpk, h2⟩
        · rintro ⟨p, hp, k, hpk, h2⟩
          have := h2.le
          refine ⟨k, List.mem_filter.mpr ⟨List.mem_range.mpr (by lia), ?_⟩, h2⟩
          simp only [List.any_eq_true, decide_eq_true_eq]
          exact ⟨p, hp, hpk⟩
      | some l =>
        have hl : l = [] ∨ ∃ c, l = [c] := by
          rcases h _ (.head _) with h | h | ⟨c, _, h⟩
          · cases h
          · exact .inl (Option.some.inj h)
          · exact .inr ⟨c, Option.some.inj h⟩
        show (∃ p ∈ (ps.filter (takes l n)).map (· + 1), _) ↔ ∃ p ∈ ps, sit (l, l == []) n p ∧ MatE n (r.map itI) (p + 1) q
        constructor
        · rintro ⟨k, hk, h2⟩
          obtain ⟨p, hp, rfl⟩ := List.mem_map.mp hk
          obtain ⟨hp, ht⟩ := List.mem_filter.mp hp
          exact ⟨p, hp, (sit_takes hl).mp ht, h2⟩
        · rintro ⟨p, hp, ht, h2⟩
          exact ⟨p + 1, List.mem_map.mpr ⟨p, List.mem_filter.mpr ⟨hp, (sit_takes hl).mpr ht⟩, rfl⟩, h2⟩
  unfold triedF triedP
  rw [List.any_eq_true]
  constructor
  · rintro ⟨q, hq, e⟩
    rw [beq_iff_eq] at e
    subst e
    obtain ⟨p, hp, h⟩ := (key it [0] h8 _ (Nat.le_refl _)).mp hq
    rw [List.mem_singleton.mp hp] at h
    exact h
  · intro h
    exact ⟨n.length, (key it [0] h8 _ (Nat.le_refl _)).mpr ⟨0, .head _, h⟩, by simp⟩
theorem toks_item {i : Item} (h : it8 i) : (toksOf1 false i).map tokI = [itI i] := by
  rcases h with rfl | rfl | ⟨c, hc, rfl⟩
  · rfl
  · rfl
  · simp only [List.mem_cons, List.not_mem_nil, or_false] at hc
    rcases hc with rfl | rfl | rfl | rfl | rfl | rfl <;> rfl
theorem toks_items {it : List Item} (h8 : ∀ i ∈ it, it8 i) : (toksOf false it).map tokI = it.map itI := by
  unfold toksOf
  induction it with
  | nil => rfl
  | cons i r ih =>
    rw [List.map_cons, List.flatten_cons, List.map_append, ih fun t ht => h8 t (.tail _ ht), toks_item (h8 i (.head _))]
    rfl
theorem hx_facts : ∀ d < 16, hx d ≠ 61 ∧ hx d ∈ [48, 49, 50, 51, 52, 53, 54, 55, 56, 57, 65, 66, 67, 68, 69, 70] := by decide
noncomputable def goodT : PT → Bool
  | .pl c => [97, 98, 61, 233, 95, 48, 49, 50, 51, 52, 53, 54, 55, 56, 57, 65, 66, 67, 68, 69, 70].contains c
  | _ => true
theorem toks_good : ∀ i ∈ item8, ((toksOf1 false i).all goodT && (toksOf1 true i).all goodT && decide ((toksOf1 false i).length ≤ 3) && decide ((toksOf1 true i).length ≤ 3)) = true := by decide
theorem toks_goodB {it : List Item} (h8 : ∀ i ∈ it, it8 i) (wr : Bool) : ∀ t ∈ toksOf wr it, goodT t = true := by
  intro t ht
  unfold toksOf at ht
  obtain ⟨l, hl, ht⟩ := List.mem_flatten.mp ht
  obtain ⟨i, hi, rfl⟩ := List.mem_map.mp hl
  have h := toks_good i (it8_in (h8 i hi))
  simp only [Bool.and_eq_true, List.all_eq_true] at h
  cases wr
  · exact h.1.1.1 t ht
  · exact h.1.1.2 t ht
theorem toks_pl46 {wr : Bool} {it : List Item} (h8 : ∀ i ∈ it, it8 i) : ∀ t ∈ toksOf wr it, t ≠ .pl 46 := by
  rintro t ht rfl
  exact absurd (toks_goodB h8 wr _ ht) (by decide)
theorem fact1 (n : List Nat) (it : List Item) (h8 : ∀ i ∈ it, it8 i) : fitsF (prt false it) n = triedF it n := by
  rw [Bool.eq_iff_iff, tried_mat n it h8]
  unfold prt rts
  rw [fits_mat, els_mat n _ (toks_pl46 h8), toks_items h8]
end Mine
set_option maxRecDepth 10000
namespace Mine
open PySem PySem.W PyProof.Rows PySem.Calls PySem.Spec
theorem sit_one {d : Nat} {n : List Nat} {p : Nat} : sit ([d], false) n p ↔ p < n.length ∧ n.getD p 0 = d := by
  unfold sit
  refine and_congr_right fun _ => ?_
  by_cases e : n.getD p 0 = d
  · rw [e]; simp
  · rw [decide_eq_false (by rw [List.mem_singleton]; exact e)]; exact ⟨fun h => absurd rfl h, fun h => absurd h e⟩
theorem sit_any {n : List Nat} {p : Nat} : sit ([], true) n p ↔ p < n.length := by
  unfold sit; simp
theorem hx_inj : ∀ a < 16, ∀ b < 16, hx a = hx b → a = b := by decide
theorem fig_cons (c : Nat) (n : List Nat) : fig (c :: n) = 61 :: hx (c / 16) :: hx (c % 16) :: fig n := by
  unfold fig; rw [List.map_cons, List.flatten_cons]; rfl
theorem fig_get : ∀ (n : List Nat) (k : Nat), k < n.length → (fig n).getD (3 * k) 0 = 61 ∧ (fig n).getD (3 * k + 1) 0 = hx (n.getD k 0 / 16) ∧ (fig n).getD (3 * k + 2) 0 = hx (n.getD k 0 % 16)
  | c :: n, 0, _ => by rw [fig_cons]; exact ⟨rfl, rfl, rfl⟩
  | c :: n, k + 1, h => by
    have := fig_get n k (by simpa using h)
    rw [fig_cons, show 3 * (k + 1) = 3 * k + 1 + 1 + 1 by lia, show 3 * k + 1 + 1 + 1 + 1 = (3 * k + 1) + 1 + 1 + 1 by lia, show 3 * k + 1 + 1 + 1 + 2 = (3 * k + 2) + 1 + 1 + 1 by lia]
    simpa only [List.getD_cons_succ] using this
theorem getD_mem {n : List Nat} {k : Nat} (h : k < n.length) : n.getD k 0 ∈ n := by
  rw [List.getD_eq_getElem?_getD, List.getElem?_eq_getElem h]; exact List.getElem_mem h
theorem fig_eqs {n : List Nat} (hn : ∀ c ∈ n, c < 256) {p : Nat} (h : sit ([61], false) (fig n) p) : ∃ k, k < n.length ∧ p = 3 * k := by
  obtain ⟨h1, h2⟩ := sit_one.mp h
  rw [fig_len] at h1
  have hk : p / 3 < n.length := by lia
  have hc := hn _ (getD_mem hk)
  obtain ⟨g0, g1, g2⟩ := fig_get n (p / 3) hk
  refine ⟨p / 3, hk, ?_⟩
  have h3 : p % 3 = 0 ∨ p % 3 = 1 ∨ p % 3 = 2 := by lia
  rcases h3 with h3 | h3 | h3
  · lia
  · rw [show 3 * (p / 3) + 1 = p by lia, h2] at g1
    exact absurd g1.symm (hx_facts _ (by lia)).1
  · rw [show 3 * (p / 3) + 2 = p by lia, h2] at g2
    exact absurd g2.symm (hx_facts _ (by lia)).1
theorem fig_three {n : List Nat} (hn : ∀ c ∈ n, c < 256) {l : List Nat} (h8 : it8 (some l)) {r : List (Option RItem)} {p q : Nat} :
    MatE (fig n) ((toksOf1 true (some l)).map tokI ++ r) p q ↔ ∃ k, p = 3 * k ∧ sit (l, l == []) n k ∧ MatE (fig n) r (3 * (k + 1)) q := by
  have hl : l = [] ∨ ∃ c, c < 256 ∧ l = [c] := by
    rcases h8 with h | h | ⟨c, hc, h⟩
    · cases h
    · exact .inl (Option.some.inj h)
    · refine .inr ⟨c, ?_, Option.some.inj h⟩
      clear h; revert c; decide
  rcases hl with rfl | ⟨c, hc, rfl⟩
  · show (sit ([61], false) (fig n) p ∧ sit ([], true) (fig n) (p + 1) ∧ sit ([], true) (fig n) (p + 1 + 1) ∧ MatE (fig n) r (p + 1 + 1 + 1) q) ↔ _
    constructor
    · rintro ⟨h1, h2, h3, h4⟩
      obtain ⟨k, hk, rfl⟩ := fig_eqs hn h1
      exact ⟨k, rfl, sit_any.mpr hk, h4⟩
    · rintro ⟨k, rfl, h1, h2⟩
      have hk := sit_any.mp h1
      exact ⟨sit_one.mpr ⟨by rw [fig_len]; lia, (fig_get n k hk).1⟩, sit_any.mpr (by rw [fig_len]; lia), sit_any.mpr (by rw [fig_len]; lia), h2⟩
  · show (sit ([61], false) (fig n) p ∧ sit ([hx (c / 16)], false) (fig n) (p + 1) ∧ sit ([hx (c % 16)], false) (fig n) (p + 1 + 1) ∧ MatE (fig n) r (p + 1 + 1 + 1) q) ↔ ∃ k, p = 3 * k ∧ sit ([c], false) n k ∧ _
    constructor
    · rintro ⟨h1, h2, h3, h4⟩
      obtain ⟨k, hk, rfl⟩ := fig_eqs hn h1
      refine ⟨k, rfl, sit_one.mpr ⟨hk, ?_⟩, h4⟩
      obtain ⟨g0, g1, g2⟩ := fig_get n k hk
      have h2 := (sit_one.mp h2).2
      have h3 := (sit_one.mp h3).2
      have hc' := hn _ (getD_mem hk)
      have e1 := hx_inj _ (by lia) _ (by lia) (g1.symm.trans h2)
      have e2 := hx_inj _ (by lia) _ (by lia) (g2.symm.trans h3)
      lia
    · rintro ⟨k, rfl, h1, h2⟩
      obtain ⟨hk, e⟩ := sit_one.mp h1
      obtain ⟨g0, g1, g2⟩ := fig_get n k hk
      rw [e] at g1 g2
      exact ⟨sit_one.mpr ⟨by rw [fig_len]; lia, g0⟩, sit_one.mpr ⟨by rw [fig_len]; lia, g1⟩, sit_one.mpr ⟨by rw [fig_len]; lia, g2⟩, h2⟩
theorem toksOf_cons (wr : Bool) (i : Item) (r : List Item) : (toksOf wr (i :: r)).map tokI = (toksOf1 wr i).map tokI ++ (toksOf wr r).map tokI := by
  unfold toksOf
  rw [List.map_cons, List.flatten_cons, List.map_append]
theorem fig_to {n : List Nat} (hn : ∀ c ∈ n, c < 256) : ∀ (it : List Item), (∀ i ∈ it, it8 i) → ∀ p, MatE (fig n) ((toksOf true it).map tokI) p (3 * n.length) → ∃ p', p ≤ 3 * p' ∧ MatE n (it.map itI) p' n.length ∧ (p = 3 * p' ∨ ∃ r, it = none :: r)
  | [], _, p, h => ⟨n.length, Nat.le_of_eq h, rfl, .inl h⟩
  | none :: r, h8, p, h => by
    rw [toksOf_cons] at h
    obtain ⟨k, h1, h2⟩ : ∃ k, p ≤ k ∧ MatE (fig n) ((toksOf true r).map tokI) k (3 * n.length) := h
    obtain ⟨k', e1, e2, e3⟩ := fig_to hn r (fun i hi => h8 i (.tail _ hi)) k h2
    exact ⟨k', Nat.le_trans h1 e1, ⟨k', Nat.le_refl _, e2⟩, .inr ⟨r, rfl⟩⟩
  | some l :: r, h8, p, h => by
    rw [toksOf_cons] at h
    obtain ⟨k, rfl, h1, h2⟩ := (fig_three hn (h8 _ (.head _))).mp h
    obtain ⟨k', e1, e2, e3⟩ := fig_to hn r (fun i hi => h8 i (.tail _ hi)) _ h2
    refine ⟨k, Nat.le_refl _, ⟨h1, ?_⟩, .inl rfl⟩
    rcases e3 with e3 | ⟨r', rfl⟩
    · rw [show k + 1 = k' by lia]; exact e2
    · exact MatE.low e2 (by lia)
theorem fig_from {n : List Nat} (hn : ∀ c ∈ n, c < 256) : ∀ (it : List Item), (∀ i ∈ it, it8 i) → ∀ p, MatE n (it.map itI) p n.length → MatE (fig n) ((toksOf true it).map tokI) (3 * p) (3 * n.length)
  | [], _, p, h => by rw [show p = n.length from h]; exact rfl
  | none :: r, h8, p, h => by
    rw [toksOf_cons]
    obtain ⟨k, h1, h2⟩ : ∃ k, p ≤ k ∧ MatE n (r.map itI) k n.length := h
    exact ⟨3 * k, by lia, fig_from hn r (fun i hi => h8 i (.tail _ hi)) k h2⟩
  | some l :: r, h8, p, h => by
    rw [toksOf_cons]
    obtain ⟨h1, h2⟩ : sit (l, l == []) n p ∧ MatE n (r.map itI) (p + 1) n.length := h
    exact (fig_three hn (h8 _ (.head _))).mpr ⟨p, rfl, h1, fig_from hn r (fun i hi => h8 i (.tail _ hi)) _ h2⟩
theorem fact2 (n : List Nat) (hn : ∀ c ∈ n, c < 256) (it : List Item) (h8 : ∀ i ∈ it, it8 i) : fitsF (prt true it) (fig n) = triedF it n := by
  rw [Bool.eq_iff_iff, tried_mat n it h8]
  unfold prt rts
  rw [fits_mat, els_mat _ _ (toks_pl46 h8), fig_len]
  constructor
  · intro h
    obtain ⟨p', h1, h2, h3⟩ := fig_to hn it h8 0 h
    rcases h3 with h3 | ⟨r, rfl⟩
    · rw [show (0 : Nat) = p' by lia]; exact h2
    · exact MatE.low h2 (Nat.zero_le _)
  · intro h
    exact fig_from hn it h8 0 h
end Mine
set_option maxRecDepth 10000
namespace Mine
open PySem PySem.W PyProof.Rows PySem.Calls PySem.Spec
theorem flat_nil : ∀ p ∈ flat (([], ([], [])) : RdSt), p.2.length ≤ 0 := fun p hp => by
  rw [List.mem_singleton.mp hp]; exact Nat.le_refl _
noncomputable abbrev plains : List Nat := [97, 98, 61, 233, 95, 48, 49, 50, 51, 52, 53, 54, 55, 56, 57, 65, 66, 67, 68, 69, 70]
theorem pat_toks : ∀ i ∈ item8, patOf false i = ptTxt (toksOf1 false i) ∧ patOf true i = ptTxt (toksOf1 true i) := by decide
noncomputable def gE (e : El) : Prop := ∀ l, e = some l → l = [46] ∨ l = [91, 42, 93] ∨ ∃ c ∈ plains, l = [c]
theorem els_gE (toks : List PT) (h : ∀ t ∈ toks, goodT t = true) : ∀ e ∈ elsOf toks, gE e := by
  have key : ∀ (toks : List PT) (acc : List El), (∀ t ∈ toks, goodT t = true) → (∀ e ∈ acc, gE e) → ∀ e ∈ toks.foldl addTok acc, gE e := by
    intro toks
    induction toks with
    | nil => intro acc _ h; exact h
    | cons t r ih =>
      intro acc h ha
      refine ih _ (fun t ht => h t (.tail _ ht)) ?_
      have sn : ∀ x : El, gE x → ∀ e ∈ acc ++ [x], gE e := fun x hx e he => by
        rcases List.mem_append.mp he with he | he
        · exact ha e he
        · rw [List.mem_singleton.mp he]; exact hx
      cases t with
      | star =>
        show ∀ e ∈ (if acc.getLast? = some none then acc else acc ++ [none]), _
        split
        · exact ha
        · exact sn _ fun l e => by cases e
      | quest => exact sn _ fun l e => by cases e; exact .inl rfl
      | set => exact sn _ fun l e => by cases e; exact .inr (.inl rfl)
      | pl c =>
        refine sn _ fun l e => by
          cases e
          have := h _ (.head _)
          exact .inr (.inr ⟨c, by simpa [goodT] using this, rfl⟩)
  exact key toks [] h (by simp)
theorem plains_rt : ∀ c ∈ plains, c ≠ 46 ∧ rtOk (.pl c) := by
  unfold rtOk plainOk
  decide
theorem gE_rt {l : List Nat} (h : l = [46] ∨ l = [91, 42, 93] ∨ ∃ c ∈ plains, l = [c]) : (elRT l).txt = l ∧ rtOk (elRT l) := by
  rcases h with rfl | rfl | ⟨c, hc, rfl⟩
  · exact ⟨rfl, trivial⟩
  · exact ⟨rfl, trivial⟩
  · have := plains_rt c hc
    have e : elRT [c] = .pl c := by
      unfold elRT
      split
      · rename_i e; exact absurd (List.cons.inj e).1 this.1
      · rename_i e; cases e
      · rename_i e; cases e; rfl
      · rename_i e; cases e
    rw [e]
    exact ⟨rfl, this.2⟩
theorem some_of_tw {l : List El} {e : El} (h : e ∈ l.takeWhile (·.isSome)) : e ∈ l ∧ ∃ t, e = some t := by
  refine ⟨(List.takeWhile_sublist _).mem h, ?_⟩
  have := List.all_takeWhile (p := (·.isSome)) (l := l)
  rw [List.all_eq_true] at this
  have := this e h
  cases e with
  | none => cases this
  | some t => exact ⟨t, rfl⟩
theorem mem_dw {l : List El} {e : El} (h : e ∈ l.dropWhile (·.isSome)) : e ∈ l := (List.dropWhile_sublist _).mem h
theorem rt_els {l : List El} (h : ∀ e ∈ l, gE e ∧ ∃ t, e = some t) : rtTxt (elRTs l) = (l.map txt).flatten ∧ ∀ t ∈ elRTs l, rtOk t := by
  induction l with
  | nil => exact ⟨rfl, by simp⟩
  | cons e r ih =>
    obtain ⟨i1, i2⟩ := ih fun x hx => h x (.tail _ hx)
    obtain ⟨g, t, rfl⟩ := h e (.head _)
    obtain ⟨j1, j2⟩ := gE_rt (g t rfl)
    refine ⟨?_, ?_⟩
    · show rtTxt (elRT t :: elRTs r) = _
      rw [rtTxt_cons, i1, j1]; rfl
    · rintro t' ht
      rcases List.mem_cons.mp ht with rfl | ht
      · exact j2
      · exact i2 _ ht
theorem rt_seg : ∀ (f : Nat) (l : List El), (∀ e ∈ l, gE e) → rtTxt (segRT f l) = (segs f l).flatten ∧ (∀ t ∈ segRT f l, rtOk t) ∧ (segRT f l).length ≤ 3 * l.length
  | 0, _, _ => by simp [segRT, segs, rtTxt]
  | _ + 1, [], _ => by simp [segRT, segs, rtTxt]
  | f + 1, e :: r, h => by
    have tw := rt_els (l := r.takeWhile (·.isSome)) fun e he => ⟨h e (.tail _ (some_of_tw he).1), (some_of_tw he).2⟩
    have tl := tw_len (·.isSome) r
    have el : (elRTs (r.takeWhile (·.isSome))).length = (r.takeWhile (·.isSome)).length := List.length_map ..
    unfold segRT segs
    by_cases hr : r = []
    · rw [if_pos hr, if_pos hr]
      exact ⟨rfl, by simp [rtOk], by show 1 ≤ 3 * (r.length + 1); lia⟩
    · rw [if_neg hr, if_neg hr]
      by_cases hd : r.dropWhile (·.isSome) = []
      · rw [if_pos hd, if_pos hd]
        refine ⟨?_, ?_, ?_⟩
        · rw [rtTxt_cons, tw.1]; simp [RT.txt, starB]
        · rintro t ht
          rcases List.mem_cons.mp ht with rfl | ht
          · exact trivial
          · exact tw.2 _ ht
        · rw [List.length_cons, List.length_cons, el]; lia
      · rw [if_neg hd, if_neg hd]
        obtain ⟨i1, i2, i3⟩ := rt_seg f (r.dropWhile (·.isSome)) fun e he => h e (.tail _ (mem_dw he))
        refine ⟨?_, ?_, ?_⟩
        · rw [rtTxt_app, i1, List.cons_append, rtTxt_cons, rtTxt_app, tw.1]
          simp [RT.txt, starA, rtTxt]
        · intro t ht
          rcases List.mem_append.mp ht with ht | ht
          · rcases List.mem_append.mp ht with ht | ht
            · rcases List.mem_cons.mp ht with rfl | ht
              · exact trivial
              · exact tw.2 _ ht
            · rw [List.mem_singleton.mp ht]; exact trivial
          · exact i2 t ht
        · simp only [List.length_append, List.length_cons, List.length_nil, el]
          lia
theorem rts_of {els : List El} (h : ∀ e ∈ els, gE e) : joinF els = madeTxt (rtsOf els) ∧ (∀ t ∈ rtsOf els, rtOk t) ∧ (rtsOf els).length ≤ 3 * els.length := by
  have tw := rt_els (l := els.takeWhile (·.isSome)) fun e he => ⟨h e (some_of_tw he).1, (some_of_tw he).2⟩
  have tl := tw_len (·.isSome) els
  have el : (elRTs (els.takeWhile (·.isSome))).length = (els.takeWhile (·.isSome)).length := List.length_map ..
  obtain ⟨i1, i2, i3⟩ := rt_seg els.length (els.dropWhile (·.isSome)) fun e he => h e (mem_dw he)
  refine ⟨?_, ?_, ?_⟩
  · have e1 : rtTxt (rtsOf els) = (pieces els).flatten := by
      unfold rtsOf pieces
      rw [rtTxt_app, tw.1, i1, List.flatten_append]
    unfold joinF
    rw [← e1]
    rfl
  · intro t ht
    rcases List.mem_append.mp ht with ht | ht
    · exact tw.2 _ ht
    · exact i2 _ ht
  · unfold rtsOf
    rw [List.length_append, el]
    lia
theorem toks_len {it : List Item} (h8 : ∀ i ∈ it, it8 i) (wr : Bool) : (toksOf wr it).length ≤ 3 * it.length := by
  induction it with
  | nil => simp [toksOf]
  | cons i r ih =>
    have e : toksOf wr (i :: r) = toksOf1 wr i ++ toksOf wr r := by unfold toksOf; rw [List.map_cons, List.flatten_cons]
    have h := toks_good i (it8_in (h8 i (.head _)))
    simp only [Bool.and_eq_true, decide_eq_true_eq] at h
    have i1 := ih fun t ht => h8 t (.tail _ ht)
    rw [e, List.length_append, List.length_cons]
    cases wr
    · have := h.1.2; lia
    · have := h.2; lia
theorem pat_txt {it : List Item} (h8 : ∀ i ∈ it, it8 i) (wr : Bool) : patTxt wr it = ptTxt (toksOf wr it) := by
  induction it with
  | nil => rfl
  | cons i r ih =>
    have e : toksOf wr (i :: r) = toksOf1 wr i ++ toksOf wr r := by unfold toksOf; rw [List.map_cons, List.flatten_cons]
    have e' : patTxt wr (i :: r) = patOf wr i ++ patTxt wr r := by unfold patTxt; rw [List.map_cons, List.flatten_cons]
    rw [e, e', ptTxt_app, ih fun t ht => h8 t (.tail _ ht)]
    have := pat_toks i (it8_in (h8 i (.head _)))
    cases wr
    · rw [this.1]
    · rw [this.2]
theorem plains_pt : ∀ c ∈ plains, c ≠ 42 ∧ c ≠ 63 ∧ c ≠ 91 := by decide
theorem rd_len (l : List RT) : ∀ p ∈ rdOf l, p.2.length ≤ l.length := by
  have key : ∀ (l : List RT) (x : RdSt) (N : Nat), (∀ p ∈ flat x, p.2.length ≤ N) → ∀ p ∈ flat (l.foldl rdTok x), p.2.length ≤ N + l.length := by
    intro l
    induction l with
    | nil => intro x N h; exact h
    | cons t r ih =>
      intro x N h p hp
      rw [List.length_cons, show N + (r.length + 1) = N + 1 + r.length by lia]
      refine ih (rdTok x t) (N + 1) ?_ p hp
      have h1 : ∀ p ∈ x.1, p.2.length ≤ N := fun p hp => h p (List.mem_append_left _ hp)
      have h2 : x.2.2.length ≤ N := h x.2 (List.mem_append_right _ (.head _))
      have np : ∀ st, ∀ p ∈ flat (newPart x st), p.2.length ≤ N + 1 := by
        intro st p hp
        rcases List.mem_append.mp hp with hp | hp
        · rcases List.mem_append.mp hp with hp | hp
          · have := h1 p hp; lia
          · rw [List.mem_singleton.mp hp]; lia
        · rw [List.mem_singleton.mp hp]; exact Nat.zero_le _
      have ai : ∀ i, ∀ p ∈ flat (addItem x i), p.2.length ≤ N + 1 := by
        intro i p hp
        rcases List.mem_append.mp hp with hp | hp
        · have := h1 p hp; lia
        · rw [List.mem_singleton.mp hp]
          show (x.2.2 ++ [i]).length ≤ _
          rw [List.length_append, List.length_singleton]; lia
      cases t with
      | gA => exact np _
      | gB => exact np _
      | close =>
        show ∀ p ∈ flat (if x.2.1 = starA then newPart x [] else addItem x ([], false)), p.2.length ≤ N + 1
        split
        · exact np _
        · exact ai _
      | dot => exact ai _
      | set => exact ai _
      | pl c => exact ai _
  intro p hp
  have := key l ([], ([], [])) 0 flat_nil p hp
  lia
theorem pat_ok {ok : Nat → Prop} (hok : ∀ c ∈ plains, ok c) {it : List Item} (h8 : ∀ i ∈ it, it8 i) (h5 : it.length = 5) (wr : Bool) : PatOk ok wr it := by
  have tl := toks_len h8 wr
  have el := elsOf_len (toksOf wr it)
  obtain ⟨r1, r2, r3⟩ := rts_of (els_gE _ (toks_goodB h8 wr))
  refine ⟨pat_txt h8 wr, by lia, fun t ht => ?_, r1, ?_, r2, ⟨by lia, fun i hi => ?_⟩, fun p hp => ?_⟩
  · have := toks_goodB h8 wr t ht
    cases t with
    | pl c =>
      have hc : c ∈ plains := by simpa [goodT] using this
      exact ⟨hok c hc, plains_pt c hc⟩
    | star => trivial
    | quest => trivial
    | set => trivial
  · show (rtsOf (elsOf (toksOf wr it))).length < 900
    lia
  · rcases h8 i hi with h | h | ⟨c, hc, h⟩
    · exact .inl h
    · exact .inr (.inl h)
    · refine .inr (.inr ⟨c, ?_, h⟩)
      clear h
      revert c; decide
  · have := rd_len _ p hp
    have e : (rts wr it).length ≤ 3 * (elsOf (toksOf wr it)).length := r3
    lia
theorem itemAt_it8 (x : Int) (k : Nat) : it8 (itemAt x k) := by
  unfold itemAt
  have h : ∀ j, it8 (item8.getD j none) := by
    intro j
    match j with
    | 0 => exact .inl rfl
    | 1 => exact .inr (.inl rfl)
    | 2 => exact .inr (.inr ⟨97, by decide, rfl⟩)
    | 3 => exact .inr (.inr ⟨98, by decide, rfl⟩)
    | 4 => exact .inr (.inr ⟨61, by decide, rfl⟩)
    | 5 => exact .inr (.inr ⟨233, by decide, rfl⟩)
    | 6 => exact .inr (.inr ⟨42, by decide, rfl⟩)
    | 7 => exact .inr (.inr ⟨95, by decide, rfl⟩)
    | j + 8 => exact .inl rfl
  exact h _
theorem itemsOf_it8 (x : Int) : (∀ i ∈ itemsOf x, it8 i) ∧ (itemsOf x).length = 5 := by
  refine ⟨fun i hi => ?_, by unfold itemsOf; rw [List.length_map, List.length_range]⟩
  obtain ⟨k, _, rfl⟩ := List.mem_map.mp hi
  exact itemAt_it8 x k
end Mine
set_option maxRecDepth 10000
namespace Mine
open PySem PySem.W PyProof.Rows PySem.Calls PySem.Spec
theorem T_inj {a b : List Nat} (e : T a = T b) : a = b := by
  have := congrArg (fun s : Str => s.cps.toList) e
  simpa using this
theorem ltCps_lt : ∀ (a b : List Nat), decide (a < b) = ltCps a b
  | [], [] => by unfold ltCps; simp
  | [], b :: t => by unfold ltCps; simp
  | a :: r, [] => by unfold ltCps; simp
  | a :: r, b :: t => by
    unfold ltCps
    rw [Bool.eq_iff_iff, decide_eq_true_eq, List.cons_lt_cons_iff, Bool.or_eq_true, Bool.and_eq_true, decide_eq_true_eq, beq_iff_eq, ← ltCps_lt r t, decide_eq_true_eq]
theorem ltS_T (a b : List Nat) : ltS (T a) (T b) = ltCps a b := ltCps_lt a b
theorem lt_irr (a : List Nat) : ltCps a a = false := by
  cases h : ltCps a a with
  | false => rfl
  | true => have := ltCps_asymm _ _ h; rw [h] at this; cases this
theorem lt_ne {a b : List Nat} (h : ltCps a b = true) : a ≠ b := by rintro rfl; rw [lt_irr] at h; cases h
theorem beq_ne {a b : List Nat} (h : a ≠ b) : (T a == T b) = false := by rw [beqT, beq_eq_false_iff_ne]; exact h
theorem dw_ne {l : List (List Nat)} {e : List Nat} (h : ∀ x ∈ l, x ≠ e) : (l.map T).dropWhile (· == T e) = l.map T := by
  cases l with
  | nil => rfl
  | cons x r =>
    show ((T x :: r.map T).dropWhile _) = _
    rw [List.dropWhile_cons, beq_ne (h x (.head _))]
    rfl
theorem dw_eq {l : List (List Nat)} {e : List Nat} (h : ∀ x ∈ l, x ≠ e) : ((e :: l).map T).dropWhile (· == T e) = l.map T := by
  show ((T e :: l.map T).dropWhile _) = _
  rw [List.dropWhile_cons, beq_self_eq_true, if_pos rfl]
  exact dw_ne h
theorem ninB_iff {l : List (List Nat)} {x : List Nat} : ninB l x = true ↔ x ∉ l := by
  unfold ninB
  rw [Bool.not_eq_true', List.any_eq_false]
  constructor
  · intro h hx
    have := h (T x) (List.mem_map_of_mem hx)
    simp at this
  · intro h y hy e
    obtain ⟨z, hz, rfl⟩ := List.mem_map.mp hy
    rw [beqT, beq_iff_eq] at e
    exact h (e ▸ hz)
theorem only_pos {e : List Nat} {E B : List (List Nat)} (h : e ∉ B) : only (e :: E) B = e :: only E B := by
  unfold only; rw [List.filter_cons, if_pos (ninB_iff.mpr h)]
theorem only_neg {e : List Nat} {E B : List (List Nat)} (h : e ∈ B) : only (e :: E) B = only E B := by
  unfold only; rw [List.filter_cons, if_neg fun q => ninB_iff.mp q h]
theorem only_skip {e : List Nat} {E B : List (List Nat)} (h : e ∉ B) : only B (e :: E) = only B E := by
  unfold only
  refine List.filter_congr fun x hx => ?_
  rw [Bool.eq_iff_iff, ninB_iff, ninB_iff, List.mem_cons]
  have : x ≠ e := fun q => h (q ▸ hx)
  simp [this]
theorem only_nil (B : List (List Nat)) : only B [] = B := List.filter_eq_self.mpr fun x _ => ninB_iff.mpr (List.not_mem_nil)
noncomputable abbrev SS (l : List (List Nat)) : Prop := l.Pairwise fun a b => ltCps a b = true
theorem ss_not {a : List Nat} {l : List (List Nat)} {e : List Nat} (h : SS (a :: l)) (he : ltCps e a = true) : e ∉ a :: l := by
  intro hm
  rcases List.mem_cons.mp hm with rfl | hm
  · exact lt_ne he rfl
  · exact lt_ne (ltCps_trans _ _ _ he ((List.pairwise_cons.mp h).1 e hm)) rfl
theorem ss_tail {a : List Nat} {l : List (List Nat)} (h : SS (a :: l)) : ∀ x ∈ l, x ≠ a := fun x hx => (lt_ne ((List.pairwise_cons.mp h).1 x hx)).symm
theorem sld_nil (f : Nat) (A : List Str) : sld f [] A = ([], A) := by cases f <;> rfl
theorem sld_nil2 (f : Nat) (A : List Str) : sld f A [] = (A, []) := by
  cases f with
  | zero => rfl
  | succ f => cases A <;> rfl
theorem sld_strict : ∀ (f : Nat) (A B : List (List Nat)), SS A → SS B → A.length + B.length ≤ f → sld f (A.map T) (B.map T) = ((only A B).map T, (only B A).map T)
  | f, [], B, _, _, _ => by
    rw [only_nil]
    exact sld_nil f _
  | f, e :: E, [], _, _, _ => by
    rw [only_nil]
    exact sld_nil2 f _
  | 0, _ :: _, _ :: _, _, _, h => by simp at h
  | f + 1, e :: E, a :: A, hE, hA, h => by
    have tE := (List.pairwise_cons.mp hE).2
    have tA := (List.pairwise_cons.mp hA).2
    have nE := ss_tail hE
    have nA := ss_tail hA
    simp only [List.length_cons] at h
    have ih1 := sld_strict f E (a :: A) tE hA (by simp only [List.length_cons]; lia)
    have ih2 := sld_strict f (e :: E) A hE tA (by simp only [List.length_cons]; lia)
    have ih3 := sld_strict f E A tE tA (by lia)
    show sld (f + 1) (T e :: E.map T) (T a :: A.map T) = _
    rw [sld_cons, ltS_T, ltS_T, dw_ne nE, dw_ne nA]
    cases h1 : ltCps e a with
    | true =>
      rw [if_pos rfl]
      show (T e :: (sld f (E.map T) ((a :: A).map T)).1, (sld f (E.map T) ((a :: A).map T)).2) = _
      rw [ih1, only_pos (ss_not hA h1), only_skip (ss_not hA h1)]
      rfl
    | false =>
      rw [if_neg (by decide)]
      cases h2 : ltCps a e with
      | true =>
        rw [if_pos rfl]
        show ((sld f ((e :: E).map T) (A.map T)).1, T a :: (sld f ((e :: E).map T) (A.map T)).2) = _
        rw [ih2, only_pos (e := a) (ss_not hE h2), only_skip (e := a) (ss_not hE h2)]
        rfl
      | false =>
        rw [if_neg (by decide)]
        obtain rfl := ltCps_total _ _ h1 h2
        rw [ih3, only_neg (e := e) (List.mem_cons_self ..), only_neg (e := e) (List.mem_cons_self ..), only_skip fun q => nE e q rfl, only_skip fun q => nA e q rfl]
noncomputable def dbl (l : List (List Nat)) : List (List Nat) := (l.map fun x => [x, x]).flatten
theorem dbl_cons (x : List Nat) (l : List (List Nat)) : dbl (x :: l) = x :: x :: dbl l := by unfold dbl; rw [List.map_cons, List.flatten_cons]; rfl
theorem mem_dbl {x : List Nat} : ∀ {l : List (List Nat)}, x ∈ dbl l ↔ x ∈ l
  | [] => by simp [dbl]
  | y :: l => by rw [dbl_cons, List.mem_cons, List.mem_cons, mem_dbl, List.mem_cons, ← or_assoc, or_self]
theorem dbl_perm : ∀ (l : List (List Nat)), (dbl l).Perm (l ++ l)
  | [] => .refl _
  | y :: l => by
    rw [dbl_cons, List.cons_append]
    refine .cons _ ?_
    exact ((dbl_perm l).cons y).trans (List.perm_middle.symm)
theorem sld_dbl (z : List Nat) : ∀ (f : Nat) (A B : List (List Nat)), SS A → SS B → (∀ x ∈ A, ltCps x z = true) → (∀ x ∈ B, ltCps x z = true) → A.length + B.length + 1 ≤ f → sld f ((dbl A ++ [z]).map T) ((B ++ [z]).map T) = ((only A B).map T, (only B A).map T)
  | 0, _, _, _, _, _, _, h => by simp at h
  | f + 1, [], [], _, _, _, _, _ => by
    show sld (f + 1) [T z] [T z] = _
    rw [sld_cons, ltS_T, lt_irr]
    exact sld_nil f _
  | f + 1, [], a :: A, _, hA, zE, zA, h => by
    have tA := (List.pairwise_cons.mp hA).2
    have nA := ss_tail hA
    have za := zA a (.head _)
    have ih := sld_dbl z f [] A .nil tA (by simp) (fun x hx => zA x (.tail _ hx)) (by simp only [List.length_cons] at h; lia)
    show sld (f + 1) [T z] (T a :: (A ++ [z]).map T) = _
    rw [sld_cons, ltS_T, ltS_T, ltCps_asymm _ _ za, za, if_neg (by decide), if_pos rfl, dw_ne (e := a) fun x hx => (by
      rcases List.mem_append.mp hx with hx | hx
      · exact nA x hx
      · rw [List.mem_singleton.mp hx]; exact (lt_ne za).symm)]
    show ((sld f ((dbl [] ++ [z]).map T) ((A ++ [z]).map T)).1, T a :: (sld f ((dbl [] ++ [z]).map T) ((A ++ [z]).map T)).2) = _
    rw [ih, only_nil, only_nil]
    rfl
  | f + 1, e :: E, [], hE, _, zE, zA, h => by
    have tE := (List.pairwise_cons.mp hE).2
    have nE := ss_tail hE
    have ze := zE e (.head _)
    have ih := sld_dbl z f E [] tE .nil (fun x hx => zE x (.tail _ hx)) (by simp) (by simp only [List.length_cons] at h; lia)
    have nz : ∀ x ∈ dbl E ++ [z], x ≠ e := fun x hx => by
      rcases List.mem_append.mp hx with hx | hx
      · exact nE x (mem_dbl.mp hx)
      · rw [List.mem_singleton.mp hx]; exact (lt_ne ze).symm
    rw [dbl_cons]
    show sld (f + 1) (T e :: (e :: (dbl E ++ [z])).map T) [T z] = _
    rw [sld_cons, ltS_T, ze, if_pos rfl, dw_eq nz]
    show (T e :: (sld f ((dbl E ++ [z]).map T) (([] ++ [z]).map T)).1, (sld f ((dbl E ++ [z]).map T) (([] ++ [z]).map T)).2) = _
    rw [ih, only_nil, only_nil]
    rfl
  | f + 1, e :: E, a :: A, hE, hA, zE, zA, h => by
    have tE := (List.pairwise_cons.mp hE).2
    have tA := (List.pairwise_cons.mp hA).2
    have nE := ss_tail hE
    have nA := ss_tail hA
    have ze := zE e (.head _)
    have za := zA a (.head _)
    simp only [List.length_cons] at h
    have zE' := fun x hx => zE x (.tail _ hx)
    have zA' := fun x hx => zA x (.tail _ hx)
    have ih1 := sld_dbl z f E (a :: A) tE hA zE' zA (by simp only [List.length_cons]; lia)
    have ih2 := sld_dbl z f (e :: E) A hE tA zE zA' (by simp only [List.length_cons]; lia)
    have ih3 := sld_dbl z f E A tE tA zE' zA' (by lia)
    have nz : ∀ x ∈ dbl E ++ [z], x ≠ e := fun x hx => by
      rcases List.mem_append.mp hx with hx | hx
      · exact nE x (mem_dbl.mp hx)
      · rw [List.mem_singleton.mp hx]; exact (lt_ne ze).symm
    have nz' : ∀ x ∈ A ++ [z], x ≠ a := fun x hx => by
      rcases List.mem_append.mp hx with hx | hx
      · exact nA x hx
      · rw [List.mem_singleton.mp hx]; exact (lt_ne za).symm
    rw [dbl_cons]
    show sld (f + 1) (T e :: (e :: (dbl E ++ [z])).map T) (T a :: (A ++ [z]).map T) = _
    rw [sld_cons, ltS_T, ltS_T, dw_eq nz, dw_ne nz']
    cases h1 : ltCps e a with
    | true =>
      rw [if_pos rfl]
      show (T e :: (sld f ((dbl E ++ [z]).map T) ((a :: A ++ [z]).map T)).1, (sld f ((dbl E ++ [z]).map T) ((a :: A ++ [z]).map T)).2) = _
      rw [ih1, only_pos (ss_not hA h1), only_skip (ss_not hA h1)]
      rfl
    | false =>
      rw [if_neg (by decide)]
      cases h2 : ltCps a e with
      | true =>
        rw [if_pos rfl]
        have ih2' : sld f (T e :: (e :: (dbl E ++ [z])).map T) ((A ++ [z]).map T) = ((only (e :: E) A).map T, (only A (e :: E)).map T) := by rw [dbl_cons] at ih2; exact ih2
        rw [ih2', only_pos (e := a) (ss_not hE h2), only_skip (e := a) (ss_not hE h2)]
        rfl
      | false =>
        rw [if_neg (by decide)]
        obtain rfl := ltCps_total _ _ h1 h2
        rw [ih3, only_neg (e := e) (List.mem_cons_self ..), only_neg (e := e) (List.mem_cons_self ..), only_skip fun q => nE e q rfl, only_skip fun q => nA e q rfl]
end Mine
set_option maxRecDepth 10000
namespace Mine
open PySem PySem.W PyProof.Rows PySem.Calls PySem.Spec
noncomputable abbrev OS (l : List (List Nat)) : Prop := l.Pairwise fun a b => ltCps b a = false
theorem sl_os (l : List (List Nat)) : OS (sl l) := by
  have := srt_pair (l.map T)
  rw [← sl_T, List.pairwise_map] at this
  refine this.imp fun h => ?_
  simpa [leS] using h
theorem sl_perm (l : List (List Nat)) : (sl l).Perm l := by
  have := (srt_perm (l.map T)).map fun x : Str => x.cps.toList
  rw [List.map_map] at this
  have e : ((fun x : Str => x.cps.toList) ∘ T) = id := by funext x; simp
  rw [e, List.map_id] at this
  exact this
theorem sl_uniq {l m : List (List Nat)} (hp : m.Perm l) (hs : OS m) : m.map T = (sl l).map T := by
  rw [sl_T]
  refine srt_eq (hp.map T) ?_
  rw [List.pairwise_map]
  refine hs.imp fun h => ?_
  simp [leS, h]
theorem map_T_inj : ∀ {l m : List (List Nat)}, l.map T = m.map T → l = m
  | [], [], _ => rfl
  | [], _ :: _, h => by cases h
  | _ :: _, [], h => by cases h
  | a :: l, b :: m, h => by
    rw [List.map_cons, List.map_cons] at h
    have := List.cons.inj h
    rw [T_inj this.1, map_T_inj this.2]
theorem sl_ss {l : List (List Nat)} (h : l.Nodup) : SS (sl l) := by
  have nd : (sl l).Nodup := (sl_perm l).nodup_iff.mpr h
  refine ((sl_os l).and nd).imp fun {a b} hab => ?_
  cases q : ltCps a b with
  | true => rfl
  | false => exact absurd (ltCps_total _ _ q hab.1) hab.2
theorem dbl_os : ∀ {l : List (List Nat)}, SS l → OS (dbl l)
  | [], _ => by unfold dbl; exact .nil
  | x :: l, h => by
    have h1 : ∀ y ∈ dbl l, ltCps y x = false := fun y hy => ltCps_asymm _ _ ((List.pairwise_cons.mp h).1 y (mem_dbl.mp hy))
    rw [dbl_cons]
    refine .cons (fun y hy => ?_) (.cons h1 (dbl_os (List.pairwise_cons.mp h).2))
    rcases List.mem_cons.mp hy with rfl | hy
    · exact lt_irr _
    · exact h1 y hy
theorem sl_dbl {l : List (List Nat)} (h : SS l) : (sl (l ++ l)).map T = (dbl l).map T := (sl_uniq (dbl_perm l) (dbl_os h)).symm
theorem hx_lt2 : ∀ a < 16, ∀ b < 16, (hx a < hx b ↔ a < b) := by decide
theorem fig_lt : ∀ (a b : List Nat), (∀ c ∈ a, c < 256) → (∀ c ∈ b, c < 256) → ltCps (fig a) (fig b) = ltCps a b
  | [], [], _, _ => rfl
  | [], b :: t, _, _ => by rw [fig_cons]; rfl
  | a :: r, [], _, _ => by rw [fig_cons]; rfl
  | a :: r, b :: t, ha, hb => by
    have ih := fig_lt r t (fun c hc => ha c (.tail _ hc)) fun c hc => hb c (.tail _ hc)
    have a1 := ha a (.head _)
    have b1 := hb b (.head _)
    rw [fig_cons, fig_cons]
    simp only [ltCps]
    rw [ih]
    generalize ltCps r t = z
    have h1 := hx_lt2 (a / 16) (by lia) (b / 16) (by lia)
    have h2 := hx_lt2 (a % 16) (by lia) (b % 16) (by lia)
    have e1 := hx_inj (a / 16) (by lia) (b / 16) (by lia)
    have e2 := hx_inj (a % 16) (by lia) (b % 16) (by lia)
    rw [Bool.eq_iff_iff]
    simp only [Bool.or_eq_true, Bool.and_eq_true, decide_eq_true_eq, beq_iff_eq]
    rw [h1, h2]
    constructor
    · rintro (h | ⟨_, h | ⟨h, h' | ⟨h', h''⟩⟩⟩)
      · lia
      · left; lia
      · have := e1 h; left; lia
      · have := e1 h; have := e2 h'; right; exact ⟨by lia, h''⟩
    · rintro (h | ⟨rfl, h⟩)
      · by_cases q : a / 16 < b / 16
        · exact .inr ⟨trivial, .inl q⟩
        · have : a / 16 = b / 16 := by lia
          exact .inr ⟨trivial, .inr ⟨by rw [this], .inl (by lia)⟩⟩
      · exact .inr ⟨trivial, .inr ⟨rfl, .inr ⟨rfl, h⟩⟩⟩
theorem fig_inj {a b : List Nat} (ha : ∀ c ∈ a, c < 256) (hb : ∀ c ∈ b, c < 256) (e : fig a = fig b) : a = b := by
  have h1 := fig_lt a b ha hb
  have h2 := fig_lt b a hb ha
  rw [e, lt_irr] at h1 h2
  exact ltCps_total _ _ h1.symm h2.symm
noncomputable abbrev B256 (l : List (List Nat)) : Prop := ∀ n ∈ l, ∀ c ∈ n, c < 256
theorem fig_pair {R : Bool} {l : List (List Nat)} (hb : B256 l) {d : Bool} (h : l.Pairwise fun a b => ltCps (if d then a else b) (if d then b else a) = R) : (l.map fig).Pairwise fun a b => ltCps (if d then a else b) (if d then b else a) = R := by
  rw [List.pairwise_map]
  refine (List.Pairwise.and_mem.mp h).imp fun {a b} hab => ?_
  obtain ⟨ha, hb', h⟩ := hab
  cases d
  · exact (fig_lt b a (hb b hb') (hb a ha)).trans h
  · exact (fig_lt a b (hb a ha) (hb b hb')).trans h
theorem fig_ss {l : List (List Nat)} (hb : B256 l) (h : SS l) : SS (l.map fig) := fig_pair (d := true) hb h
theorem fig_os {l : List (List Nat)} (hb : B256 l) (h : OS l) : OS (l.map fig) := fig_pair (d := false) hb h
theorem sl_fig {l : List (List Nat)} (hb : B256 l) : sl (l.map fig) = (sl l).map fig :=
  map_T_inj (sl_uniq ((sl_perm l).map fig) (fig_os (fun n hn => hb n (sl_mem.mp hn)) (sl_os l))).symm
theorem only_fig {a b : List (List Nat)} (ha : B256 a) (hb : B256 b) : only (a.map fig) (b.map fig) = (only a b).map fig := by
  unfold only
  rw [List.filter_map]
  congr 1
  refine List.filter_congr fun x hx => ?_
  rw [Function.comp, Bool.eq_iff_iff, ninB_iff, ninB_iff]
  refine not_congr ?_
  constructor
  · intro h
    obtain ⟨y, hy, e⟩ := List.mem_map.mp h
    exact fig_inj (hb y hy) (ha x hx) e ▸ hy
  · exact List.mem_map_of_mem
theorem names_nodup (d : List (List Nat)) : (namesOf d).Nodup := by
  unfold namesOf
  rw [List.Nodup, List.pairwise_map]
  refine (List.Pairwise.and_mem.mp ((List.pairwise_lt_range (n := d.length)).filter _)).imp fun {i j} h => ?_
  obtain ⟨hi, hj, hlt⟩ := h
  obtain ⟨hj1, hj2⟩ := List.mem_filter.mp hj
  have hj1 := List.mem_range.mp hj1
  intro e
  refine ninB_iff.mp hj2 ?_
  rw [← e, List.getD_eq_getElem?_getD, List.getElem?_eq_getElem (by lia)]
  show d[i] ∈ _
  have : d[i] = (d.take j)[i]'(by rw [List.length_take]; lia) := by rw [List.getElem_take]
  rw [this]
  exact List.getElem_mem _
theorem names_sub {d : List (List Nat)} {n : List Nat} (h : n ∈ namesOf d) : n ∈ d := by
  obtain ⟨k, hk, rfl⟩ := List.mem_map.mp h
  have := List.mem_range.mp (List.mem_filter.mp hk).1
  rw [List.getD_eq_getElem?_getD, List.getElem?_eq_getElem this]
  exact List.getElem_mem _
theorem names_len (d : List (List Nat)) : (namesOf d).length ≤ d.length := by
  unfold namesOf
  rw [List.length_map]
  have := List.length_filter_le (fun k => ninB (d.take k) (d.getD k [])) (List.range d.length)
  rwa [List.length_range] at this
theorem nameSign_lt (x : Int) (k : Nat) : nameSign x k < 255 := by
  have h : ∀ j, sign7.getD j 0 < 255 := by
    intro j
    match j with
    | 0 => decide
    | 1 => decide
    | 2 => decide
    | 3 => decide
    | 4 => decide
    | 5 => decide
    | 6 => decide
    | j + 7 => show 0 < 255; decide
  exact h _
theorem drawn_ok (ns : List Int) : (drawnOf ns).length ≤ 13 ∧ ∀ n ∈ drawnOf ns, n.length < 100 ∧ ∀ c ∈ n, c < 255 := by
  refine ⟨?_, fun n hn => ?_⟩
  · unfold drawnOf
    rw [List.length_append, List.length_map, List.length_range]
    show _ + 10 ≤ 13
    lia
  · rcases List.mem_append.mp hn with hn | hn
    · obtain ⟨k, _, rfl⟩ := List.mem_map.mp hn
      generalize (lpick ns _ _ _).sum = x
      refine ⟨?_, fun c hc => ?_⟩
      · unfold nameOf
        rw [List.length_map, List.length_range]
        have := Int.fmod_lt_of_pos x (show (0 : Int) < 5 by decide)
        lia
      · obtain ⟨k, _, rfl⟩ := List.mem_map.mp hc
        exact nameSign_lt _ _
    · have h : ∀ n ∈ fixed10, n.length < 100 ∧ ∀ c ∈ n, c < 255 := by decide
      exact h n hn
theorem facts {ok : Nat → Prop} (hok : ∀ c ∈ plains, ok c) (ns : List Int) : Facts ok (nmOf ns) (row0 ns) (row1 ns) := by
  obtain ⟨dl, dn⟩ := drawn_ok ns
  have nl := names_len (drawnOf ns)
  have nn : ∀ n ∈ nmOf ns, n.length < 100 ∧ ∀ c ∈ n, c < 255 := fun n hn => dn n (names_sub hn)
  have b256 : B256 (nmOf ns) := fun n hn c hc => by have := (nn n hn).2 c hc; lia
  have r8 : ∀ it ∈ [row0 ns, row1 ns], (∀ i ∈ it, it8 i) ∧ it.length = 5 := by
    intro it hit
    rcases List.mem_cons.mp hit with rfl | hit
    · exact itemsOf_it8 _
    · rw [List.mem_singleton.mp hit]; exact itemsOf_it8 _
  have nd : (nmOf ns).Nodup := names_nodup _
  have dss : ∀ it, SS (dueOf (nmOf ns) it) := fun it => sl_ss (nd.filter _)
  have dsub : ∀ it, ∀ n ∈ dueOf (nmOf ns) it, n ∈ nmOf ns := fun it n hn => (List.mem_filter.mp (sl_mem.mp hn)).1
  have db : ∀ it, B256 (dueOf (nmOf ns) it) := fun it n hn => b256 n (dsub it n hn)
  have dz : ∀ it, ∀ n ∈ dueOf (nmOf ns) it, ltCps n [255] = true := fun it n hn => by
    have h := (nn n (dsub it n hn)).2
    cases n with
    | nil => rfl
    | cons c r =>
      have := h c (.head _)
      unfold ltCps
      rw [Bool.or_eq_true, decide_eq_true_eq]
      exact .inl this
  refine ⟨by show (namesOf (drawnOf ns)).length < 31; lia, fun n hn => ⟨(nn n hn).1, b256 n hn⟩, fun it hit wr => pat_ok hok (r8 it hit).1 (r8 it hit).2 wr, fun it hit => ?_, fun it hit => ?_, ?_, ?_, ?_⟩
  · exact List.filter_congr fun n _ => fact1 n it (r8 it hit).1
  · have e : ((nmOf ns).map fig).filter (fitsF (prt true it)) = ((nmOf ns).filter (triedF it)).map fig := by
      rw [List.filter_map]
      congr 1
      exact List.filter_congr fun n hn => fact2 n (b256 n hn) it (r8 it hit).1
    rw [e, sl_fig fun n hn => b256 n (List.mem_filter.mp hn).1]
    rfl
  · exact sld_strict _ _ _ (dss _) (dss _) (Nat.le_refl _)
  · have e : (sl (dueOf (nmOf ns) (row0 ns) ++ dueOf (nmOf ns) (row0 ns)) ++ [[255]]).map T = (dbl (dueOf (nmOf ns) (row0 ns)) ++ [[255]]).map T := by
      rw [List.map_append, sl_dbl (dss _), List.map_append]
    rw [e]
    refine sld_dbl _ _ _ _ (dss _) (dss _) (dz _) (dz _) ?_
    simp only [List.length_append, sl_length, List.length_cons, List.length_nil]
    lia
  · rw [← only_fig (db _) (db _), ← only_fig (db _) (db _)]
    refine sld_strict _ _ _ (fig_ss (db _) (dss _)) (fig_ss (db _) (dss _)) (Nat.le_refl _)
end Mine
set_option maxRecDepth 100000
namespace Mine
open PySem PySem.W PyProof.Rows PySem.Calls PySem.Spec
noncomputable abbrev S (l : List Nat) : Str := ⟨⟨l⟩⟩
noncomputable def t0 : Str := S [95, 95, 110, 97, 109, 101, 95, 95]
noncomputable def t1 : Str := S [98, 117, 105, 108, 116, 105, 110, 115]
noncomputable def t2 : Str := S [95, 95, 100, 111, 99, 95, 95]
noncomputable def t3 : Str := S [95, 95, 112, 97, 99, 107, 97, 103, 101, 95, 95]
noncomputable def t4 : Str := S [95, 95, 108, 111, 97, 100, 101, 114, 95, 95]
noncomputable def t5 : Str := S [95, 95, 115, 112, 101, 99, 95, 95]
noncomputable def t6 : Str := S [95, 95, 98, 117, 105, 108, 100, 95, 99, 108, 97, 115, 115, 95, 95]
noncomputable def t7 : Str := S [95, 95, 105, 109, 112, 111, 114, 116, 95, 95]
noncomputable def t8 : Str := S [97, 98, 115]
noncomputable def t9 : Str := S [97, 108, 108]
noncomputable def t10 : Str := S [97, 110, 121]
noncomputable def t11 : Str := S [97, 115, 99, 105, 105]
noncomputable def t12 : Str := S [98, 105, 110]
noncomputable def t13 : Str := S [98, 114, 101, 97, 107, 112, 111, 105, 110, 116]
noncomputable def t14 : Str := S [99, 97, 108, 108, 97, 98, 108, 101]
noncomputable def t15 : Str := S [99, 104, 114]
noncomputable def t16 : Str := S [99, 111, 109, 112, 105, 108, 101]
noncomputable def t17 : Str := S [100, 101, 108, 97, 116, 116, 114]
noncomputable def t18 : Str := S [100, 105, 114]
noncomputable def t19 : Str := S [100, 105, 118, 109, 111, 100]
noncomputable def t20 : Str := S [101, 118, 97, 108]
noncomputable def t21 : Str := S [101, 120, 101, 99]
noncomputable def t22 : Str := S [102, 111, 114, 109, 97, 116]
noncomputable def t23 : Str := S [103, 101, 116, 97, 116, 116, 114]
noncomputable def t24 : Str := S [103, 108, 111, 98, 97, 108, 115]
noncomputable def t25 : Str := S [104, 97, 115, 97, 116, 116, 114]
noncomputable def t26 : Str := S [104, 97, 115, 104]
noncomputable def t27 : Str := S [104, 101, 120]
noncomputable def t28 : Str := S [105, 100]
noncomputable def t29 : Str := S [105, 110, 112, 117, 116]
noncomputable def t30 : Str := S [105, 115, 105, 110, 115, 116, 97, 110, 99, 101]
noncomputable def t31 : Str := S [105, 115, 115, 117, 98, 99, 108, 97, 115, 115]
noncomputable def t32 : Str := S [105, 116, 101, 114]
noncomputable def t33 : Str := S [97, 105, 116, 101, 114]
noncomputable def t34 : Str := S [108, 101, 110]
noncomputable def t35 : Str := S [108, 111, 99, 97, 108, 115]
noncomputable def t36 : Str := S [109, 97, 120]
noncomputable def t37 : Str := S [109, 105, 110]
noncomputable def t38 : Str := S [110, 101, 120, 116]
noncomputable def t39 : Str := S [97, 110, 101, 120, 116]
noncomputable def t40 : Str := S [111, 99, 116]
noncomputable def t41 : Str := S [111, 114, 100]
noncomputable def t42 : Str := S [112, 111, 119]
noncomputable def t43 : Str := S [112, 114, 105, 110, 116]
noncomputable def t44 : Str := S [114, 101, 112, 114]
noncomputable def t45 : Str := S [114, 111, 117, 110, 100]
noncomputable def t46 : Str := S [115, 101, 116, 97, 116, 116, 114]
noncomputable def t47 : Str := S [115, 111, 114, 116, 101, 100]
noncomputable def t48 : Str := S [115, 117, 109]
noncomputable def t49 : Str := S [118, 97, 114, 115]
noncomputable def t50 : Str := S [78, 111, 110, 101]
noncomputable def t51 : Str := S [69, 108, 108, 105, 112, 115, 105, 115]
noncomputable def t52 : Str := S [78, 111, 116, 73, 109, 112, 108, 101, 109, 101, 110, 116, 101, 100]
noncomputable def t53 : Str := S [70, 97, 108, 115, 101]
noncomputable def t54 : Str := S [84, 114, 117, 101]
noncomputable def t55 : Str := S [98, 111, 111, 108]
noncomputable def t56 : Str := S [109, 101, 109, 111, 114, 121, 118, 105, 101, 119]
noncomputable def t57 : Str := S [98, 121, 116, 101, 97, 114, 114, 97, 121]
noncomputable def t58 : Str := S [98, 121, 116, 101, 115]
noncomputable def t59 : Str := S [99, 108, 97, 115, 115, 109, 101, 116, 104, 111, 100]
noncomputable def t60 : Str := S [99, 111, 109, 112, 108, 101, 120]
noncomputable def t61 : Str := S [100, 105, 99, 116]
noncomputable def t62 : Str := S [101, 110, 117, 109, 101, 114, 97, 116, 101]
noncomputable def t63 : Str := S [102, 105, 108, 116, 101, 114]
noncomputable def t64 : Str := S [102, 108, 111, 97, 116]
noncomputable def t65 : Str := S [102, 114, 111, 122, 101, 110, 115, 101, 116]
noncomputable def t66 : Str := S [112, 114, 111, 112, 101, 114, 116, 121]
noncomputable def t67 : Str := S [105, 110, 116]
noncomputable def t68 : Str := S [108, 105, 115, 116]
noncomputable def t69 : Str := S [109, 97, 112]
noncomputable def t70 : Str := S [111, 98, 106, 101, 99, 116]
noncomputable def t71 : Str := S [114, 97, 110, 103, 101]
noncomputable def t72 : Str := S [114, 101, 118, 101, 114, 115, 101, 100]
noncomputable def t73 : Str := S [115, 101, 116]
noncomputable def t74 : Str := S [115, 108, 105, 99, 101]
noncomputable def t75 : Str := S [115, 116, 97, 116, 105, 99, 109, 101, 116, 104, 111, 100]
noncomputable def t76 : Str := S [115, 116, 114]
noncomputable def t77 : Str := S [115, 117, 112, 101, 114]
noncomputable def t78 : Str := S [116, 117, 112, 108, 101]
noncomputable def t79 : Str := S [116, 121, 112, 101]
noncomputable def t80 : Str := S [122, 105, 112]
noncomputable def t81 : Str := S [95, 95, 100, 101, 98, 117, 103, 95, 95]
noncomputable def t82 : Str := S [66, 97, 115, 101, 69, 120, 99, 101, 112, 116, 105, 111, 110]
noncomputable def t83 : Str := S [66, 97, 115, 101, 69, 120, 99, 101, 112, 116, 105, 111, 110, 71, 114, 111, 117, 112]
noncomputable def t84 : Str := S [69, 120, 99, 101, 112, 116, 105, 111, 110]
noncomputable def t85 : Str := S [71, 101, 110, 101, 114, 97, 116, 111, 114, 69, 120, 105, 116]
noncomputable def t86 : Str := S [75, 101, 121, 98, 111, 97, 114, 100, 73, 110, 116, 101, 114, 114, 117, 112, 116]
noncomputable def t87 : Str := S [83, 121, 115, 116, 101, 109, 69, 120, 105, 116]
noncomputable def t88 : Str := S [65, 114, 105, 116, 104, 109, 101, 116, 105, 99, 69, 114, 114, 111, 114]
noncomputable def t89 : Str := S [65, 115, 115, 101, 114, 116, 105, 111, 110, 69, 114, 114, 111, 114]
noncomputable def t90 : Str := S [65, 116, 116, 114, 105, 98, 117, 116, 101, 69, 114, 114, 111, 114]
noncomputable def t91 : Str := S [66, 117, 102, 102, 101, 114, 69, 114, 114, 111, 114]
noncomputable def t92 : Str := S [69, 79, 70, 69, 114, 114, 111, 114]
noncomputable def t93 : Str := S [73, 109, 112, 111, 114, 116, 69, 114, 114, 111, 114]
noncomputable def t94 : Str := S [76, 111, 111, 107, 117, 112, 69, 114, 114, 111, 114]
noncomputable def t95 : Str := S [77, 101, 109, 111, 114, 121, 69, 114, 114, 111, 114]
noncomputable def t96 : Str := S [78, 97, 109, 101, 69, 114, 114, 111, 114]
noncomputable def t97 : Str := S [79, 83, 69, 114, 114, 111, 114]
noncomputable def t98 : Str := S [82, 101, 102, 101, 114, 101, 110, 99, 101, 69, 114, 114, 111, 114]
noncomputable def t99 : Str := S [82, 117, 110, 116, 105, 109, 101, 69, 114, 114, 111, 114]
noncomputable def t100 : Str := S [83, 116, 111, 112, 65, 115, 121, 110, 99, 73, 116, 101, 114, 97, 116, 105, 111, 110]
noncomputable def t101 : Str := S [83, 116, 111, 112, 73, 116, 101, 114, 97, 116, 105, 111, 110]
noncomputable def t102 : Str := S [83, 121, 110, 116, 97, 120, 69, 114, 114, 111, 114]
noncomputable def t103 : Str := S [83, 121, 115, 116, 101, 109, 69, 114, 114, 111, 114]
noncomputable def t104 : Str := S [84, 121, 112, 101, 69, 114, 114, 111, 114]
noncomputable def t105 : Str := S [86, 97, 108, 117, 101, 69, 114, 114, 111, 114]
noncomputable def t106 : Str := S [87, 97, 114, 110, 105, 110, 103]
noncomputable def t107 : Str := S [70, 108, 111, 97, 116, 105, 110, 103, 80, 111, 105, 110, 116, 69, 114, 114, 111, 114]
noncomputable def t108 : Str := S [79, 118, 101, 114, 102, 108, 111, 119, 69, 114, 114, 111, 114]
noncomputable def t109 : Str := S [90, 101, 114, 111, 68, 105, 118, 105, 115, 105, 111, 110, 69, 114, 114, 111, 114]
noncomputable def t110 : Str := S [66, 121, 116, 101, 115, 87, 97, 114, 110, 105, 110, 103]
noncomputable def t111 : Str := S [68, 101, 112, 114, 101, 99, 97, 116, 105, 111, 110, 87, 97, 114, 110, 105, 110, 103]
noncomputable def t112 : Str := S [69, 110, 99, 111, 100, 105, 110, 103, 87, 97, 114, 110, 105, 110, 103]
noncomputable def t113 : Str := S [70, 117, 116, 117, 114, 101, 87, 97, 114, 110, 105, 110, 103]
noncomputable def t114 : Str := S [73, 109, 112, 111, 114, 116, 87, 97, 114, 110, 105, 110, 103]
noncomputable def t115 : Str := S [80, 101, 110, 100, 105, 110, 103, 68, 101, 112, 114, 101, 99, 97, 116, 105, 111, 110, 87, 97, 114, 110, 105, 110, 103]
noncomputable def t116 : Str := S [82, 101, 115, 111, 117, 114, 99, 101, 87, 97, 114, 110, 105, 110, 103]
noncomputable def t117 : Str := S [82, 117, 110, 116, 105, 109, 101, 87, 97, 114, 110, 105, 110, 103]
noncomputable def t118 : Str := S [83, 121, 110, 116, 97, 120, 87, 97, 114, 110, 105, 110, 103]
noncomputable def t119 : Str := S [85, 110, 105, 99, 111, 100, 101, 87, 97, 114, 110, 105, 110, 103]
noncomputable def t120 : Str := S [85, 115, 101, 114, 87, 97, 114, 110, 105, 110, 103]
noncomputable def t121 : Str := S [66, 108, 111, 99, 107, 105, 110, 103, 73, 79, 69, 114, 114, 111, 114]
noncomputable def t122 : Str := S [67, 104, 105, 108, 100, 80, 114, 111, 99, 101, 115, 115, 69, 114, 114, 111, 114]
noncomputable def t123 : Str := S [67, 111, 110, 110, 101, 99, 116, 105, 111, 110, 69, 114, 114, 111, 114]
noncomputable def t124 : Str := S [70, 105, 108, 101, 69, 120, 105, 115, 116, 115, 69, 114, 114, 111, 114]
noncomputable def t125 : Str := S [70, 105, 108, 101, 78, 111, 116, 70, 111, 117, 110, 100, 69, 114, 114, 111, 114]
noncomputable def t126 : Str := S [73, 110, 116, 101, 114, 114, 117, 112, 116, 101, 100, 69, 114, 114, 111, 114]
noncomputable def t127 : Str := S [73, 115, 65, 68, 105, 114, 101, 99, 116, 111, 114, 121, 69, 114, 114, 111, 114]
noncomputable def t128 : Str := S [78, 111, 116, 65, 68, 105, 114, 101, 99, 116, 111, 114, 121, 69, 114, 114, 111, 114]
noncomputable def t129 : Str := S [80, 101, 114, 109, 105, 115, 115, 105, 111, 110, 69, 114, 114, 111, 114]
noncomputable def t130 : Str := S [80, 114, 111, 99, 101, 115, 115, 76, 111, 111, 107, 117, 112, 69, 114, 114, 111, 114]
noncomputable def t131 : Str := S [84, 105, 109, 101, 111, 117, 116, 69, 114, 114, 111, 114]
noncomputable def t132 : Str := S [73, 110, 100, 101, 110, 116, 97, 116, 105, 111, 110, 69, 114, 114, 111, 114]
noncomputable def t133 : Str := S [95, 73, 110, 99, 111, 109, 112, 108, 101, 116, 101, 73, 110, 112, 117, 116, 69, 114, 114, 111, 114]
noncomputable def t134 : Str := S [73, 110, 100, 101, 120, 69, 114, 114, 111, 114]
noncomputable def t135 : Str := S [75, 101, 121, 69, 114, 114, 111, 114]
noncomputable def t136 : Str := S [77, 111, 100, 117, 108, 101, 78, 111, 116, 70, 111, 117, 110, 100, 69, 114, 114, 111, 114]
noncomputable def t137 : Str := S [78, 111, 116, 73, 109, 112, 108, 101, 109, 101, 110, 116, 101, 100, 69, 114, 114, 111, 114]
noncomputable def t138 : Str := S [80, 121, 116, 104, 111, 110, 70, 105, 110, 97, 108, 105, 122, 97, 116, 105, 111, 110, 69, 114, 114, 111, 114]
noncomputable def t139 : Str := S [82, 101, 99, 117, 114, 115, 105, 111, 110, 69, 114, 114, 111, 114]
noncomputable def t140 : Str := S [85, 110, 98, 111, 117, 110, 100, 76, 111, 99, 97, 108, 69, 114, 114, 111, 114]
noncomputable def t141 : Str := S [85, 110, 105, 99, 111, 100, 101, 69, 114, 114, 111, 114]
noncomputable def t142 : Str := S [66, 114, 111, 107, 101, 110, 80, 105, 112, 101, 69, 114, 114, 111, 114]
noncomputable def t143 : Str := S [67, 111, 110, 110, 101, 99, 116, 105, 111, 110, 65, 98, 111, 114, 116, 101, 100, 69, 114, 114, 111, 114]
noncomputable def t144 : Str := S [67, 111, 110, 110, 101, 99, 116, 105, 111, 110, 82, 101, 102, 117, 115, 101, 100, 69, 114, 114, 111, 114]
noncomputable def t145 : Str := S [67, 111, 110, 110, 101, 99, 116, 105, 111, 110, 82, 101, 115, 101, 116, 69, 114, 114, 111, 114]
noncomputable def t146 : Str := S [84, 97, 98, 69, 114, 114, 111, 114]
noncomputable def t147 : Str := S [85, 110, 105, 99, 111, 100, 101, 68, 101, 99, 111, 100, 101, 69, 114, 114, 111, 114]
noncomputable def t148 : Str := S [85, 110, 105, 99, 111, 100, 101, 69, 110, 99, 111, 100, 101, 69, 114, 114, 111, 114]
noncomputable def t149 : Str := S [85, 110, 105, 99, 111, 100, 101, 84, 114, 97, 110, 115, 108, 97, 116, 101, 69, 114, 114, 111, 114]
noncomputable def t150 : Str := S [69, 120, 99, 101, 112, 116, 105, 111, 110, 71, 114, 111, 117, 112]
noncomputable def t151 : Str := S [69, 110, 118, 105, 114, 111, 110, 109, 101, 110, 116, 69, 114, 114, 111, 114]
noncomputable def t152 : Str := S [73, 79, 69, 114, 114, 111, 114]
noncomputable def t153 : Str := S [111, 112, 101, 110]
noncomputable def t154 : Str := S [113, 117, 105, 116]
noncomputable def t155 : Str := S [101, 120, 105, 116]
noncomputable def t156 : Str := S [99, 111, 112, 121, 114, 105, 103, 104, 116]
noncomputable def t157 : Str := S [99, 114, 101, 100, 105, 116, 115]
noncomputable def t158 : Str := S [108, 105, 99, 101, 110, 115, 101]
noncomputable def t159 : Str := S [104, 101, 108, 112]
noncomputable def t160 : Str := S [95, 95, 109, 97, 105, 110, 95, 95]
noncomputable def t161 : Str := S [95, 115, 114, 101]
noncomputable def t162 : Str := S [105, 109, 112, 111, 114, 116, 46, 108, 111, 97, 100, 101, 100, 46, 95, 115, 114, 101]
noncomputable def t163 : Str := S [99, 108, 97, 115, 115, 46, 95, 102, 114, 111, 122, 101, 110, 95, 105, 109, 112, 111, 114, 116, 108, 105, 98, 46, 66, 117, 105, 108, 116, 105, 110, 73, 109, 112, 111, 114, 116, 101, 114]
noncomputable def t164 : Str := S [119, 97, 116, 99, 104, 101, 100, 46, 105, 109, 112, 111, 114, 116]
noncomputable def t165 : Str := S [99, 108, 97, 115, 115, 46, 95, 102, 114, 111, 122, 101, 110, 95, 105, 109, 112, 111, 114, 116, 108, 105, 98, 46, 77, 111, 100, 117, 108, 101, 83, 112, 101, 99]
noncomputable def t166 : Str := S [115, 121, 115, 46, 109, 111, 100, 117, 108, 101, 115, 46, 98, 111, 111, 107, 101, 100, 45, 101, 112, 111, 99, 104]
noncomputable def t167 : Str := S [105, 109, 112, 111, 114, 116, 46, 108, 97, 116, 101, 114, 45, 108, 97, 105, 100, 46, 95, 115, 114, 101]
noncomputable def t168 : Str := S [119, 97, 116, 99, 104, 101, 100, 46, 108, 105, 98, 114, 97, 114, 121]
noncomputable def t169 : Str := S [119, 97, 116, 99, 104, 101, 100, 46, 108, 105, 98, 114, 97, 114, 121, 45, 111, 98, 106, 101, 99, 116, 115]
noncomputable def t170 : Str := S [12]
noncomputable def t171 : Str := S [119, 97, 116, 99, 104, 101, 100, 46, 108, 105, 98, 114, 97, 114, 121, 45, 100, 101, 101, 112, 46, 95, 115, 114, 101]
noncomputable def t172 : Str := S [4, 0, 0, 11, 4, 0, 0, 11, 4, 0, 0, 3, 4, 0, 0, 11, 8, 4, 100, 105, 99, 116, 2]
noncomputable def t173 : Str := S [60, 109, 111, 100, 117, 108, 101, 62]
noncomputable def t174 : Str := S [47, 99, 108, 97, 105, 109, 47, 99, 117, 116, 46, 112, 121]
noncomputable def t175 : Str := S []
noncomputable def t176 : Str := S [116, 101, 109, 112, 108, 97, 116, 101]
noncomputable def t177 : Str := S [103, 101, 116, 99, 111, 100, 101, 115, 105, 122, 101]
noncomputable def t178 : Str := S [97, 115, 99, 105, 105, 95, 105, 115, 99, 97, 115, 101, 100]
noncomputable def t179 : Str := S [117, 110, 105, 99, 111, 100, 101, 95, 105, 115, 99, 97, 115, 101, 100]
noncomputable def t180 : Str := S [97, 115, 99, 105, 105, 95, 116, 111, 108, 111, 119, 101, 114]
noncomputable def t181 : Str := S [117, 110, 105, 99, 111, 100, 101, 95, 116, 111, 108, 111, 119, 101, 114]
noncomputable def t182 : Str := S [77, 65, 71, 73, 67]
noncomputable def t183 : Str := S [67, 79, 68, 69, 83, 73, 90, 69]
noncomputable def t184 : Str := S [77, 65, 88, 82, 69, 80, 69, 65, 84]
noncomputable def t185 : Str := S [77, 65, 88, 71, 82, 79, 85, 80, 83]
noncomputable def t186 : Str := S [32, 83, 82, 69, 32, 50, 46, 50, 46, 50, 32, 67, 111, 112, 121, 114, 105, 103, 104, 116, 32, 40, 99, 41, 32, 49, 57, 57, 55, 45, 50, 48, 48, 50, 32, 98, 121, 32, 83, 101, 99, 114, 101, 116, 32, 76, 97, 98, 115, 32, 65, 66, 32]
noncomputable def t187 : Str := S [95, 95, 109, 111, 100, 117, 108, 101, 95, 95]
noncomputable def t188 : Str := S [95, 102, 114, 111, 122, 101, 110, 95, 105, 109, 112, 111, 114, 116, 108, 105, 98]
noncomputable def t189 : Str := S [95, 95, 102, 105, 114, 115, 116, 108, 105, 110, 101, 110, 111, 95, 95]
noncomputable def t190 : Str := S [95, 79, 82, 73, 71, 73, 78]
noncomputable def t191 : Str := S [98, 117, 105, 108, 116, 45, 105, 110]
noncomputable def t192 : Str := S [102, 105, 110, 100, 95, 115, 112, 101, 99]
noncomputable def t193 : Str := S [99, 114, 101, 97, 116, 101, 95, 109, 111, 100, 117, 108, 101]
noncomputable def t194 : Str := S [101, 120, 101, 99, 95, 109, 111, 100, 117, 108, 101]
noncomputable def t195 : Str := S [103, 101, 116, 95, 99, 111, 100, 101]
noncomputable def t196 : Str := S [103, 101, 116, 95, 115, 111, 117, 114, 99, 101]
noncomputable def t197 : Str := S [105, 115, 95, 112, 97, 99, 107, 97, 103, 101]
noncomputable def t198 : Str := S [108, 111, 97, 100, 95, 109, 111, 100, 117, 108, 101]
noncomputable def t199 : Str := S [95, 95, 115, 116, 97, 116, 105, 99, 95, 97, 116, 116, 114, 105, 98, 117, 116, 101, 115, 95, 95]
noncomputable def t200 : Str := S [95, 95, 100, 105, 99, 116, 95, 95]
noncomputable def t201 : Str := S [95, 95, 119, 101, 97, 107, 114, 101, 102, 95, 95]
noncomputable def t202 : Str := S [66, 117, 105, 108, 116, 105, 110, 73, 109, 112, 111, 114, 116, 101, 114]
noncomputable def t203 : Str := S [6, 189, 10, 95, 95, 109, 111, 100, 117, 108, 101, 95, 95, 6, 186, 17, 95, 102, 114, 111, 122, 101, 110, 95, 105, 109, 112, 111, 114, 116, 108, 105, 98, 6, 190, 15, 95, 95, 102, 105, 114, 115, 116, 108, 105, 110, 101, 110, 111, 95, 95, 4, 187, 0, 971, 6, 191, 7, 95, 95, 100, 111, 99, 95, 95, 9, 52, 95, 102, 114, 111, 122, 101, 110, 95, 105, 109, 112, 111, 114, 116, 108, 105, 98, 46, 66, 117, 105, 108, 116, 105, 110, 73, 109, 112, 111, 114, 116, 101, 114, 46, 95, 95, 100, 111, 99, 95, 95, 58, 115, 116, 114, 35, 111, 112, 97, 113, 117, 101, 6, 192, 7, 95, 79, 82, 73, 71, 73, 78, 6, 188, 8, 98, 117, 105, 108, 116, 45, 105, 110, 6, 193, 9, 102, 105, 110, 100, 95, 115, 112, 101, 99, 9, 50, 95, 102, 114, 111, 122, 101, 110, 95, 105, 109, 112, 111, 114, 116, 108, 105, 98, 46, 66, 117, 105, 108, 116, 105, 110, 73, 109, 112, 111, 114, 116, 101, 114, 46, 102, 105, 110, 100, 95, 115, 112, 101, 99, 35, 111, 112, 97, 113, 117, 101, 6, 194, 13, 99, 114, 101, 97, 116, 101, 95, 109, 111, 100, 117, 108, 101, 9, 54, 95, 102, 114, 111, 122, 101, 110, 95, 105, 109, 112, 111, 114, 116, 108, 105, 98, 46, 66, 117, 105, 108, 116, 105, 110, 73, 109, 112, 111, 114, 116, 101, 114, 46, 99, 114, 101, 97, 116, 101, 95, 109, 111, 100, 117, 108, 101, 35, 111, 112, 97, 113, 117, 101, 6, 195, 11, 101, 120, 101, 99, 95, 109, 111, 100, 117, 108, 101, 9, 52, 95, 102, 114, 111, 122, 101, 110, 95, 105, 109, 112, 111, 114, 116, 108, 105, 98, 46, 66, 117, 105, 108, 116, 105, 110, 73, 109, 112, 111, 114, 116, 101, 114, 46, 101, 120, 101, 99, 95, 109, 111, 100, 117, 108, 101, 35, 111, 112, 97, 113, 117, 101, 6, 196, 8, 103, 101, 116, 95, 99, 111, 100, 101, 9, 49, 95, 102, 114, 111, 122, 101, 110, 95, 105, 109, 112, 111, 114, 116, 108, 105, 98, 46, 66, 117, 105, 108, 116, 105, 110, 73, 109, 112, 111, 114, 116, 101, 114, 46, 103, 101, 116, 95, 99, 111, 100, 101, 35, 111, 112, 97, 113, 117, 101, 6, 197, 10, 103, 101, 116, 95, 115, 111, 117, 114, 99, 101, 9, 51, 95, 102, 114, 111, 122, 101, 110, 95, 105, 109, 112, 111, 114, 116, 108, 105, 98, 46, 66, 117, 105, 108, 116, 105, 110, 73, 109, 112, 111, 114, 116, 101, 114, 46, 103, 101, 116, 95, 115, 111, 117, 114, 99, 101, 35, 111, 112, 97, 113, 117, 101, 6, 198, 10, 105, 115, 95, 112, 97, 99, 107, 97, 103, 101, 9, 51, 95, 102, 114, 111, 122, 101, 110, 95, 105, 109, 112, 111, 114, 116, 108, 105, 98, 46, 66, 117, 105, 108, 116, 105, 110, 73, 109, 112, 111, 114, 116, 101, 114, 46, 105, 115, 95, 112, 97, 99, 107, 97, 103, 101, 35, 111, 112, 97, 113, 117, 101, 6, 199, 11, 108, 111, 97, 100, 95, 109, 111, 100, 117, 108, 101, 9, 52, 95, 102, 114, 111, 122, 101, 110, 95, 105, 109, 112, 111, 114, 116, 108, 105, 98, 46, 66, 117, 105, 108, 116, 105, 110, 73, 109, 112, 111, 114, 116, 101, 114, 46, 108, 111, 97, 100, 95, 109, 111, 100, 117, 108, 101, 35, 111, 112, 97, 113, 117, 101, 6, 200, 21, 95, 95, 115, 116, 97, 116, 105, 99, 95, 97, 116, 116, 114, 105, 98, 117, 116, 101, 115, 95, 95, 4, 0, 0, 15, 6, 202, 8, 95, 95, 100, 105, 99, 116, 95, 95, 4, 0, 0, 16, 6, 204, 11, 95, 95, 119, 101, 97, 107, 114, 101, 102, 95, 95, 4, 0, 0, 17]
noncomputable def t204 : Str := S [6, 227, 10, 95, 95, 109, 111, 100, 117, 108, 101, 95, 95, 6, 217, 17, 95, 102, 114, 111, 122, 101, 110, 95, 105, 109, 112, 111, 114, 116, 108, 105, 98, 6, 228, 15, 95, 95, 102, 105, 114, 115, 116, 108, 105, 110, 101, 110, 111, 95, 95, 4, 218, 0, 562, 6, 229, 7, 95, 95, 100, 111, 99, 95, 95, 9, 47, 95, 102, 114, 111, 122, 101, 110, 95, 105, 109, 112, 111, 114, 116, 108, 105, 98, 46, 77, 111, 100, 117, 108, 101, 83, 112, 101, 99, 46, 95, 95, 100, 111, 99, 95, 95, 58, 115, 116, 114, 35, 111, 112, 97, 113, 117, 101, 6, 230, 8, 95, 95, 105, 110, 105, 116, 95, 95, 9, 44, 95, 102, 114, 111, 122, 101, 110, 95, 105, 109, 112, 111, 114, 116, 108, 105, 98, 46, 77, 111, 100, 117, 108, 101, 83, 112, 101, 99, 46, 95, 95, 105, 110, 105, 116, 95, 95, 35, 111, 112, 97, 113, 117, 101, 6, 231, 8, 95, 95, 114, 101, 112, 114, 95, 95, 9, 44, 95, 102, 114, 111, 122, 101, 110, 95, 105, 109, 112, 111, 114, 116, 108, 105, 98, 46, 77, 111, 100, 117, 108, 101, 83, 112, 101, 99, 46, 95, 95, 114, 101, 112, 114, 95, 95, 35, 111, 112, 97, 113, 117, 101, 6, 232, 6, 95, 95, 101, 113, 95, 95, 9, 42, 95, 102, 114, 111, 122, 101, 110, 95, 105, 109, 112, 111, 114, 116, 108, 105, 98, 46, 77, 111, 100, 117, 108, 101, 83, 112, 101, 99, 46, 95, 95, 101, 113, 95, 95, 35, 111, 112, 97, 113, 117, 101, 6, 233, 6, 99, 97, 99, 104, 101, 100, 9, 42, 95, 102, 114, 111, 122, 101, 110, 95, 105, 109, 112, 111, 114, 116, 108, 105, 98, 46, 77, 111, 100, 117, 108, 101, 83, 112, 101, 99, 46, 99, 97, 99, 104, 101, 100, 35, 111, 112, 97, 113, 117, 101, 6, 234, 6, 112, 97, 114, 101, 110, 116, 9, 42, 95, 102, 114, 111, 122, 101, 110, 95, 105, 109, 112, 111, 114, 116, 108, 105, 98, 46, 77, 111, 100, 117, 108, 101, 83, 112, 101, 99, 46, 112, 97, 114, 101, 110, 116, 35, 111, 112, 97, 113, 117, 101, 6, 235, 12, 104, 97, 115, 95, 108, 111, 99, 97, 116, 105, 111, 110, 9, 48, 95, 102, 114, 111, 122, 101, 110, 95, 105, 109, 112, 111, 114, 116, 108, 105, 98, 46, 77, 111, 100, 117, 108, 101, 83, 112, 101, 99, 46, 104, 97, 115, 95, 108, 111, 99, 97, 116, 105, 111, 110, 35, 111, 112, 97, 113, 117, 101, 6, 236, 21, 95, 95, 115, 116, 97, 116, 105, 99, 95, 97, 116, 116, 114, 105, 98, 117, 116, 101, 115, 95, 95, 4, 0, 0, 23, 6, 238, 8, 95, 95, 100, 105, 99, 116, 95, 95, 4, 0, 0, 24, 6, 240, 11, 95, 95, 119, 101, 97, 107, 114, 101, 102, 95, 95, 4, 0, 0, 25, 6, 241, 8, 95, 95, 104, 97, 115, 104, 95, 95, 0]
noncomputable def t205 : Str := S [110, 97, 109, 101]
noncomputable def t206 : Str := S [108, 111, 97, 100, 101, 114]
noncomputable def t207 : Str := S [111, 114, 105, 103, 105, 110]
noncomputable def t208 : Str := S [108, 111, 97, 100, 101, 114, 95, 115, 116, 97, 116, 101]
noncomputable def t209 : Str := S [115, 117, 98, 109, 111, 100, 117, 108, 101, 95, 115, 101, 97, 114, 99, 104, 95, 108, 111, 99, 97, 116, 105, 111, 110, 115]
noncomputable def t210 : Str := S [95, 117, 110, 105, 110, 105, 116, 105, 97, 108, 105, 122, 101, 100, 95, 115, 117, 98, 109, 111, 100, 117, 108, 101, 115]
noncomputable def t211 : Str := S [95, 115, 101, 116, 95, 102, 105, 108, 101, 97, 116, 116, 114]
noncomputable def t212 : Str := S [95, 99, 97, 99, 104, 101, 100]
noncomputable def t213 : Str := S [95, 105, 110, 105, 116, 105, 97, 108, 105, 122, 105, 110, 103]
noncomputable def t214 : Str := S [95, 95, 105, 110, 105, 116, 95, 95]
noncomputable def t215 : Str := S [95, 95, 114, 101, 112, 114, 95, 95]
noncomputable def t216 : Str := S [95, 95, 101, 113, 95, 95]
noncomputable def t217 : Str := S [99, 97, 99, 104, 101, 100]
noncomputable def t218 : Str := S [112, 97, 114, 101, 110, 116]
noncomputable def t219 : Str := S [104, 97, 115, 95, 108, 111, 99, 97, 116, 105, 111, 110]
noncomputable def t220 : Str := S [95, 95, 104, 97, 115, 104, 95, 95]
noncomputable def t221 : Str := S [77, 111, 100, 117, 108, 101, 83, 112, 101, 99]
noncomputable def t222 : Str := S [6, 247, 8, 95, 95, 110, 97, 109, 101, 95, 95, 6, 246, 4, 95, 115, 114, 101, 6, 248, 7, 95, 95, 100, 111, 99, 95, 95, 0, 6, 250, 11, 95, 95, 112, 97, 99, 107, 97, 103, 101, 95, 95, 6, 249, 0, 6, 251, 10, 95, 95, 108, 111, 97, 100, 101, 114, 95, 95, 4, 0, 0, 14, 6, 252, 8, 95, 95, 115, 112, 101, 99, 95, 95, 4, 0, 0, 26, 6, 253, 7, 99, 111, 109, 112, 105, 108, 101, 9, 12, 95, 115, 114, 101, 46, 99, 111, 109, 112, 105, 108, 101, 6, 254, 8, 116, 101, 109, 112, 108, 97, 116, 101, 9, 13, 95, 115, 114, 101, 46, 116, 101, 109, 112, 108, 97, 116, 101, 6, 255, 11, 103, 101, 116, 99, 111, 100, 101, 115, 105, 122, 101, 9, 16, 95, 115, 114, 101, 46, 103, 101, 116, 99, 111, 100, 101, 115, 105, 122, 101, 6, 256, 13, 97, 115, 99, 105, 105, 95, 105, 115, 99, 97, 115, 101, 100, 9, 18, 95, 115, 114, 101, 46, 97, 115, 99, 105, 105, 95, 105, 115, 99, 97, 115, 101, 100, 6, 257, 15, 117, 110, 105, 99, 111, 100, 101, 95, 105, 115, 99, 97, 115, 101, 100, 9, 20, 95, 115, 114, 101, 46, 117, 110, 105, 99, 111, 100, 101, 95, 105, 115, 99, 97, 115, 101, 100, 6, 258, 13, 97, 115, 99, 105, 105, 95, 116, 111, 108, 111, 119, 101, 114, 9, 18, 95, 115, 114, 101, 46, 97, 115, 99, 105, 105, 95, 116, 111, 108, 111, 119, 101, 114, 6, 259, 15, 117, 110, 105, 99, 111, 100, 101, 95, 116, 111, 108, 111, 119, 101, 114, 9, 20, 95, 115, 114, 101, 46, 117, 110, 105, 99, 111, 100, 101, 95, 116, 111, 108, 111, 119, 101, 114, 6, 261, 5, 77, 65, 71, 73, 67, 4, 260, 0, 20230612, 6, 263, 8, 67, 79, 68, 69, 83, 73, 90, 69, 4, 262, 0, 4, 6, 265, 9, 77, 65, 88, 82, 69, 80, 69, 65, 84, 4, 264, 0, 4294967295, 6, 267, 9, 77, 65, 88, 71, 82, 79, 85, 80, 83, 4, 266, 0, 1073741823, 6, 269, 9, 99, 111, 112, 121, 114, 105, 103, 104, 116, 6, 268, 53, 32, 83, 82, 69, 32, 50, 46, 50, 46, 50, 32, 67, 111, 112, 121, 114, 105, 103, 104, 116, 32, 40, 99, 41, 32, 49, 57, 57, 55, 45, 50, 48, 48, 50, 32, 98, 121, 32, 83, 101, 99, 114, 101, 116, 32, 76, 97, 98, 115, 32, 65, 66, 32]
noncomputable def t223 : Str := S [40, 91, 38, 126, 124, 93, 41]
noncomputable def t224 : Str := S [112, 97, 116]
noncomputable def t225 : Str := S [83, 84, 65, 82]
noncomputable def t226 : Str := S [112, 97, 114, 116, 115]
noncomputable def t227 : Str := S [116, 114, 97, 110, 115, 108, 97, 116, 101]
noncomputable def t228 : Str := S [99, 112, 121, 51, 49, 51, 46, 102, 110, 109, 97, 116, 99, 104]
noncomputable def t229 : Str := S [92, 40]
noncomputable def t230 : Str := S [92, 41]
noncomputable def t231 : Str := S [92, 91]
noncomputable def t232 : Str := S [92, 93]
noncomputable def t233 : Str := S [92, 123]
noncomputable def t234 : Str := S [92, 125]
noncomputable def t235 : Str := S [92, 63]
noncomputable def t236 : Str := S [92, 42]
noncomputable def t237 : Str := S [92, 43]
noncomputable def t238 : Str := S [92, 45]
noncomputable def t239 : Str := S [92, 124]
noncomputable def t240 : Str := S [92, 94]
noncomputable def t241 : Str := S [92, 36]
noncomputable def t242 : Str := S [92, 92]
noncomputable def t243 : Str := S [92, 46]
noncomputable def t244 : Str := S [92, 38]
noncomputable def t245 : Str := S [92, 126]
noncomputable def t246 : Str := S [92, 35]
noncomputable def t247 : Str := S [92, 32]
noncomputable def t248 : Str := S [92, 9]
noncomputable def t249 : Str := S [92, 10]
noncomputable def t250 : Str := S [92, 13]
noncomputable def t251 : Str := S [92, 11]
noncomputable def t252 : Str := S [92, 12]
noncomputable def t253 : Str := S [112, 97, 116, 116, 101, 114, 110]
noncomputable def t254 : Str := S [101, 115, 99, 97, 112, 101]
noncomputable def t255 : Str := S [114, 101]
noncomputable def t256 : Str := S [81, 85, 69, 83, 84, 73, 79, 78, 95, 77, 65, 82, 75]
noncomputable def t257 : Str := S [114, 101, 115]
noncomputable def t258 : Str := S [97, 100, 100]
noncomputable def t259 : Str := S [105]
noncomputable def t260 : Str := S [110]
noncomputable def t261 : Str := S [99]
noncomputable def t262 : Str := S [106]
noncomputable def t263 : Str := S [115, 116, 117, 102, 102]
noncomputable def t264 : Str := S [99, 104, 117, 110, 107, 115]
noncomputable def t265 : Str := S [107]
noncomputable def t266 : Str := S [99, 104, 117, 110, 107]
noncomputable def t267 : Str := S [95, 116, 114, 97, 110, 115, 108, 97, 116, 101]
noncomputable def t268 : Str := S [105, 110, 112]
noncomputable def t269 : Str := S [102, 105, 120, 101, 100]
noncomputable def t270 : Str := S [95, 106, 111, 105, 110, 95, 116, 114, 97, 110, 115, 108, 97, 116, 101, 100, 95, 112, 97, 114, 116, 115]
noncomputable def t271 : Str := S [61, 91, 97, 45, 102, 65, 45, 70, 48, 45, 57, 93, 123, 50, 125]
noncomputable def t272 : Str := S [115]
noncomputable def t273 : Str := S [117, 110, 113, 117, 111, 116, 101]
noncomputable def t274 : Str := S [99, 112, 121, 51, 49, 51, 46, 101, 109, 97, 105, 108, 46, 113, 117, 111, 112, 114, 105, 109, 105, 109, 101]
noncomputable def t275 : Str := S [113, 117, 111, 116, 101]
noncomputable def t276 : Str := S [109, 97, 116, 99, 104]
noncomputable def t277 : Str := S [95, 117, 110, 113, 117, 111, 116, 101, 95, 109, 97, 116, 99, 104]
noncomputable def t278 : Str := S [104, 101, 97, 100, 101, 114, 95, 100, 101, 99, 111, 100, 101]
noncomputable def t279 : Str := S [101, 120, 112, 101, 99, 116, 101, 100]
noncomputable def t280 : Str := S [97, 99, 116, 117, 97, 108]
noncomputable def t281 : Str := S [109, 105, 115, 115, 105, 110, 103]
noncomputable def t282 : Str := S [117, 110, 101, 120, 112, 101, 99, 116, 101, 100]
noncomputable def t283 : Str := S [101]
noncomputable def t284 : Str := S [97]
noncomputable def t285 : Str := S [115, 111, 114, 116, 101, 100, 95, 108, 105, 115, 116, 95, 100, 105, 102, 102, 101, 114, 101, 110, 99, 101]
noncomputable def t286 : Str := S [99, 112, 121, 51, 49, 51, 46, 117, 110, 105, 116, 116, 101, 115, 116, 46, 117, 116, 105, 108]
noncomputable def t287 : Str := S [95, 108, 97, 119, 95, 110, 97, 109, 101]
noncomputable def t288 : Str := S [108, 97, 119, 95, 105, 110, 48, 50, 52, 55, 95, 48, 49]
noncomputable def t289 : Str := S [95, 108, 97, 119, 95, 105, 116, 101, 109, 115]
noncomputable def t290 : Str := S [115, 105, 103, 110]
noncomputable def t291 : Str := S [95, 108, 97, 119, 95, 102, 105, 103, 117, 114, 101, 115]
noncomputable def t292 : Str := S [105, 116, 101, 109, 115]
noncomputable def t293 : Str := S [119, 114, 105, 116, 116, 101, 110]
noncomputable def t294 : Str := S [116, 101, 120, 116, 115]
noncomputable def t295 : Str := S [105, 116, 101, 109]
noncomputable def t296 : Str := S [95, 108, 97, 119, 95, 112, 97, 116, 116, 101, 114, 110]
noncomputable def t297 : Str := S [95, 108, 97, 119, 95, 116, 114, 105, 101, 100]
noncomputable def t298 : Str := S [109, 97, 100, 101]
noncomputable def t299 : Str := S [116, 101, 120, 116]
noncomputable def t300 : Str := S [112, 108, 97, 99, 101]
noncomputable def t301 : Str := S [101, 110, 100]
noncomputable def t302 : Str := S [95, 108, 97, 119, 95, 114, 101, 97, 100]
noncomputable def t303 : Str := S [95, 108, 97, 119, 95, 115, 116, 97, 110, 100, 115]
noncomputable def t304 : Str := S [95, 108, 97, 119, 95, 102, 105, 116, 115]
noncomputable def t305 : Str := S [108, 97, 119]
noncomputable def t306 : Str := S [95, 81, 85, 79, 80, 82, 73, 95, 66, 79, 68, 89, 95, 69, 78, 67, 79, 68, 69, 95, 77, 65, 80]
noncomputable def t307 : Str := S [95, 95, 97, 110, 110, 111, 116, 97, 116, 105, 111, 110, 115, 95, 95]
noncomputable def t308 : Str := S [95, 95, 98, 117, 105, 108, 116, 105, 110, 115, 95, 95]
noncomputable def t309 : Str := S [95, 95, 102, 105, 108, 101, 95, 95]
noncomputable def t310 : Str := S [95, 95, 99, 97, 99, 104, 101, 100, 95, 95]
noncomputable def t311 : Str := S [116, 119, 105, 110, 95, 114, 101, 95, 49, 95, 102, 110, 109, 97, 116, 99, 104]
noncomputable def t312 : Str := S [95, 115, 112, 101, 99, 105, 97, 108, 95, 99, 104, 97, 114, 115, 95, 109, 97, 112]
noncomputable def t313 : Str := S [116, 119, 105, 110, 95, 114, 101, 95, 49, 95, 113, 117, 111, 112, 114, 105, 109, 105, 109, 101]
noncomputable def t314 : Str := S [95, 81, 85, 79, 80, 82, 73, 95, 77, 65, 80]
noncomputable def t315 : Str := S [95, 81, 85, 79, 80, 82, 73, 95, 72, 69, 65, 68, 69, 82, 95, 77, 65, 80]
noncomputable def t316 : Str := S [95, 81, 85, 79, 80, 82, 73, 95, 66, 79, 68, 89, 95, 77, 65, 80]
noncomputable def t317 : Str := S [97, 115, 99, 105, 105, 95, 108, 111, 119, 101, 114, 99, 97, 115, 101]
noncomputable def t318 : Str := S [97, 98, 99, 100, 101, 102, 103, 104, 105, 106, 107, 108, 109, 110, 111, 112, 113, 114, 115, 116, 117, 118, 119, 120, 121, 122]
noncomputable def t319 : Str := S [97, 115, 99, 105, 105, 95, 117, 112, 112, 101, 114, 99, 97, 115, 101]
noncomputable def t320 : Str := S [65, 66, 67, 68, 69, 70, 71, 72, 73, 74, 75, 76, 77, 78, 79, 80, 81, 82, 83, 84, 85, 86, 87, 88, 89, 90]
noncomputable def t321 : Str := S [97, 115, 99, 105, 105, 95, 108, 101, 116, 116, 101, 114, 115]
noncomputable def t322 : Str := S [97, 98, 99, 100, 101, 102, 103, 104, 105, 106, 107, 108, 109, 110, 111, 112, 113, 114, 115, 116, 117, 118, 119, 120, 121, 122, 65, 66, 67, 68, 69, 70, 71, 72, 73, 74, 75, 76, 77, 78, 79, 80, 81, 82, 83, 84, 85, 86, 87, 88, 89, 90]
noncomputable def t323 : Str := S [100, 105, 103, 105, 116, 115]
noncomputable def t324 : Str := S [48, 49, 50, 51, 52, 53, 54, 55, 56, 57]
noncomputable def nthP (p : Program) (k : Nat) : Stmt := p.main.body.getD k (.Pass default)
noncomputable def qm (c : Nat) : Value := .str (S [61, hx (c / 16), hx (c % 16)]) (561 + 4 * c)
noncomputable def qmL : List Value := (List.range 256).map qm
noncomputable def putL (t0 : Nat) (is : List Nat) (f : Nat → Value) (c : Nat) : Value := match is.idxOf? c with | some k => .str (S [c]) (t0 + 3 * k) | none => f c
noncomputable def hIdx : List Nat := [45, 33, 42, 43, 47] ++ (List.range 26).map (· + 97) ++ (List.range 26).map (· + 65) ++ (List.range 10).map (· + 48)
noncomputable def bIdx : List Nat := (List.range 29).map (· + 32) ++ (List.range 65).map (· + 62) ++ [9]
noncomputable def h1 : Nat → Value := putL 1604 hIdx qm
noncomputable def h2 (c : Nat) : Value := if c == 32 then .str (S [95]) 1803 else h1 c
noncomputable def b1 : Nat → Value := putL 1809 bIdx qm
noncomputable def b2 : Nat → Value := putL 2110 [13, 10] b1
section
variable (σ : Nat → String) (p : Program) (P : Params)
noncomputable def lst (f : Nat → Value) : Obj := ⟨.type (σ 28), none, .seq ⟨(List.range 256).map f⟩ 0, ⟨[]⟩⟩
noncomputable def main_ (nm : Value) : DictEntry := ⟨PyData.keyHash P t0, .str t0 165, nm⟩
noncomputable def ents : List DictEntry := [
  ⟨PyData.keyHash P t2, .str t2 166, .none⟩,
  ⟨PyData.keyHash P t3, .str t3 167, .none⟩,
  ⟨PyData.keyHash P t4, .str t4 168, .builtin (σ 43)⟩,
  ⟨PyData.keyHash P t5, .str t5 169, .none⟩,
  ⟨PyData.keyHash P t307, .str t307 170, .ref 6⟩,
  ⟨PyData.keyHash P t308, .str t308 171, .ref 4⟩,
  ⟨PyData.keyHash P t309, .str t309 173, .str t174 172⟩,
  ⟨PyData.keyHash P t310, .str t310 174, .none⟩,
  ⟨PyData.keyHash P t161, .str t161 275, .ref 12⟩,
  ⟨PyData.keyHash P t311, .str t311 321, .ref 36⟩,
  ⟨PyData.keyHash P t227, .str t227 330, .ref 43⟩,
  ⟨PyData.keyHash P t312, .str t312 478, .ref 45⟩,
  ⟨PyData.keyHash P t254, .str t254 485, .ref 55⟩,
  ⟨PyData.keyHash P t267, .str t267 506, .ref 62⟩,
  ⟨PyData.keyHash P t270, .str t270 519, .ref 69⟩,
  ⟨PyData.keyHash P t313, .str t313 554, .ref 74⟩,
  ⟨PyData.keyHash P t314, .str t314 1582, .ref 77⟩,
  ⟨PyData.keyHash P t315, .str t315 1583, .ref 82⟩,
  ⟨PyData.keyHash P t316, .str t316 1584, .ref 84⟩,
  ⟨PyData.keyHash P t317, .str t317 1586, .str t318 1585⟩,
  ⟨PyData.keyHash P t319, .str t319 1588, .str t320 1587⟩,
  ⟨PyData.keyHash P t321, .str t321 1590, .str t322 1589⟩,
  ⟨PyData.keyHash P t323, .str t323 1592, .str t324 1591⟩,
  ⟨PyData.keyHash P t273, .str t273 2098, .ref 97⟩,
  ⟨PyData.keyHash P t275, .str t275 2105, .ref 104⟩,
  ⟨PyData.keyHash P t306, .str t306 2106, .ref 106⟩,
  ⟨PyData.keyHash P t277, .str t277 2121, .ref 116⟩,
  ⟨PyData.keyHash P t278, .str t278 2128, .ref 123⟩,
  ⟨PyData.keyHash P t285, .str t285 2144, .ref 130⟩,
  ⟨PyData.keyHash P t287, .str t287 2152, .ref 135⟩,
  ⟨PyData.keyHash P t289, .str t289 2158, .ref 140⟩,
  ⟨PyData.keyHash P t291, .str t291 2165, .ref 147⟩,
  ⟨PyData.keyHash P t296, .str t296 2175, .ref 154⟩,
  ⟨PyData.keyHash P t297, .str t297 2181, .ref 159⟩,
  ⟨PyData.keyHash P t302, .str t302 2193, .ref 166⟩,
  ⟨PyData.keyHash P t303, .str t303 2199, .ref 171⟩,
  ⟨PyData.keyHash P t304, .str t304 2205, .ref 176⟩,
  ⟨PyData.keyHash P t305, .str t305 2211, .ref 181⟩]
noncomputable def v3 (nm : Value) (k : Nat) (ex : List DictEntry) (n : Nat) : Obj := ⟨.type (σ 0), none, .dict ⟨main_ P nm :: (ents σ P).take k ++ ex⟩ n, ⟨[]⟩⟩
noncomputable def objs (v3 v29 v82 v84 v106 : Obj) : List Obj := [
  ⟨.type (σ 0), none, .dict ⟨[⟨PyData.keyHash P t0, .str t0 1, .str t1 160⟩, ⟨PyData.keyHash P t2, .str t2 2, .builtin (σ 44)⟩, ⟨PyData.keyHash P t3, .str t3 3, .builtin (σ 45)⟩, ⟨PyData.keyHash P t4, .str t4 4, .builtin (σ 46)⟩, ⟨PyData.keyHash P t5, .str t5 5, .builtin (σ 47)⟩, ⟨PyData.keyHash P t6, .str t6 6, .builtin (σ 48)⟩, ⟨PyData.keyHash P t7, .str t7 7, .builtin (σ 49)⟩, ⟨PyData.keyHash P t8, .str t8 8, .builtin (σ 50)⟩, ⟨PyData.keyHash P t9, .str t9 9, .builtin (σ 51)⟩, ⟨PyData.keyHash P t10, .str t10 10, .builtin (σ 52)⟩, ⟨PyData.keyHash P t11, .str t11 11, .builtin (σ 53)⟩, ⟨PyData.keyHash P t12, .str t12 12, .builtin (σ 54)⟩, ⟨PyData.keyHash P t13, .str t13 13, .builtin (σ 55)⟩, ⟨PyData.keyHash P t14, .str t14 14, .builtin (σ 56)⟩, ⟨PyData.keyHash P t15, .str t15 15, .builtin (σ 57)⟩, ⟨PyData.keyHash P t16, .str t16 16, .builtin (σ 58)⟩, ⟨PyData.keyHash P t17, .str t17 17, .builtin (σ 59)⟩, ⟨PyData.keyHash P t18, .str t18 18, .builtin (σ 60)⟩, ⟨PyData.keyHash P t19, .str t19 19, .builtin (σ 61)⟩, ⟨PyData.keyHash P t20, .str t20 20, .builtin (σ 62)⟩, ⟨PyData.keyHash P t21, .str t21 21, .builtin (σ 63)⟩, ⟨PyData.keyHash P t22, .str t22 22, .builtin (σ 64)⟩, ⟨PyData.keyHash P t23, .str t23 23, .builtin (σ 65)⟩, ⟨PyData.keyHash P t24, .str t24 24, .builtin (σ 66)⟩, ⟨PyData.keyHash P t25, .str t25 25, .builtin (σ 67)⟩, ⟨PyData.keyHash P t26, .str t26 26, .builtin (σ 68)⟩, ⟨PyData.keyHash P t27, .str t27 27, .builtin (σ 69)⟩, ⟨PyData.keyHash P t28, .str t28 28, .builtin (σ 70)⟩, ⟨PyData.keyHash P t29, .str t29 29, .builtin (σ 71)⟩, ⟨PyData.keyHash P t30, .str t30 30, .builtin (σ 72)⟩, ⟨PyData.keyHash P t31, .str t31 31, .builtin (σ 73)⟩, ⟨PyData.keyHash P t32, .str t32 32, .builtin (σ 74)⟩, ⟨PyData.keyHash P t33, .str t33 33, .builtin (σ 75)⟩, ⟨PyData.keyHash P t34, .str t34 34, .builtin (σ 76)⟩, ⟨PyData.keyHash P t35, .str t35 35, .builtin (σ 77)⟩, ⟨PyData.keyHash P t36, .str t36 36, .builtin (σ 78)⟩, ⟨PyData.keyHash P t37, .str t37 37, .builtin (σ 79)⟩, ⟨PyData.keyHash P t38, .str t38 38, .builtin (σ 80)⟩, ⟨PyData.keyHash P t39, .str t39 39, .builtin (σ 81)⟩, ⟨PyData.keyHash P t40, .str t40 40, .builtin (σ 82)⟩, ⟨PyData.keyHash P t41, .str t41 41, .builtin (σ 83)⟩, ⟨PyData.keyHash P t42, .str t42 42, .builtin (σ 84)⟩, ⟨PyData.keyHash P t43, .str t43 43, .builtin (σ 85)⟩, ⟨PyData.keyHash P t44, .str t44 44, .builtin (σ 86)⟩, ⟨PyData.keyHash P t45, .str t45 45, .builtin (σ 87)⟩, ⟨PyData.keyHash P t46, .str t46 46, .builtin (σ 88)⟩, ⟨PyData.keyHash P t47, .str t47 47, .builtin (σ 89)⟩, ⟨PyData.keyHash P t48, .str t48 48, .builtin (σ 90)⟩, ⟨PyData.keyHash P t49, .str t49 49, .builtin (σ 91)⟩, ⟨PyData.keyHash P t50, .str t50 50, .none⟩, ⟨PyData.keyHash P t51, .str t51 51, .ellipsis⟩, ⟨PyData.keyHash P t52, .str t52 52, .notImplemented⟩, ⟨PyData.keyHash P t53, .str t53 53, .bool false⟩, ⟨PyData.keyHash P t54, .str t54 54, .bool true⟩, ⟨PyData.keyHash P t55, .str t55 55, .type (σ 92)⟩, ⟨PyData.keyHash P t56, .str t56 56, .type (σ 93)⟩, ⟨PyData.keyHash P t57, .str t57 57, .type (σ 94)⟩, ⟨PyData.keyHash P t58, .str t58 58, .type (σ 95)⟩, ⟨PyData.keyHash P t59, .str t59 59, .type (σ 96)⟩, ⟨PyData.keyHash P t60, .str t60 60, .type (σ 97)⟩, ⟨PyData.keyHash P t61, .str t61 61, .type (σ 0)⟩, ⟨PyData.keyHash P t62, .str t62 62, .type (σ 98)⟩, ⟨PyData.keyHash P t63, .str t63 63, .type (σ 99)⟩, ⟨PyData.keyHash P t64, .str t64 64, .type (σ 100)⟩, ⟨PyData.keyHash P t65, .str t65 65, .type (σ 101)⟩, ⟨PyData.keyHash P t66, .str t66 66, .type (σ 102)⟩, ⟨PyData.keyHash P t67, .str t67 67, .type (σ 103)⟩, ⟨PyData.keyHash P t68, .str t68 68, .type (σ 28)⟩, ⟨PyData.keyHash P t69, .str t69 69, .type (σ 104)⟩, ⟨PyData.keyHash P t70, .str t70 70, .type (σ 23)⟩, ⟨PyData.keyHash P t71, .str t71 71, .type (σ 40)⟩, ⟨PyData.keyHash P t72, .str t72 72, .type (σ 105)⟩, ⟨PyData.keyHash P t73, .str t73 73, .type (σ 106)⟩, ⟨PyData.keyHash P t74, .str t74 74, .type (σ 42)⟩, ⟨PyData.keyHash P t75, .str t75 75, .type (σ 107)⟩, ⟨PyData.keyHash P t76, .str t76 76, .type (σ 108)⟩, ⟨PyData.keyHash P t77, .str t77 77, .type (σ 109)⟩, ⟨PyData.keyHash P t78, .str t78 78, .type (σ 2)⟩, ⟨PyData.keyHash P t79, .str t79 79, .type (σ 22)⟩, ⟨PyData.keyHash P t80, .str t80 80, .type (σ 110)⟩, ⟨PyData.keyHash P t81, .str t81 81, .bool true⟩, ⟨PyData.keyHash P t82, .str t82 82, .type (σ 111)⟩, ⟨PyData.keyHash P t83, .str t83 83, .type (σ 112)⟩, ⟨PyData.keyHash P t84, .str t84 84, .type (σ 113)⟩, ⟨PyData.keyHash P t85, .str t85 85, .type (σ 114)⟩, ⟨PyData.keyHash P t86, .str t86 86, .type (σ 115)⟩, ⟨PyData.keyHash P t87, .str t87 87, .type (σ 116)⟩, ⟨PyData.keyHash P t88, .str t88 88, .type (σ 117)⟩, ⟨PyData.keyHash P t89, .str t89 89, .type (σ 118)⟩, ⟨PyData.keyHash P t90, .str t90 90, .type (σ 119)⟩, ⟨PyData.keyHash P t91, .str t91 91, .type (σ 120)⟩, ⟨PyData.keyHash P t92, .str t92 92, .type (σ 121)⟩, ⟨PyData.keyHash P t93, .str t93 93, .type (σ 122)⟩, ⟨PyData.keyHash P t94, .str t94 94, .type (σ 123)⟩, ⟨PyData.keyHash P t95, .str t95 95, .type (σ 124)⟩, ⟨PyData.keyHash P t96, .str t96 96, .type (σ 125)⟩, ⟨PyData.keyHash P t97, .str t97 97, .type (σ 126)⟩, ⟨PyData.keyHash P t98, .str t98 98, .type (σ 127)⟩, ⟨PyData.keyHash P t99, .str t99 99, .type (σ 128)⟩, ⟨PyData.keyHash P t100, .str t100 100, .type (σ 129)⟩, ⟨PyData.keyHash P t101, .str t101 101, .type (σ 39)⟩, ⟨PyData.keyHash P t102, .str t102 102, .type (σ 130)⟩, ⟨PyData.keyHash P t103, .str t103 103, .type (σ 131)⟩, ⟨PyData.keyHash P t104, .str t104 104, .type (σ 132)⟩, ⟨PyData.keyHash P t105, .str t105 105, .type (σ 133)⟩, ⟨PyData.keyHash P t106, .str t106 106, .type (σ 134)⟩, ⟨PyData.keyHash P t107, .str t107 107, .type (σ 135)⟩, ⟨PyData.keyHash P t108, .str t108 108, .type (σ 136)⟩, ⟨PyData.keyHash P t109, .str t109 109, .type (σ 137)⟩, ⟨PyData.keyHash P t110, .str t110 110, .type (σ 138)⟩, ⟨PyData.keyHash P t111, .str t111 111, .type (σ 139)⟩, ⟨PyData.keyHash P t112, .str t112 112, .type (σ 140)⟩, ⟨PyData.keyHash P t113, .str t113 113, .type (σ 141)⟩, ⟨PyData.keyHash P t114, .str t114 114, .type (σ 142)⟩, ⟨PyData.keyHash P t115, .str t115 115, .type (σ 143)⟩, ⟨PyData.keyHash P t116, .str t116 116, .type (σ 144)⟩, ⟨PyData.keyHash P t117, .str t117 117, .type (σ 145)⟩, ⟨PyData.keyHash P t118, .str t118 118, .type (σ 146)⟩, ⟨PyData.keyHash P t119, .str t119 119, .type (σ 147)⟩, ⟨PyData.keyHash P t120, .str t120 120, .type (σ 148)⟩, ⟨PyData.keyHash P t121, .str t121 121, .type (σ 149)⟩, ⟨PyData.keyHash P t122, .str t122 122, .type (σ 150)⟩, ⟨PyData.keyHash P t123, .str t123 123, .type (σ 151)⟩, ⟨PyData.keyHash P t124, .str t124 124, .type (σ 152)⟩, ⟨PyData.keyHash P t125, .str t125 125, .type (σ 153)⟩, ⟨PyData.keyHash P t126, .str t126 126, .type (σ 154)⟩, ⟨PyData.keyHash P t127, .str t127 127, .type (σ 155)⟩, ⟨PyData.keyHash P t128, .str t128 128, .type (σ 156)⟩, ⟨PyData.keyHash P t129, .str t129 129, .type (σ 157)⟩, ⟨PyData.keyHash P t130, .str t130 130, .type (σ 158)⟩, ⟨PyData.keyHash P t131, .str t131 131, .type (σ 159)⟩, ⟨PyData.keyHash P t132, .str t132 132, .type (σ 160)⟩, ⟨PyData.keyHash P t133, .str t133 133, .type (σ 161)⟩, ⟨PyData.keyHash P t134, .str t134 134, .type (σ 162)⟩, ⟨PyData.keyHash P t135, .str t135 135, .type (σ 163)⟩, ⟨PyData.keyHash P t136, .str t136 136, .type (σ 164)⟩, ⟨PyData.keyHash P t137, .str t137 137, .type (σ 165)⟩, ⟨PyData.keyHash P t138, .str t138 138, .type (σ 166)⟩, ⟨PyData.keyHash P t139, .str t139 139, .type (σ 167)⟩, ⟨PyData.keyHash P t140, .str t140 140, .type (σ 168)⟩, ⟨PyData.keyHash P t141, .str t141 141, .type (σ 169)⟩, ⟨PyData.keyHash P t142, .str t142 142, .type (σ 170)⟩, ⟨PyData.keyHash P t143, .str t143 143, .type (σ 171)⟩, ⟨PyData.keyHash P t144, .str t144 144, .type (σ 172)⟩, ⟨PyData.keyHash P t145, .str t145 145, .type (σ 173)⟩, ⟨PyData.keyHash P t146, .str t146 146, .type (σ 174)⟩, ⟨PyData.keyHash P t147, .str t147 147, .type (σ 175)⟩, ⟨PyData.keyHash P t148, .str t148 148, .type (σ 176)⟩, ⟨PyData.keyHash P t149, .str t149 149, .type (σ 177)⟩, ⟨PyData.keyHash P t150, .str t150 150, .type (σ 178)⟩, ⟨PyData.keyHash P t151, .str t151 151, .type (σ 126)⟩, ⟨PyData.keyHash P t152, .str t152 152, .type (σ 126)⟩, ⟨PyData.keyHash P t153, .str t153 153, .builtin (σ 179)⟩, ⟨PyData.keyHash P t154, .str t154 154, .builtin (σ 180)⟩, ⟨PyData.keyHash P t155, .str t155 155, .builtin (σ 181)⟩, ⟨PyData.keyHash P t156, .str t156 156, .builtin (σ 182)⟩, ⟨PyData.keyHash P t157, .str t157 157, .builtin (σ 183)⟩, ⟨PyData.keyHash P t158, .str t158 158, .builtin (σ 184)⟩, ⟨PyData.keyHash P t159, .str t159 159, .builtin (σ 185)⟩]⟩ 159, ⟨[]⟩⟩,
  ⟨.type (σ 0), none, .dict ⟨[⟨PyData.keyHash P t1, .str t1 162, .ref 4⟩, ⟨PyData.keyHash P t160, .str t160 163, .ref 5⟩, ⟨PyData.keyHash P t161, .str t161 244, .ref 12⟩]⟩ 3, ⟨[]⟩⟩,
  ⟨.none, none, .dict ⟨[⟨PyData.keyHash P t162, .str t162 183, .bool true⟩, ⟨PyData.keyHash P t163, .str t163 185, .ref 14⟩, ⟨PyData.keyHash P t164, .str t164 206, .ref 18⟩, ⟨PyData.keyHash P t165, .str t165 216, .ref 22⟩, ⟨PyData.keyHash P t166, .str t166 245, .int 3 0⟩, ⟨PyData.keyHash P t167, .str t167 270, .bool true⟩, ⟨PyData.keyHash P t168, .str t168 272, .ref 27⟩, ⟨PyData.keyHash P t169, .str t169 0, .str t170 0⟩, ⟨PyData.keyHash P t171, .str t171 273, .str t172 0⟩]⟩ 9, ⟨[]⟩⟩,
  v3,
  ⟨.type (σ 1), some 0, .plain, ⟨[]⟩⟩,
  ⟨.type (σ 1), some 3, .plain, ⟨[]⟩⟩,
  ⟨.type (σ 0), none, .dict ⟨[]⟩ 0, ⟨[]⟩⟩,
  ⟨.type (σ 2), none, .seq ⟨[]⟩ 0, ⟨[]⟩⟩,
  ⟨.none, none, .fields ⟨[]⟩, ⟨[]⟩⟩,
  ⟨.type (σ 3), none, .fields ⟨[.str t173 176, .str t173 177, .str t174 178, .int 1 0, .int 0 0, .int 0 0, .int 0 0, .int 0 0, .ref 7, .bool false, .int 175 0, .ref 8, .none, .none, .none, .none, .int 179 0, .int 1 0, .str t174 180]⟩, ⟨[]⟩⟩,
  ⟨.type (σ 4), none, .plain, ⟨[some (.ref 9), some (.ref 3), some (.ref 3), none, some (.str t160 164), none, some (.ref 0)]⟩⟩,
  ⟨.type (σ 0), none, .dict ⟨[⟨PyData.keyHash P t0, .str t0 247, .str t161 246⟩, ⟨PyData.keyHash P t2, .str t2 248, .none⟩, ⟨PyData.keyHash P t3, .str t3 250, .str t175 249⟩, ⟨PyData.keyHash P t4, .str t4 251, .builtin (σ 5)⟩, ⟨PyData.keyHash P t5, .str t5 252, .builtin (σ 6)⟩, ⟨PyData.keyHash P t16, .str t16 253, .builtin (σ 7)⟩, ⟨PyData.keyHash P t176, .str t176 254, .builtin (σ 8)⟩, ⟨PyData.keyHash P t177, .str t177 255, .builtin (σ 9)⟩, ⟨PyData.keyHash P t178, .str t178 256, .builtin (σ 10)⟩, ⟨PyData.keyHash P t179, .str t179 257, .builtin (σ 11)⟩, ⟨PyData.keyHash P t180, .str t180 258, .builtin (σ 12)⟩, ⟨PyData.keyHash P t181, .str t181 259, .builtin (σ 13)⟩, ⟨PyData.keyHash P t182, .str t182 261, .int 20230612 260⟩, ⟨PyData.keyHash P t183, .str t183 263, .int 4 262⟩, ⟨PyData.keyHash P t184, .str t184 265, .int 4294967295 264⟩, ⟨PyData.keyHash P t185, .str t185 267, .int 1073741823 266⟩, ⟨PyData.keyHash P t156, .str t156 269, .str t186 268⟩]⟩ 17, ⟨[]⟩⟩,
  ⟨.type (σ 1), some 11, .plain, ⟨[]⟩⟩,
  ⟨.type (σ 0), none, .dict ⟨[⟨PyData.keyHash P t187, .str t187 189, .str t188 186⟩, ⟨PyData.keyHash P t189, .str t189 190, .int 971 187⟩, ⟨PyData.keyHash P t2, .str t2 191, .builtin (σ 14)⟩, ⟨PyData.keyHash P t190, .str t190 192, .str t191 188⟩, ⟨PyData.keyHash P t192, .str t192 193, .builtin (σ 15)⟩, ⟨PyData.keyHash P t193, .str t193 194, .builtin (σ 16)⟩, ⟨PyData.keyHash P t194, .str t194 195, .builtin (σ 17)⟩, ⟨PyData.keyHash P t195, .str t195 196, .builtin (σ 18)⟩, ⟨PyData.keyHash P t196, .str t196 197, .builtin (σ 19)⟩, ⟨PyData.keyHash P t197, .str t197 198, .builtin (σ 20)⟩, ⟨PyData.keyHash P t198, .str t198 199, .builtin (σ 21)⟩, ⟨PyData.keyHash P t199, .str t199 200, .ref 15⟩, ⟨PyData.keyHash P t200, .str t200 202, .ref 16⟩, ⟨PyData.keyHash P t201, .str t201 204, .ref 17⟩]⟩ 14, ⟨[]⟩⟩,
  ⟨.type (σ 22), none, .cls ⟨t202, [.type (σ 23)], [.ref 14, .type (σ 23)], 13, t202, true, [], [], false, none, false⟩, ⟨[]⟩⟩,
  ⟨.type (σ 2), none, .seq ⟨[]⟩ 0, ⟨[]⟩⟩,
  ⟨.type (σ 24), none, .fields ⟨[.str t200 201, .ref 14, .builtin (σ 25), .builtin (σ 26)]⟩, ⟨[]⟩⟩,
  ⟨.type (σ 24), none, .fields ⟨[.str t201 203, .ref 14, .builtin (σ 27), .none]⟩, ⟨[]⟩⟩,
  ⟨.none, none, .seq ⟨[.int 13 0, .str t203 0, .bool true, .bool true, .str t175 205, .int 21 0, .str t204 0, .bool true, .bool true, .str t175 242]⟩ 1, ⟨[]⟩⟩,
  ⟨.type (σ 28), none, .seq ⟨[]⟩ 0, ⟨[]⟩⟩,
  ⟨.type (σ 0), none, .dict ⟨[⟨PyData.keyHash P t205, .str t205 208, .str t161 207⟩, ⟨PyData.keyHash P t206, .str t206 209, .ref 14⟩, ⟨PyData.keyHash P t207, .str t207 210, .str t191 184⟩, ⟨PyData.keyHash P t208, .str t208 211, .none⟩, ⟨PyData.keyHash P t209, .str t209 212, .none⟩, ⟨PyData.keyHash P t210, .str t210 213, .ref 19⟩, ⟨PyData.keyHash P t211, .str t211 214, .bool false⟩, ⟨PyData.keyHash P t212, .str t212 215, .none⟩, ⟨PyData.keyHash P t213, .str t213 243, .bool false⟩]⟩ 9, ⟨[]⟩⟩,
  ⟨.type (σ 0), none, .dict ⟨[⟨PyData.keyHash P t187, .str t187 227, .str t188 217⟩, ⟨PyData.keyHash P t189, .str t189 228, .int 562 218⟩, ⟨PyData.keyHash P t2, .str t2 229, .builtin (σ 29)⟩, ⟨PyData.keyHash P t214, .str t214 230, .builtin (σ 30)⟩, ⟨PyData.keyHash P t215, .str t215 231, .builtin (σ 31)⟩, ⟨PyData.keyHash P t216, .str t216 232, .builtin (σ 32)⟩, ⟨PyData.keyHash P t217, .str t217 233, .builtin (σ 33)⟩, ⟨PyData.keyHash P t218, .str t218 234, .builtin (σ 34)⟩, ⟨PyData.keyHash P t219, .str t219 235, .builtin (σ 35)⟩, ⟨PyData.keyHash P t199, .str t199 236, .ref 23⟩, ⟨PyData.keyHash P t200, .str t200 238, .ref 24⟩, ⟨PyData.keyHash P t201, .str t201 240, .ref 25⟩, ⟨PyData.keyHash P t220, .str t220 241, .none⟩]⟩ 13, ⟨[]⟩⟩,
  ⟨.type (σ 22), none, .cls ⟨t221, [.type (σ 23)], [.ref 22, .type (σ 23)], 21, t221, true, [], [], false, none, false⟩, ⟨[]⟩⟩,
  ⟨.type (σ 2), none, .seq ⟨[.str t212 219, .str t211 220, .str t210 221, .str t206 222, .str t208 223, .str t205 224, .str t207 225, .str t209 226]⟩ 0, ⟨[]⟩⟩,
  ⟨.type (σ 24), none, .fields ⟨[.str t200 237, .ref 22, .builtin (σ 25), .builtin (σ 26)]⟩, ⟨[]⟩⟩,
  ⟨.type (σ 24), none, .fields ⟨[.str t201 239, .ref 22, .builtin (σ 27), .none]⟩, ⟨[]⟩⟩,
  ⟨.ref 22, some 20, .plain, ⟨[]⟩⟩,
  ⟨.none, none, .seq ⟨[.int 11 0, .str t222 0, .bool true, .bool false, .str t161 271]⟩ 0, ⟨[]⟩⟩,
  ⟨.type (σ 2), none, .seq ⟨[]⟩ 0, ⟨[]⟩⟩,
  v29,
  ⟨.type (σ 3), none, .fields ⟨[.str t173 277, .str t173 278, .str t174 279, .int 1 0, .int 0 0, .int 0 0, .int 0 0, .int 0 0, .ref 28, .bool false, .int 276 0, .ref 29, .none, .none, .none, .none, .int 280 0, .int 1 0, .str t174 281]⟩, ⟨[]⟩⟩,
  ⟨.type (σ 4), none, .plain, ⟨[some (.ref 30), some (.ref 3), some (.ref 3), none, some (.str t160 164), none, some (.ref 0)]⟩⟩,
  ⟨.type (σ 28), none, .seq ⟨[.int 14 287, .int 14 288, .int 4 289, .int 1 290, .int 1 291, .int 9 292, .int 0 293, .int 64 294, .int 0 295, .int 1342177280 296, .int 0 297, .int 0 298, .int 0 299, .int 0 300, .int 0 301, .int 17 302, .int 0 303, .int 13 304, .int 11 305, .int 9 306, .int 0 307, .int 64 308, .int 0 309, .int 1342177280 310, .int 0 311, .int 0 312, .int 0 313, .int 0 314, .int 0 315, .int 17 316, .int 1 317, .int 1 318]⟩ 0, ⟨[]⟩⟩,
  ⟨.type (σ 0), none, .dict ⟨[]⟩ 0, ⟨[]⟩⟩,
  ⟨.type (σ 2), none, .seq ⟨[.none, .none]⟩ 0, ⟨[]⟩⟩,
  ⟨.type (σ 2), none, .seq ⟨[.int 14 0, .int 14 0, .int 4 0, .int 1 0, .int 1 0, .int 9 0, .int 0 0, .int 64 0, .int 0 0, .int 1342177280 0, .int 0 0, .int 0 0, .int 0 0, .int 0 0, .int 0 0, .int 17 0, .int 0 0, .int 13 0, .int 11 0, .int 9 0, .int 0 0, .int 64 0, .int 0 0, .int 1342177280 0, .int 0 0, .int 0 0, .int 0 0, .int 0 0, .int 0 0, .int 17 0, .int 1 0, .int 1 0]⟩ 0, ⟨[]⟩⟩,
  ⟨.type (σ 36), none, .fields ⟨[.str t223 285, .int 32 320, .int 1 0, .none, .none, .ref 35, .int 0 0]⟩, ⟨[]⟩⟩,
  ⟨.type (σ 2), none, .seq ⟨[]⟩ 0, ⟨[]⟩⟩,
  ⟨.none, none, .fields ⟨[]⟩, ⟨[]⟩⟩,
  ⟨.type (σ 2), none, .seq ⟨[.str t224 325, .str t225 326, .str t226 327]⟩ 0, ⟨[]⟩⟩,
  ⟨.type (σ 2), none, .seq ⟨[]⟩ 0, ⟨[]⟩⟩,
  ⟨.none, none, .func ⟨t227, t227, fArgs (nthP p 3), .stmts (fBody (nthP p 3)), fScope (nthP p 3), 0, [], .none, .none, .none, .none, none, .none, .none, 0⟩, ⟨[]⟩⟩,
  ⟨.type (σ 3), none, .fields ⟨[.str t227 322, .str t227 323, .str t174 324, .int 4 0, .int 1 0, .int 0 0, .int 0 0, .int 3 0, .ref 37, .bool true, .int 276 0, .ref 38, .none, .ref 39, .ref 40, .ref 41, .int 328 0, .int 4 0, .str t174 329]⟩, ⟨[]⟩⟩,
  ⟨.type (σ 37), none, .func ⟨t227, t227, fArgs (nthP p 3), .stmts (fBody (nthP p 3)), fScope (nthP p 3), 3, [], .none, .none, .none, .str t228 282, none, .ref 42, .none, 0⟩, ⟨[]⟩⟩,
  ⟨.type (σ 38), none, .fields ⟨[.none, .int 24 0]⟩, ⟨[]⟩⟩,
  ⟨.type (σ 0), none, .dict ⟨[⟨40, .int 40 334, .str t229 338⟩, ⟨41, .int 41 340, .str t230 344⟩, ⟨91, .int 91 346, .str t231 350⟩, ⟨93, .int 93 352, .str t232 356⟩, ⟨123, .int 123 358, .str t233 362⟩, ⟨125, .int 125 364, .str t234 368⟩, ⟨63, .int 63 370, .str t235 374⟩, ⟨42, .int 42 376, .str t236 380⟩, ⟨43, .int 43 382, .str t237 386⟩, ⟨45, .int 45 388, .str t238 392⟩, ⟨124, .int 124 394, .str t239 398⟩, ⟨94, .int 94 400, .str t240 404⟩, ⟨36, .int 36 406, .str t241 410⟩, ⟨92, .int 92 412, .str t242 416⟩, ⟨46, .int 46 418, .str t243 422⟩, ⟨38, .int 38 424, .str t244 428⟩, ⟨126, .int 126 430, .str t245 434⟩, ⟨35, .int 35 436, .str t246 440⟩, ⟨32, .int 32 442, .str t247 446⟩, ⟨9, .int 9 448, .str t248 452⟩, ⟨10, .int 10 454, .str t249 458⟩, ⟨13, .int 13 460, .str t250 464⟩, ⟨11, .int 11 466, .str t251 470⟩, ⟨12, .int 12 472, .str t252 476⟩]⟩ 24, ⟨[]⟩⟩,
  ⟨.type (σ 0), none, .dict ⟨[]⟩ 2, ⟨[]⟩⟩,
  ⟨.type (σ 2), none, .seq ⟨[]⟩ 0, ⟨[]⟩⟩,
  ⟨.type (σ 39), none, .fields ⟨[.ref 47, .none, .none, .none, .bool false, .none]⟩, ⟨[]⟩⟩,
  ⟨.type (σ 2), none, .seq ⟨[]⟩ 0, ⟨[]⟩⟩,
  ⟨.none, none, .fields ⟨[]⟩, ⟨[]⟩⟩,
  ⟨.type (σ 2), none, .seq ⟨[.str t253 482]⟩ 0, ⟨[]⟩⟩,
  ⟨.type (σ 2), none, .seq ⟨[]⟩ 0, ⟨[]⟩⟩,
  ⟨.none, none, .func ⟨t254, t254, fArgs (nthP p 6), .stmts (fBody (nthP p 6)), fScope (nthP p 6), 0, [], .none, .none, .none, .none, none, .none, .none, 0⟩, ⟨[]⟩⟩,
  ⟨.type (σ 3), none, .fields ⟨[.str t254 479, .str t254 480, .str t174 481, .int 10 0, .int 1 0, .int 0 0, .int 0 0, .int 3 0, .ref 49, .bool true, .int 276 0, .ref 50, .none, .ref 51, .ref 52, .ref 53, .int 483 0, .int 10 0, .str t174 484]⟩, ⟨[]⟩⟩,
  ⟨.type (σ 37), none, .func ⟨t254, t254, fArgs (nthP p 6), .stmts (fBody (nthP p 6)), fScope (nthP p 6), 3, [], .none, .none, .none, .str t255 331, none, .ref 54, .none, 0⟩, ⟨[]⟩⟩,
  ⟨.type (σ 2), none, .seq ⟨[]⟩ 0, ⟨[]⟩⟩,
  ⟨.none, none, .fields ⟨[]⟩, ⟨[]⟩⟩,
  ⟨.type (σ 2), none, .seq ⟨[.str t224 491, .str t225 492, .str t256 493, .str t257 494, .str t258 495, .str t259 496, .str t260 497, .str t261 498, .str t262 499, .str t263 500, .str t264 501, .str t265 502, .str t266 503]⟩ 0, ⟨[]⟩⟩,
  ⟨.type (σ 2), none, .seq ⟨[]⟩ 0, ⟨[]⟩⟩,
  ⟨.none, none, .func ⟨t267, t267, fArgs (nthP p 8), .stmts (fBody (nthP p 8)), fScope (nthP p 8), 0, [], .none, .none, .none, .none, none, .none, .none, 0⟩, ⟨[]⟩⟩,
  ⟨.type (σ 3), none, .fields ⟨[.str t267 488, .str t267 489, .str t174 490, .int 17 0, .int 3 0, .int 0 0, .int 0 0, .int 3 0, .ref 56, .bool true, .int 276 0, .ref 57, .none, .ref 58, .ref 59, .ref 60, .int 504 0, .int 17 0, .str t174 505]⟩, ⟨[]⟩⟩,
  ⟨.type (σ 37), none, .func ⟨t267, t267, fArgs (nthP p 8), .stmts (fBody (nthP p 8)), fScope (nthP p 8), 3, [], .none, .none, .none, .str t228 486, none, .ref 61, .none, 0⟩, ⟨[]⟩⟩,
  ⟨.type (σ 2), none, .seq ⟨[]⟩ 0, ⟨[]⟩⟩,
  ⟨.none, none, .fields ⟨[]⟩, ⟨[]⟩⟩,
  ⟨.type (σ 2), none, .seq ⟨[.str t268 510, .str t225 511, .str t257 512, .str t258 513, .str t259 514, .str t260 515, .str t269 516]⟩ 0, ⟨[]⟩⟩,
  ⟨.type (σ 2), none, .seq ⟨[]⟩ 0, ⟨[]⟩⟩,
  ⟨.none, none, .func ⟨t270, t270, fArgs (nthP p 9), .stmts (fBody (nthP p 9)), fScope (nthP p 9), 0, [], .none, .none, .none, .none, none, .none, .none, 0⟩, ⟨[]⟩⟩,
  ⟨.type (σ 3), none, .fields ⟨[.str t270 507, .str t270 508, .str t174 509, .int 79 0, .int 2 0, .int 0 0, .int 0 0, .int 3 0, .ref 63, .bool true, .int 276 0, .ref 64, .none, .ref 65, .ref 66, .ref 67, .int 517 0, .int 79 0, .str t174 518]⟩, ⟨[]⟩⟩,
  ⟨.type (σ 37), none, .func ⟨t270, t270, fArgs (nthP p 9), .stmts (fBody (nthP p 9)), fScope (nthP p 9), 3, [], .none, .none, .none, .str t228 486, none, .ref 68, .none, 0⟩, ⟨[]⟩⟩,
  ⟨.type (σ 28), none, .seq ⟨[.int 14 523, .int 8 524, .int 1 525, .int 3 526, .int 3 527, .int 1 528, .int 1 529, .int 61 530, .int 0 531, .int 16 532, .int 61 533, .int 24 534, .int 16 535, .int 2 536, .int 2 537, .int 13 538, .int 11 539, .int 9 540, .int 0 541, .int 67043328 542, .int 126 543, .int 126 544, .int 0 545, .int 0 546, .int 0 547, .int 0 548, .int 0 549, .int 1 550, .int 1 551]⟩ 0, ⟨[]⟩⟩,
  ⟨.type (σ 0), none, .dict ⟨[]⟩ 0, ⟨[]⟩⟩,
  ⟨.type (σ 2), none, .seq ⟨[.none]⟩ 0, ⟨[]⟩⟩,
  ⟨.type (σ 2), none, .seq ⟨[.int 14 0, .int 8 0, .int 1 0, .int 3 0, .int 3 0, .int 1 0, .int 1 0, .int 61 0, .int 0 0, .int 16 0, .int 61 0, .int 24 0, .int 16 0, .int 2 0, .int 2 0, .int 13 0, .int 11 0, .int 9 0, .int 0 0, .int 67043328 0, .int 126 0, .int 126 0, .int 0 0, .int 0 0, .int 0 0, .int 0 0, .int 0 0, .int 1 0, .int 1 0]⟩ 0, ⟨[]⟩⟩,
  ⟨.type (σ 36), none, .fields ⟨[.str t271 521, .int 256 553, .int 0 0, .none, .none, .ref 73, .int 0 0]⟩, ⟨[]⟩⟩,
  ⟨.type (σ 40), none, .fields ⟨[.int 0 556, .int 256 555, .int 1 557]⟩, ⟨[]⟩⟩,
  ⟨.type (σ 41), none, .fields ⟨[.int 256 0, .int 0 0, .int 1 0]⟩, ⟨[]⟩⟩,
  ⟨.type (σ 28), none, .seq ⟨qmL⟩ 256, ⟨[]⟩⟩,
  ⟨.type (σ 0), none, .dict ⟨[]⟩ 2, ⟨[]⟩⟩,
  ⟨.type (σ 2), none, .seq ⟨[]⟩ 0, ⟨[]⟩⟩,
  ⟨.type (σ 39), none, .fields ⟨[.ref 79, .none, .none, .none, .bool false, .none]⟩, ⟨[]⟩⟩,
  ⟨.type (σ 42), none, .fields ⟨[.none, .none, .none]⟩, ⟨[]⟩⟩,
  v82,
  ⟨.type (σ 42), none, .fields ⟨[.none, .none, .none]⟩, ⟨[]⟩⟩,
  v84,
  ⟨.type (σ 38), none, .fields ⟨[.none, .int 67 0]⟩, ⟨[]⟩⟩,
  ⟨.type (σ 2), none, .seq ⟨[]⟩ 0, ⟨[]⟩⟩,
  ⟨.type (σ 39), none, .fields ⟨[.ref 86, .none, .none, .none, .bool false, .none]⟩, ⟨[]⟩⟩,
  ⟨.type (σ 38), none, .fields ⟨[.none, .int 95 0]⟩, ⟨[]⟩⟩,
  ⟨.type (σ 2), none, .seq ⟨[]⟩ 0, ⟨[]⟩⟩,
  ⟨.type (σ 39), none, .fields ⟨[.ref 89, .none, .none, .none, .bool false, .none]⟩, ⟨[]⟩⟩,
  ⟨.type (σ 2), none, .seq ⟨[]⟩ 0, ⟨[]⟩⟩,
  ⟨.none, none, .fields ⟨[]⟩, ⟨[]⟩⟩,
  ⟨.type (σ 2), none, .seq ⟨[.str t272 2095]⟩ 0, ⟨[]⟩⟩,
  ⟨.type (σ 2), none, .seq ⟨[]⟩ 0, ⟨[]⟩⟩,
  ⟨.none, none, .func ⟨t273, t273, fArgs (nthP p 22), .stmts (fBody (nthP p 22)), fScope (nthP p 22), 0, [], .none, .none, .none, .none, none, .none, .none, 0⟩, ⟨[]⟩⟩,
  ⟨.type (σ 3), none, .fields ⟨[.str t273 2092, .str t273 2093, .str t174 2094, .int 120 0, .int 1 0, .int 0 0, .int 0 0, .int 3 0, .ref 91, .bool true, .int 276 0, .ref 92, .none, .ref 93, .ref 94, .ref 95, .int 2096 0, .int 120 0, .str t174 2097]⟩, ⟨[]⟩⟩,
  ⟨.type (σ 37), none, .func ⟨t273, t273, fArgs (nthP p 22), .stmts (fBody (nthP p 22)), fScope (nthP p 22), 3, [], .none, .none, .none, .str t274 1593, none, .ref 96, .none, 0⟩, ⟨[]⟩⟩,
  ⟨.type (σ 2), none, .seq ⟨[]⟩ 0, ⟨[]⟩⟩,
  ⟨.none, none, .fields ⟨[]⟩, ⟨[]⟩⟩,
  ⟨.type (σ 2), none, .seq ⟨[.str t261 2102]⟩ 0, ⟨[]⟩⟩,
  ⟨.type (σ 2), none, .seq ⟨[]⟩ 0, ⟨[]⟩⟩,
  ⟨.none, none, .func ⟨t275, t275, fArgs (nthP p 23), .stmts (fBody (nthP p 23)), fScope (nthP p 23), 0, [], .none, .none, .none, .none, none, .none, .none, 0⟩, ⟨[]⟩⟩,
  ⟨.type (σ 3), none, .fields ⟨[.str t275 2099, .str t275 2100, .str t174 2101, .int 122 0, .int 1 0, .int 0 0, .int 0 0, .int 3 0, .ref 98, .bool true, .int 276 0, .ref 99, .none, .ref 100, .ref 101, .ref 102, .int 2103 0, .int 122 0, .str t174 2104]⟩, ⟨[]⟩⟩,
  ⟨.type (σ 37), none, .func ⟨t275, t275, fArgs (nthP p 23), .stmts (fBody (nthP p 23)), fScope (nthP p 23), 3, [], .none, .none, .none, .str t274 1593, none, .ref 103, .none, 0⟩, ⟨[]⟩⟩,
  ⟨.type (σ 42), none, .fields ⟨[.none, .none, .none]⟩, ⟨[]⟩⟩,
  v106,
  ⟨.type (σ 38), none, .fields ⟨[.none, .int 2 0]⟩, ⟨[]⟩⟩,
  ⟨.type (σ 2), none, .seq ⟨[]⟩ 0, ⟨[]⟩⟩,
  ⟨.type (σ 39), none, .fields ⟨[.ref 108, .none, .none, .none, .bool false, .none]⟩, ⟨[]⟩⟩,
  ⟨.type (σ 2), none, .seq ⟨[]⟩ 0, ⟨[]⟩⟩,
  ⟨.none, none, .fields ⟨[]⟩, ⟨[]⟩⟩,
  ⟨.type (σ 2), none, .seq ⟨[.str t276 2117, .str t272 2118]⟩ 0, ⟨[]⟩⟩,
  ⟨.type (σ 2), none, .seq ⟨[]⟩ 0, ⟨[]⟩⟩,
  ⟨.none, none, .func ⟨t277, t277, fArgs (nthP p 27), .stmts (fBody (nthP p 27)), fScope (nthP p 27), 0, [], .none, .none, .none, .none, none, .none, .none, 0⟩, ⟨[]⟩⟩,
  ⟨.type (σ 3), none, .fields ⟨[.str t277 2114, .str t277 2115, .str t174 2116, .int 128 0, .int 1 0, .int 0 0, .int 0 0, .int 3 0, .ref 110, .bool true, .int 276 0, .ref 111, .none, .ref 112, .ref 113, .ref 114, .int 2119 0, .int 128 0, .str t174 2120]⟩, ⟨[]⟩⟩,
  ⟨.type (σ 37), none, .func ⟨t277, t277, fArgs (nthP p 27), .stmts (fBody (nthP p 27)), fScope (nthP p 27), 3, [], .none, .none, .none, .str t274 1593, none, .ref 115, .none, 0⟩, ⟨[]⟩⟩,
  ⟨.type (σ 2), none, .seq ⟨[]⟩ 0, ⟨[]⟩⟩,
  ⟨.none, none, .fields ⟨[]⟩, ⟨[]⟩⟩,
  ⟨.type (σ 2), none, .seq ⟨[.str t272 2125]⟩ 0, ⟨[]⟩⟩,
  ⟨.type (σ 2), none, .seq ⟨[]⟩ 0, ⟨[]⟩⟩,
  ⟨.none, none, .func ⟨t278, t278, fArgs (nthP p 28), .stmts (fBody (nthP p 28)), fScope (nthP p 28), 0, [], .none, .none, .none, .none, none, .none, .none, 0⟩, ⟨[]⟩⟩,
  ⟨.type (σ 3), none, .fields ⟨[.str t278 2122, .str t278 2123, .str t174 2124, .int 131 0, .int 1 0, .int 0 0, .int 0 0, .int 3 0, .ref 117, .bool true, .int 276 0, .ref 118, .none, .ref 119, .ref 120, .ref 121, .int 2126 0, .int 131 0, .str t174 2127]⟩, ⟨[]⟩⟩,
  ⟨.type (σ 37), none, .func ⟨t278, t278, fArgs (nthP p 28), .stmts (fBody (nthP p 28)), fScope (nthP p 28), 3, [], .none, .none, .none, .str t274 1593, none, .ref 122, .none, 0⟩, ⟨[]⟩⟩,
  ⟨.type (σ 2), none, .seq ⟨[]⟩ 0, ⟨[]⟩⟩,
  ⟨.none, none, .fields ⟨[]⟩, ⟨[]⟩⟩,
  ⟨.type (σ 2), none, .seq ⟨[.str t279 2134, .str t280 2135, .str t259 2136, .str t262 2137, .str t281 2138, .str t282 2139, .str t283 2140, .str t284 2141]⟩ 0, ⟨[]⟩⟩,
  ⟨.type (σ 2), none, .seq ⟨[]⟩ 0, ⟨[]⟩⟩,
  ⟨.none, none, .func ⟨t285, t285, fArgs (nthP p 30), .stmts (fBody (nthP p 30)), fScope (nthP p 30), 0, [], .none, .none, .none, .none, none, .none, .none, 0⟩, ⟨[]⟩⟩,
  ⟨.type (σ 3), none, .fields ⟨[.str t285 2131, .str t285 2132, .str t174 2133, .int 135 0, .int 2 0, .int 0 0, .int 0 0, .int 3 0, .ref 124, .bool true, .int 276 0, .ref 125, .none, .ref 126, .ref 127, .ref 128, .int 2142 0, .int 135 0, .str t174 2143]⟩, ⟨[]⟩⟩,
  ⟨.type (σ 37), none, .func ⟨t285, t285, fArgs (nthP p 30), .stmts (fBody (nthP p 30)), fScope (nthP p 30), 3, [], .none, .none, .none, .str t286 2129, none, .ref 129, .none, 0⟩, ⟨[]⟩⟩,
  ⟨.type (σ 2), none, .seq ⟨[]⟩ 0, ⟨[]⟩⟩,
  ⟨.none, none, .fields ⟨[]⟩, ⟨[]⟩⟩,
  ⟨.none, none, .func ⟨t287, t287, fArgs (nthP p 32), .stmts (fBody (nthP p 32)), fScope (nthP p 32), 0, [], .none, .none, .none, .none, none, .none, .none, 0⟩, ⟨[]⟩⟩,
  ⟨.type (σ 3), none, .fields ⟨[.str t287 2147, .str t287 2148, .str t174 2149, .int 168 0, .int 1 0, .int 0 0, .int 0 0, .int 3 0, .ref 131, .bool true, .int 276 0, .ref 132, .none, .none, .none, .ref 133, .int 2150 0, .int 168 0, .str t174 2151]⟩, ⟨[]⟩⟩,
  ⟨.type (σ 37), none, .func ⟨t287, t287, fArgs (nthP p 32), .stmts (fBody (nthP p 32)), fScope (nthP p 32), 3, [], .none, .none, .none, .str t288 2145, none, .ref 134, .none, 0⟩, ⟨[]⟩⟩,
  ⟨.type (σ 2), none, .seq ⟨[]⟩ 0, ⟨[]⟩⟩,
  ⟨.none, none, .fields ⟨[]⟩, ⟨[]⟩⟩,
  ⟨.none, none, .func ⟨t289, t289, fArgs (nthP p 33), .stmts (fBody (nthP p 33)), fScope (nthP p 33), 0, [], .none, .none, .none, .none, none, .none, .none, 0⟩, ⟨[]⟩⟩,
  ⟨.type (σ 3), none, .fields ⟨[.str t289 2153, .str t289 2154, .str t174 2155, .int 170 0, .int 1 0, .int 0 0, .int 0 0, .int 3 0, .ref 136, .bool true, .int 276 0, .ref 137, .none, .none, .none, .ref 138, .int 2156 0, .int 170 0, .str t174 2157]⟩, ⟨[]⟩⟩,
  ⟨.type (σ 37), none, .func ⟨t289, t289, fArgs (nthP p 33), .stmts (fBody (nthP p 33)), fScope (nthP p 33), 3, [], .none, .none, .none, .str t288 2145, none, .ref 139, .none, 0⟩, ⟨[]⟩⟩,
  ⟨.type (σ 2), none, .seq ⟨[]⟩ 0, ⟨[]⟩⟩,
  ⟨.none, none, .fields ⟨[]⟩, ⟨[]⟩⟩,
  ⟨.type (σ 2), none, .seq ⟨[.str t290 2162]⟩ 0, ⟨[]⟩⟩,
  ⟨.type (σ 2), none, .seq ⟨[]⟩ 0, ⟨[]⟩⟩,
  ⟨.none, none, .func ⟨t291, t291, fArgs (nthP p 34), .stmts (fBody (nthP p 34)), fScope (nthP p 34), 0, [], .none, .none, .none, .none, none, .none, .none, 0⟩, ⟨[]⟩⟩,
  ⟨.type (σ 3), none, .fields ⟨[.str t291 2159, .str t291 2160, .str t174 2161, .int 172 0, .int 1 0, .int 0 0, .int 0 0, .int 3 0, .ref 141, .bool true, .int 276 0, .ref 142, .none, .ref 143, .ref 144, .ref 145, .int 2163 0, .int 172 0, .str t174 2164]⟩, ⟨[]⟩⟩,
  ⟨.type (σ 37), none, .func ⟨t291, t291, fArgs (nthP p 34), .stmts (fBody (nthP p 34)), fScope (nthP p 34), 3, [], .none, .none, .none, .str t288 2145, none, .ref 146, .none, 0⟩, ⟨[]⟩⟩,
  ⟨.type (σ 2), none, .seq ⟨[]⟩ 0, ⟨[]⟩⟩,
  ⟨.none, none, .fields ⟨[]⟩, ⟨[]⟩⟩,
  ⟨.type (σ 2), none, .seq ⟨[.str t292 2169, .str t293 2170, .str t294 2171, .str t295 2172]⟩ 0, ⟨[]⟩⟩,
  ⟨.type (σ 2), none, .seq ⟨[]⟩ 0, ⟨[]⟩⟩,
  ⟨.none, none, .func ⟨t296, t296, fArgs (nthP p 35), .stmts (fBody (nthP p 35)), fScope (nthP p 35), 0, [], .none, .none, .none, .none, none, .none, .none, 0⟩, ⟨[]⟩⟩,
  ⟨.type (σ 3), none, .fields ⟨[.str t296 2166, .str t296 2167, .str t174 2168, .int 174 0, .int 2 0, .int 0 0, .int 0 0, .int 3 0, .ref 148, .bool true, .int 276 0, .ref 149, .none, .ref 150, .ref 151, .ref 152, .int 2173 0, .int 174 0, .str t174 2174]⟩, ⟨[]⟩⟩,
  ⟨.type (σ 37), none, .func ⟨t296, t296, fArgs (nthP p 35), .stmts (fBody (nthP p 35)), fScope (nthP p 35), 3, [], .none, .none, .none, .str t288 2145, none, .ref 153, .none, 0⟩, ⟨[]⟩⟩,
  ⟨.type (σ 2), none, .seq ⟨[]⟩ 0, ⟨[]⟩⟩,
  ⟨.none, none, .fields ⟨[]⟩, ⟨[]⟩⟩,
  ⟨.none, none, .func ⟨t297, t297, fArgs (nthP p 36), .stmts (fBody (nthP p 36)), fScope (nthP p 36), 0, [], .none, .none, .none, .none, none, .none, .none, 0⟩, ⟨[]⟩⟩,
  ⟨.type (σ 3), none, .fields ⟨[.str t297 2176, .str t297 2177, .str t174 2178, .int 182 0, .int 2 0, .int 0 0, .int 0 0, .int 3 0, .ref 155, .bool true, .int 276 0, .ref 156, .none, .none, .none, .ref 157, .int 2179 0, .int 182 0, .str t174 2180]⟩, ⟨[]⟩⟩,
  ⟨.type (σ 37), none, .func ⟨t297, t297, fArgs (nthP p 36), .stmts (fBody (nthP p 36)), fScope (nthP p 36), 3, [], .none, .none, .none, .str t288 2145, none, .ref 158, .none, 0⟩, ⟨[]⟩⟩,
  ⟨.type (σ 2), none, .seq ⟨[]⟩ 0, ⟨[]⟩⟩,
  ⟨.none, none, .fields ⟨[]⟩, ⟨[]⟩⟩,
  ⟨.type (σ 2), none, .seq ⟨[.str t298 2185, .str t299 2186, .str t300 2187, .str t226 2188, .str t301 2189, .str t295 2190]⟩ 0, ⟨[]⟩⟩,
  ⟨.type (σ 2), none, .seq ⟨[]⟩ 0, ⟨[]⟩⟩,
  ⟨.none, none, .func ⟨t302, t302, fArgs (nthP p 37), .stmts (fBody (nthP p 37)), fScope (nthP p 37), 0, [], .none, .none, .none, .none, none, .none, .none, 0⟩, ⟨[]⟩⟩,
  ⟨.type (σ 3), none, .fields ⟨[.str t302 2182, .str t302 2183, .str t174 2184, .int 190 0, .int 1 0, .int 0 0, .int 0 0, .int 3 0, .ref 160, .bool true, .int 276 0, .ref 161, .none, .ref 162, .ref 163, .ref 164, .int 2191 0, .int 190 0, .str t174 2192]⟩, ⟨[]⟩⟩,
  ⟨.type (σ 37), none, .func ⟨t302, t302, fArgs (nthP p 37), .stmts (fBody (nthP p 37)), fScope (nthP p 37), 3, [], .none, .none, .none, .str t288 2145, none, .ref 165, .none, 0⟩, ⟨[]⟩⟩,
  ⟨.type (σ 2), none, .seq ⟨[]⟩ 0, ⟨[]⟩⟩,
  ⟨.none, none, .fields ⟨[]⟩, ⟨[]⟩⟩,
  ⟨.none, none, .func ⟨t303, t303, fArgs (nthP p 38), .stmts (fBody (nthP p 38)), fScope (nthP p 38), 0, [], .none, .none, .none, .none, none, .none, .none, 0⟩, ⟨[]⟩⟩,
  ⟨.type (σ 3), none, .fields ⟨[.str t303 2194, .str t303 2195, .str t174 2196, .int 212 0, .int 3 0, .int 0 0, .int 0 0, .int 3 0, .ref 167, .bool true, .int 276 0, .ref 168, .none, .none, .none, .ref 169, .int 2197 0, .int 212 0, .str t174 2198]⟩, ⟨[]⟩⟩,
  ⟨.type (σ 37), none, .func ⟨t303, t303, fArgs (nthP p 38), .stmts (fBody (nthP p 38)), fScope (nthP p 38), 3, [], .none, .none, .none, .str t288 2145, none, .ref 170, .none, 0⟩, ⟨[]⟩⟩,
  ⟨.type (σ 2), none, .seq ⟨[]⟩ 0, ⟨[]⟩⟩,
  ⟨.none, none, .fields ⟨[]⟩, ⟨[]⟩⟩,
  ⟨.none, none, .func ⟨t304, t304, fArgs (nthP p 39), .stmts (fBody (nthP p 39)), fScope (nthP p 39), 0, [], .none, .none, .none, .none, none, .none, .none, 0⟩, ⟨[]⟩⟩,
  ⟨.type (σ 3), none, .fields ⟨[.str t304 2200, .str t304 2201, .str t174 2202, .int 216 0, .int 2 0, .int 0 0, .int 0 0, .int 3 0, .ref 172, .bool true, .int 276 0, .ref 173, .none, .none, .none, .ref 174, .int 2203 0, .int 216 0, .str t174 2204]⟩, ⟨[]⟩⟩,
  ⟨.type (σ 37), none, .func ⟨t304, t304, fArgs (nthP p 39), .stmts (fBody (nthP p 39)), fScope (nthP p 39), 3, [], .none, .none, .none, .str t288 2145, none, .ref 175, .none, 0⟩, ⟨[]⟩⟩,
  ⟨.type (σ 2), none, .seq ⟨[]⟩ 0, ⟨[]⟩⟩,
  ⟨.none, none, .fields ⟨[]⟩, ⟨[]⟩⟩,
  ⟨.none, none, .func ⟨t305, t305, fArgs (nthP p 40), .stmts (fBody (nthP p 40)), fScope (nthP p 40), 0, [], .none, .none, .none, .none, none, .none, .none, 0⟩, ⟨[]⟩⟩,
  ⟨.type (σ 3), none, .fields ⟨[.str t305 2206, .str t305 2207, .str t174 2208, .int 228 0, .int 1 0, .int 0 0, .int 0 0, .int 3 0, .ref 177, .bool true, .int 276 0, .ref 178, .none, .none, .none, .ref 179, .int 2209 0, .int 228 0, .str t174 2210]⟩, ⟨[]⟩⟩,
  ⟨.type (σ 37), none, .func ⟨t305, t305, fArgs (nthP p 40), .stmts (fBody (nthP p 40)), fScope (nthP p 40), 3, [], .none, .none, .none, .str t288 2145, none, .ref 180, .none, 0⟩, ⟨[]⟩⟩]
noncomputable def ob0 : List Obj := (objs σ p P (v3 σ P (.str t160 164) 9 [] 10) default default default default).take 28
noncomputable def obA : List Obj := (objs σ p P (v3 σ P (.str t160 164) 9 [] 10) (⟨.none, none, .fields ⟨[]⟩, ⟨[]⟩⟩) default default default).take 32
noncomputable def obB : List Obj := (objs σ p P (v3 σ P (.str t160 164) 9 [] 10) (⟨.none, none, .fields ⟨[]⟩, ⟨[]⟩⟩) default default default).take 32
noncomputable def ob4 : List Obj := (objs σ p P (v3 σ P (.str t255 331) 11 [] 12) (⟨.none, none, .fields ⟨[.int 4 0, .int 0 0, .ref 42]⟩, ⟨[]⟩⟩) default default default).take 44
noncomputable def ob5 : List Obj := (objs σ p P (v3 σ P (.str t255 331) 12 [] 13) (⟨.none, none, .fields ⟨[.int 4 0, .int 0 0, .ref 42]⟩, ⟨[]⟩⟩) default default default).take 49
noncomputable def ob10 : List Obj := (objs σ p P (v3 σ P (.str t228 486) 16 [] 17) (⟨.none, none, .fields ⟨[.int 4 0, .int 0 0, .ref 42, .int 10 0, .int 0 0, .ref 54, .int 17 0, .int 0 0, .ref 61, .int 79 0, .int 0 0, .ref 68]⟩, ⟨[]⟩⟩) default default default).take 75
noncomputable def ob11 : List Obj := (objs σ p P (v3 σ P (.str t228 486) 17 [] 18) (⟨.none, none, .fields ⟨[.int 4 0, .int 0 0, .ref 42, .int 10 0, .int 0 0, .ref 54, .int 17 0, .int 0 0, .ref 61, .int 79 0, .int 0 0, .ref 68]⟩, ⟨[]⟩⟩) default default default).take 81
noncomputable def ob18 : List Obj := (objs σ p P (v3 σ P (.str t274 1593) 23 [] 24) (⟨.none, none, .fields ⟨[.int 4 0, .int 0 0, .ref 42, .int 10 0, .int 0 0, .ref 54, .int 17 0, .int 0 0, .ref 61, .int 79 0, .int 0 0, .ref 68]⟩, ⟨[]⟩⟩) (lst σ qm) (lst σ qm) default).take 85
noncomputable def ob19 : List Obj := (objs σ p P (v3 σ P (.str t274 1593) 23 [⟨PyData.keyHash P t261, .str t261 1603, .int 57 1800⟩] 25) (⟨.none, none, .fields ⟨[.int 4 0, .int 0 0, .ref 42, .int 10 0, .int 0 0, .ref 54, .int 17 0, .int 0 0, .ref 61, .int 79 0, .int 0 0, .ref 68]⟩, ⟨[]⟩⟩) (lst σ h1) (lst σ qm) default).take 88
noncomputable def ob21 : List Obj := (objs σ p P (v3 σ P (.str t274 1593) 23 [⟨PyData.keyHash P t261, .str t261 1603, .int 9 2089⟩] 25) (⟨.none, none, .fields ⟨[.int 4 0, .int 0 0, .ref 42, .int 10 0, .int 0 0, .ref 54, .int 17 0, .int 0 0, .ref 61, .int 79 0, .int 0 0, .ref 68]⟩, ⟨[]⟩⟩) (lst σ h2) (lst σ b1) default).take 91
noncomputable def ob24 : List Obj := (objs σ p P (v3 σ P (.str t274 1593) 23 [⟨PyData.keyHash P t261, .str t261 1603, .int 9 2089⟩, ⟨PyData.keyHash P t273, .str t273 2098, .ref 97⟩, ⟨PyData.keyHash P t275, .str t275 2105, .ref 104⟩, ⟨PyData.keyHash P t306, .str t306 2106, .ref 106⟩] 28) (⟨.none, none, .fields ⟨[.int 4 0, .int 0 0, .ref 42, .int 10 0, .int 0 0, .ref 54, .int 17 0, .int 0 0, .ref 61, .int 79 0, .int 0 0, .ref 68, .int 120 0, .int 0 0, .ref 96, .int 122 0, .int 0 0, .ref 103]⟩, ⟨[]⟩⟩) (lst σ h2) (lst σ b1) (lst σ b1)).take 107
noncomputable def ob25 : List Obj := (objs σ p P (v3 σ P (.str t274 1593) 23 [⟨PyData.keyHash P t261, .str t261 1603, .int 10 2111⟩, ⟨PyData.keyHash P t273, .str t273 2098, .ref 97⟩, ⟨PyData.keyHash P t275, .str t275 2105, .ref 104⟩, ⟨PyData.keyHash P t306, .str t306 2106, .ref 106⟩] 28) (⟨.none, none, .fields ⟨[.int 4 0, .int 0 0, .ref 42, .int 10 0, .int 0 0, .ref 54, .int 17 0, .int 0 0, .ref 61, .int 79 0, .int 0 0, .ref 68, .int 120 0, .int 0 0, .ref 96, .int 122 0, .int 0 0, .ref 103]⟩, ⟨[]⟩⟩) (lst σ h2) (lst σ b1) (lst σ b2)).take 110
noncomputable def ob40 : List Obj := (objs σ p P (v3 σ P (.str t288 2145) 38 [] 41) (⟨.none, none, .fields ⟨[.int 4 0, .int 0 0, .ref 42, .int 10 0, .int 0 0, .ref 54, .int 17 0, .int 0 0, .ref 61, .int 79 0, .int 0 0, .ref 68, .int 120 0, .int 0 0, .ref 96, .int 122 0, .int 0 0, .ref 103, .int 128 0, .int 0 0, .ref 115, .int 131 0, .int 0 0, .ref 122, .int 135 0, .int 0 0, .ref 129, .int 168 0, .int 0 0, .ref 134, .int 170 0, .int 0 0, .ref 139, .int 172 0, .int 0 0, .ref 146, .int 174 0, .int 0 0, .ref 153, .int 182 0, .int 0 0, .ref 158, .int 190 0, .int 0 0, .ref 165, .int 212 0, .int 0 0, .ref 170, .int 216 0, .int 0 0, .ref 175, .int 228 0, .int 0 0, .ref 180]⟩, ⟨[]⟩⟩) (lst σ h2) (lst σ b1) (lst σ b2)).take 182
end
noncomputable def lits : List String := ["dict", "module", "tuple", "code", "frame", "off-the-table:_sre.__loader__:shared#opaque", "off-the-table:_sre.__spec__:shared#opaque", "_sre.compile", "off-the-table:_sre.template:shared#opaque", "off-the-table:_sre.getcodesize:shared#opaque", "off-the-table:_sre.ascii_iscased:shared#opaque", "off-the-table:_sre.unicode_iscased:shared#opaque", "off-the-table:_sre.ascii_tolower:shared#opaque", "off-the-table:_sre.unicode_tolower:shared#opaque", "_frozen_importlib.BuiltinImporter.__doc__:str#opaque", "_frozen_importlib.BuiltinImporter.find_spec#opaque", "_frozen_importlib.BuiltinImporter.create_module#opaque", "_frozen_importlib.BuiltinImporter.exec_module#opaque", "_frozen_importlib.BuiltinImporter.get_code#opaque", "_frozen_importlib.BuiltinImporter.get_source#opaque", "_frozen_importlib.BuiltinImporter.is_package#opaque", "_frozen_importlib.BuiltinImporter.load_module#opaque", "type", "object", "getset_descriptor", "function.__dict__", "function.__dict__#set", "ExceptionGroup.__weakref__", "list", "_frozen_importlib.ModuleSpec.__doc__:str#opaque", "_frozen_importlib.ModuleSpec.__init__#opaque", "_frozen_importlib.ModuleSpec.__repr__#opaque", "_frozen_importlib.ModuleSpec.__eq__#opaque", "_frozen_importlib.ModuleSpec.cached#opaque", "_frozen_importlib.ModuleSpec.parent#opaque", "_frozen_importlib.ModuleSpec.has_location#opaque", "re.Pattern", "function", "bytes_iterator", "StopIteration", "range", "range_iterator", "slice", "__main__.__loader__#opaque", "builtins.__doc__:str#opaque", "builtins.__package__:str#opaque", "builtins.__loader__:shared#opaque", "builtins.__spec__#opaque", "__build_class__", "__import__", "abs", "all", "any", "ascii", "bin", "breakpoint", "callable", "chr", "compile", "delattr", "dir", "divmod", "eval", "exec", "format", "getattr", "globals", "hasattr", "hash", "hex", "id", "input", "isinstance", "issubclass", "iter", "aiter", "len", "locals", "max", "min", "next", "anext", "oct", "ord", "pow", "print", "repr", "round", "setattr", "sorted", "sum", "vars", "bool", "memoryview", "bytearray", "bytes", "classmethod", "complex", "enumerate", "filter", "float", "frozenset", "property", "int", "map", "reversed", "set", "staticmethod", "str", "super", "zip", "BaseException", "BaseExceptionGroup", "Exception", "GeneratorExit", "KeyboardInterrupt", "SystemExit", "ArithmeticError", "AssertionError", "AttributeError", "BufferError", "EOFError", "ImportError", "LookupError", "MemoryError", "NameError", "OSError", "ReferenceError", "RuntimeError", "StopAsyncIteration", "SyntaxError", "SystemError", "TypeError", "ValueError", "Warning", "FloatingPointError", "OverflowError", "ZeroDivisionError", "BytesWarning", "DeprecationWarning", "EncodingWarning", "FutureWarning", "ImportWarning", "PendingDeprecationWarning", "ResourceWarning", "RuntimeWarning", "SyntaxWarning", "UnicodeWarning", "UserWarning", "BlockingIOError", "ChildProcessError", "ConnectionError", "FileExistsError", "FileNotFoundError", "InterruptedError", "IsADirectoryError", "NotADirectoryError", "PermissionError", "ProcessLookupError", "TimeoutError", "IndentationError", "_IncompleteInputError", "IndexError", "KeyError", "ModuleNotFoundError", "NotImplementedError", "PythonFinalizationError", "RecursionError", "UnboundLocalError", "UnicodeError", "BrokenPipeError", "ConnectionAbortedError", "ConnectionRefusedError", "ConnectionResetError", "TabError", "UnicodeDecodeError", "UnicodeEncodeError", "UnicodeTranslateError", "ExceptionGroup", "open", "builtins.quit#opaque", "builtins.exit#opaque", "builtins.copyright#opaque", "builtins.credits#opaque", "builtins.license#opaque", "builtins.help#opaque", "_sre.template", "_sre.getcodesize", "_sre.ascii_iscased", "_sre.unicode_iscased", "_sre.ascii_tolower", "_sre.unicode_tolower"]
noncomputable def litT : List String := [PySem.W.SL.s14018661285674007319x4, PySem.W.SL.s6658869562736209489x6, PySem.W.SL.s2766695959194262286x5, PySem.W.SL.s5856160107412720595x4, PySem.W.SL.s658472552662922059x5, "off-the-table:_sre.__loader__:shared#opaque", "off-the-table:_sre.__spec__:shared#opaque", PySem.W.SL.s492968859115322481x12, "off-the-table:_sre.template:shared#opaque", "off-the-table:_sre.getcodesize:shared#opaque", "off-the-table:_sre.ascii_iscased:shared#opaque", "off-the-table:_sre.unicode_iscased:shared#opaque", "off-the-table:_sre.ascii_tolower:shared#opaque", "off-the-table:_sre.unicode_tolower:shared#opaque", "_frozen_importlib.BuiltinImporter.__doc__:str#opaque", "_frozen_importlib.BuiltinImporter.find_spec#opaque", "_frozen_importlib.BuiltinImporter.create_module#opaque", "_frozen_importlib.BuiltinImporter.exec_module#opaque", "_frozen_importlib.BuiltinImporter.get_code#opaque", "_frozen_importlib.BuiltinImporter.get_source#opaque", "_frozen_importlib.BuiltinImporter.is_package#opaque", "_frozen_importlib.BuiltinImporter.load_module#opaque", PySem.W.SL.s17162191345867700912x4, PySem.W.SL.s2742458400755230247x6, PySem.W.SL.s14755015743595814543x17, PySem.W.SL.s6511155373996960695x17, PySem.W.SL.s12411053484034534018x21, PySem.W.SL.s10220274742760427390x26, PySem.W.SL.s9222952809800978799x4, "_frozen_importlib.ModuleSpec.__doc__:str#opaque", "_frozen_importlib.ModuleSpec.__init__#opaque", "_frozen_importlib.ModuleSpec.__repr__#opaque", "_frozen_importlib.ModuleSpec.__eq__#opaque", "_frozen_importlib.ModuleSpec.cached#opaque", "_frozen_importlib.ModuleSpec.parent#opaque", "_frozen_importlib.ModuleSpec.has_location#opaque", PySem.W.SL.s12171344214640291687x10, PySem.W.SL.s7174869446012820540x8, PySem.W.SL.s1378417608194177226x14, PySem.W.SL.s5991306692159431302x13, PySem.W.SL.s1438033511350832697x5, PySem.W.SL.s15992201931430999065x14, PySem.W.SL.s4674234679698826739x5, PySem.W.SL.s7097527257260152453x26, "builtins.__doc__:str#opaque", "builtins.__package__:str#opaque", "builtins.__loader__:shared#opaque", PySem.W.SL.s11665532747177232413x24, PySem.W.SL.s15183661809925369436x15, PySem.W.SL.s13915890719876406383x10, PySem.W.SL.s13459172003223722735x3, PySem.W.SL.s10557405761357834076x3, PySem.W.SL.s4233737765568776869x3, PySem.W.SL.s2508922471967985374x5, PySem.W.SL.s15574269061696679450x3, PySem.W.SL.s6016482663378992977x10, PySem.W.SL.s5596568736180474577x8, PySem.W.SL.s2839554839881490554x3, PySem.W.SL.s725004073602090463x7, PySem.W.SL.s9436932552931045734x7, PySem.W.SL.s2754603736356183583x3, PySem.W.SL.s15185746759980889043x6, PySem.W.SL.s8192189862530294059x4, PySem.W.SL.s7038307821325472102x4, PySem.W.SL.s5662562618415449548x6, PySem.W.SL.s15281542589158584767x7, PySem.W.SL.s17651547275483570877x7, PySem.W.SL.s4036449017235975746x7, PySem.W.SL.s8879979712987360175x4, PySem.W.SL.s1801250619170735830x3, PySem.W.SL.s17659931425627118568x2, PySem.W.SL.s6063217899685152688x5, PySem.W.SL.s8008927332132565319x10, PySem.W.SL.s3544116645089599534x10, PySem.W.SL.s13761710972054866084x4, PySem.W.SL.s12896375587409280029x5, PySem.W.SL.s13014049009108672802x3, PySem.W.SL.s13935586738268321596x6, PySem.W.SL.s8200498257699607233x3, PySem.W.SL.s14114244577727609259x3, PySem.W.SL.s1499430450269397089x4, PySem.W.SL.s8755793994789770505x5, PySem.W.SL.s15725212667919936108x3, PySem.W.SL.s15791221867095933363x3, PySem.W.SL.s81309575031448614x3, PySem.W.SL.s8069831620301644142x5, PySem.W.SL.s10061844253413749634x4, PySem.W.SL.s9496514870978017513x5, PySem.W.SL.s8899691144933366716x7, PySem.W.SL.s15201008993051130160x6, PySem.W.SL.s741896355592496720x3, PySem.W.SL.s17925004256654032244x4, PySem.W.SL.s11695548795398191787x4, PySem.W.SL.s4156966113859768872x10, PySem.W.SL.s9501651726347032510x9, PySem.W.SL.s15722918466584999320x5, PySem.W.SL.s591115383303110208x11, PySem.W.SL.s15721156781594690315x7, PySem.W.SL.s14340494229221121180x9, PySem.W.SL.s13429844117177748173x6, PySem.W.SL.s16463266125957815391x5, PySem.W.SL.s4922535414793169389x9, PySem.W.SL.s8101838861749082086x8, PySem.W.SL.s7066276694103001551x3, PySem.W.SL.s462964344163437139x3, PySem.W.SL.s14365286008749172514x8, PySem.W.SL.s3642769012341782148x3, PySem.W.SL.s16656946322747308186x12, PySem.W.SL.s10796804682411823810x3, PySem.W.SL.s4290257624100764138x5, PySem.W.SL.s14339709457334898076x3, PySem.W.SL.s4278001404047624695x13, PySem.W.SL.s6585700554429387442x18, PySem.W.SL.s5946037652744460706x9, PySem.W.SL.s7410770068591931388x13, PySem.W.SL.s11817881795495490833x17, PySem.W.SL.s15679963881808890155x10, PySem.W.SL.s3871700062485845797x15, PySem.W.SL.s7689518266570723881x14, PySem.W.SL.s9001593270443806431x14, PySem.W.SL.s6882542574934516792x11, PySem.W.SL.s14403400214490484960x8, PySem.W.SL.s14457978657717015782x11, PySem.W.SL.s1753610191782819921x11, PySem.W.SL.s14119380538032626715x11, PySem.W.SL.s11437920000406562045x9, PySem.W.SL.s10852414792293593619x7, PySem.W.SL.s14816307405966870543x14, PySem.W.SL.s8682627914449686677x12, PySem.W.SL.s4428170145600203450x18, PySem.W.SL.s16067994140765818257x11, PySem.W.SL.s2327743974964600596x11, PySem.W.SL.s2804747833354056582x9, PySem.W.SL.s6070975301684473832x10, PySem.W.SL.s14270485950484850486x7, PySem.W.SL.s12041534306414923332x18, PySem.W.SL.s2531307568338490285x13, PySem.W.SL.s631175304937289666x17, PySem.W.SL.s5144983644357021410x12, PySem.W.SL.s18039099521571816885x18, PySem.W.SL.s6011586214260557989x15, PySem.W.SL.s5430567037509283100x13, PySem.W.SL.s8117915138073963741x13, PySem.W.SL.s3423317712779056401x25, PySem.W.SL.s2007317383269046180x15, PySem.W.SL.s17481586968713580700x14, PySem.W.SL.s2450899226349176912x13, PySem.W.SL.s16626165730633575011x14, PySem.W.SL.s14288496050688921416x11, PySem.W.SL.s5735081916595925998x15, PySem.W.SL.s3865607918536308442x17, PySem.W.SL.s13337502604062700212x15, PySem.W.SL.s13114017843053701147x15, PySem.W.SL.s17467278006356818441x17, PySem.W.SL.s17722149559621369488x16, PySem.W.SL.s7855274175708717672x17, PySem.W.SL.s13351283678309829046x18, PySem.W.SL.s6668348653404991179x15, PySem.W.SL.s12913350958174193794x18, PySem.W.SL.s16115879512475548326x12, PySem.W.SL.s15920661018069861047x16, PySem.W.SL.s10779130036587390575x21, PySem.W.SL.s7801419657504700863x10, PySem.W.SL.s1688129525768580628x8, PySem.W.SL.s1031832959479892071x19, PySem.W.SL.s8991790508128307865x19, PySem.W.SL.s14539662485746970245x23, PySem.W.SL.s11643622729373238714x14, PySem.W.SL.s3386828779285465597x17, PySem.W.SL.s13042696260734638735x12, PySem.W.SL.s18239426817015966623x15, PySem.W.SL.s1270395311379034370x22, PySem.W.SL.s10696252587037064777x22, PySem.W.SL.s7852717498200857586x20, PySem.W.SL.s6377248116197321094x8, PySem.W.SL.s3834378056692298002x18, PySem.W.SL.s17586630440231065808x18, PySem.W.SL.s15234114252648025395x21, PySem.W.SL.s8496462677383758984x14, PySem.W.SL.s16789243406116112673x4, PySem.W.SL.s14400166428656793546x20, PySem.W.SL.s5857708277339239366x20, "builtins.copyright#opaque", "builtins.credits#opaque", "builtins.license#opaque", PySem.W.SL.s7804999707787243718x20, PySem.W.SL.s4732307381456220424x13, PySem.W.SL.s3100639726926479615x16, PySem.W.SL.s1824190863884607803x18, PySem.W.SL.s15517275503517908518x20, PySem.W.SL.s13462958993096105742x18, PySem.W.SL.s7205697838950415266x20]
noncomputable def sg (i : Nat) : String := lits.getD i ""
noncomputable def sgT (i : Nat) : String := litT.getD i ""
theorem lits_eq : lits = litT := by kernel_rfl
theorem sg_eq : sg = sgT := by
  unfold sg sgT
  rw [lits_eq]
noncomputable def bt (os : List Obj) : Nat → Nat → Nat → BT
  | 0, _, _ => .nil
  | f + 1, a, b => match os[b]? with
    | some o => .node o (bt os f (2 * a) (a + b)) (bt os f (2 * a) (2 * a + b))
    | none => .nil
end Mine
set_option maxRecDepth 100000
set_option maxHeartbeats 8000000
namespace Mine
open PySem PySem.W PyProof.Rows PySem.Calls PySem.Spec
theorem sd_sre : sreFenced PySem.Challenge.pw_in0247_01.main = true := by kernel_rfl
theorem sd_res : namesResolve PySem.Challenge.pw_in0247_01 = true := by kernel_rfl
theorem sd_att : (namesMeet PySem.Challenge.pw_in0247_01 PySem.Challenge.pw_in0247_01.main.body fun _ n => attrL n) = true := by kernel_rfl
theorem sd_looks : looksOpen PySem.Challenge.pw_in0247_01 = true := by
  unfold looksOpen
  simp only [sd_sre, sd_res, sd_att, Bool.true_and, Bool.and_true]
  kernel_rfl
theorem sd_part : PySem.Challenge.rw_in0247_01.row.partSaid = true := by
  unfold OpenRow.partSaid
  rw [show looksOpen PySem.Challenge.rw_in0247_01.row.prog = true from sd_looks]
  kernel_rfl
theorem sd_row : PySem.Challenge.rw_in0247_01.row.wellSaid = true := by
  unfold OpenRow.wellSaid
  rw [sd_part]
  kernel_rfl
theorem said : PySem.Challenge.rw_in0247_01.wellSaid = true := by
  unfold OpenLaw.wellSaid
  rw [sd_row]
  kernel_rfl
noncomputable abbrev pt : Program := PySem.Challenge.pw_in0247_01
noncomputable def envP (p : Program) : Env := { scope := p.main.scope, locals := mainNs, globals := mainNs, cells := [], code := .ref 30, frame := some 31 }
noncomputable def cP (p : Program) : Code := .body (behindTheImports p) (envP p)
noncomputable def stT (o : List Obj) (n tk : Nat) (os : OsState) : SharedT := ⟨bt o 9 1 0, n, {}, ⟨[]⟩, {}, tk, os⟩
noncomputable def sts (p : Program) (a n : Nat) : List Stmt := ((behindTheImports p).drop a).take n
noncomputable def Runs (p : Program) (σ : Nat → String) (N a n : Nat) (ob ob' : (Nat → String) → Program → Params → List Obj) (k k' tk tk' : Nat) (q q' : Pos) (w : World) : Prop :=
  ∀ os, segRunT treeTable p w 28 (some (.ref 6)) 1 N (stT (ob σ p w.params) k tk os) (piecesOf (sts p a n) (envP p) (cP p) q [topFrame ⟨0, 0, 0, 0⟩]) = some (.next, stT (ob' σ p w.params) k' tk' os, cP p, q')
theorem runs_of {N a n : Nat} {ob ob' : (Nat → String) → Program → Params → List Obj} {k k' tk tk' : Nat} {q q' : Pos} {w : World} 
    (h : (fun os => PySem.W.Fast.tw10110043849684766642 PySem.W.Fast.tw14364793385576792824 pt w 28 (some (.ref 6)) 1 N (stT (ob sgT pt w.params) k tk os) (piecesOf (sts pt a n) (envP pt) (cP pt) q [topFrame ⟨0, 0, 0, 0⟩])) = fun os => some (.next, stT (ob' sgT pt w.params) k' tk' os, cP pt, q')) :
    Runs PySem.Challenge.pw_in0247_01 sg N a n ob ob' k k' tk tk' q q' w := by
  unfold Runs
  rw [sg_eq, PySem.W.Fast.te10110043849684766642, PySem.W.Fast.te14364793385576792824]
  exact fun os => congrFun h os
noncomputable abbrev cT : String := "comprehension-iter-twice"
theorem run24 (w : World) : Runs PySem.Challenge.pw_in0247_01 sg 200 21 3 ob21 ob24 91 107 2092 2107 ⟨118, 9, 118, 110⟩ ⟨124, 0, 124, 23⟩ w := runs_of (by kernel_rfl)
theorem run25_f (w : World) : Runs PySem.Challenge.pw_in0247_01 sg 200 24 1 ob24 ob25 107 110 2107 2114 ⟨124, 0, 124, 23⟩ ⟨125, 9, 125, 16⟩ (w.withFollow "special-get-raises" false) := runs_of (by kernel_rfl)
theorem run25_t (w : World) : Runs PySem.Challenge.pw_in0247_01 sg 200 24 1 ob24 ob25 107 110 2107 2114 ⟨124, 0, 124, 23⟩ ⟨125, 9, 125, 16⟩ (w.withFollow "special-get-raises" true) := runs_of (by kernel_rfl)
theorem run25 : ∀ w, Runs PySem.Challenge.pw_in0247_01 sg 200 24 1 ob24 ob25 107 110 2107 2114 ⟨124, 0, 124, 23⟩ ⟨125, 9, 125, 16⟩ w := byRow2 "special-get-raises" run25_f run25_t
theorem run40 (w : World) : Runs PySem.Challenge.pw_in0247_01 sg 600 25 15 ob25 ob40 110 182 2114 2212 ⟨125, 9, 125, 16⟩ ⟨228, 0, 248, 110⟩ w := runs_of (by kernel_rfl)
end Mine
set_option maxRecDepth 100000
set_option maxHeartbeats 8000000
namespace Mine
open PySem PySem.W PyProof.Rows PySem.Calls PySem.Spec
theorem run4 (w : World) : Runs PySem.Challenge.pw_in0247_01 sg 300 0 4 obB ob4 32 44 282 333 ⟨0, 0, 0, 0⟩ ⟨8, 0, 8, 8⟩ w := runs_of (by kernel_rfl)
theorem run5_ff (w : World) : Runs PySem.Challenge.pw_in0247_01 sg 1400 4 1 ob4 ob5 44 49 333 479 ⟨8, 0, 8, 8⟩ ⟨9, 0, 9, 18⟩ ((w.withFollow "special-get-raises" false).withFollow cT false) := runs_of (by kernel_rfl)
theorem run5_ft (w : World) : Runs PySem.Challenge.pw_in0247_01 sg 1400 4 1 ob4 ob5 44 49 333 479 ⟨8, 0, 8, 8⟩ ⟨9, 0, 9, 18⟩ ((w.withFollow "special-get-raises" true).withFollow cT false) := runs_of (by kernel_rfl)
theorem run5_f (w : World) : Runs PySem.Challenge.pw_in0247_01 sg 1400 4 1 ob4 ob5 44 49 333 479 ⟨8, 0, 8, 8⟩ ⟨9, 0, 9, 18⟩ (w.withFollow cT false) := byRow2 "special-get-raises" (P := fun w => Runs PySem.Challenge.pw_in0247_01 sg 1400 4 1 ob4 ob5 44 49 333 479 ⟨8, 0, 8, 8⟩ ⟨9, 0, 9, 18⟩ (w.withFollow cT false)) run5_ff run5_ft w
theorem run5_tf (w : World) : Runs PySem.Challenge.pw_in0247_01 sg 1400 4 1 ob4 ob5 44 49 333 479 ⟨8, 0, 8, 8⟩ ⟨9, 0, 9, 18⟩ ((w.withFollow "special-get-raises" false).withFollow cT true) := runs_of (by kernel_rfl)
theorem run5_tt (w : World) : Runs PySem.Challenge.pw_in0247_01 sg 1400 4 1 ob4 ob5 44 49 333 479 ⟨8, 0, 8, 8⟩ ⟨9, 0, 9, 18⟩ ((w.withFollow "special-get-raises" true).withFollow cT true) := runs_of (by kernel_rfl)
theorem run5_t (w : World) : Runs PySem.Challenge.pw_in0247_01 sg 1400 4 1 ob4 ob5 44 49 333 479 ⟨8, 0, 8, 8⟩ ⟨9, 0, 9, 18⟩ (w.withFollow cT true) := byRow2 "special-get-raises" (P := fun w => Runs PySem.Challenge.pw_in0247_01 sg 1400 4 1 ob4 ob5 44 49 333 479 ⟨8, 0, 8, 8⟩ ⟨9, 0, 9, 18⟩ (w.withFollow cT true)) run5_tf run5_tt w
theorem run5 : ∀ w, Runs PySem.Challenge.pw_in0247_01 sg 1400 4 1 ob4 ob5 44 49 333 479 ⟨8, 0, 8, 8⟩ ⟨9, 0, 9, 18⟩ w := byRow2 cT run5_f run5_t
theorem run10 (w : World) : Runs PySem.Challenge.pw_in0247_01 sg 400 5 5 ob5 ob10 49 75 479 555 ⟨9, 0, 9, 18⟩ ⟨106, 0, 106, 20⟩ w := runs_of (by kernel_rfl)
end Mine
set_option maxRecDepth 100000
set_option maxHeartbeats 8000000
namespace Mine
open PySem PySem.W PyProof.Rows PySem.Calls PySem.Spec
section
variable {tb : String → Option Builtin} {p : Program} {w : World} {n₀ : Nat} {ann : Option Value} {b : Nat}
theorem go_then : ∀ {k n : Nat} {s s' : SharedT} {t t' : Thread} {r : Option (Flow × SharedT × Code × Pos)}, segGoT tb p w n₀ ann b k s t = some (s', t') → segRunT tb p w n₀ ann b n s' t' = r → segRunT tb p w n₀ ann b (n + k) s t = r
  | 0, n, s, s', t, t', r, h, g => by
    cases h
    exact g
  | k + 1, n, s, s', t, t', r, h, g => by
    unfold segGoT at h
    show segRunT tb p w n₀ ann b ((n + k) + 1) s t = r
    unfold segRunT
    cases he : endAt b t with
    | some x => rw [he] at h; cases h
    | none =>
      rw [he] at h
      cases hk : stepOk n₀ ann t with
      | false => rw [hk] at h; cases h
      | true =>
        rw [hk] at h
        cases hs : stepT (denote tb) p w s t with
        | none => rw [hs] at h; cases h
        | some r => rw [hs] at h; exact go_then h g
theorem run_more : ∀ {n m : Nat} {s : SharedT} {t : Thread} {r : Flow × SharedT × Code × Pos}, segRunT tb p w n₀ ann b n s t = some r → segRunT tb p w n₀ ann b (n + m) s t = some r
  | 0, m, s, t, r, h => by cases h
  | n + 1, m, s, t, r, h => by
    rw [show n + 1 + m = (n + m) + 1 by omega]
    unfold segRunT at h ⊢
    cases he : endAt b t with
    | some x => rw [he] at h; exact h
    | none =>
      rw [he] at h
      cases hk : stepOk n₀ ann t with
      | false => rw [hk] at h; cases h
      | true =>
        rw [hk] at h
        cases hs : stepT (denote tb) p w s t with
        | none => rw [hs] at h; cases h
        | some r => rw [hs] at h; exact run_more h
end
noncomputable def obM (i : Nat) (σ : Nat → String) (p : Program) (P : Params) : List Obj :=
  ((objs σ p P (v3 σ P (.str t228 486) 16 [] 17) (⟨.none, none, .fields ⟨[.int 4 0, .int 0 0, .ref 42, .int 10 0, .int 0 0, .ref 54, .int 17 0, .int 0 0, .ref 61, .int 79 0, .int 0 0, .ref 68]⟩, ⟨[]⟩⟩) default default default).take 76) ++
  [⟨.type (σ 41), none, .fields ⟨[.int i 0, .int (256 - i : Nat) 0, .int 1 0]⟩, ⟨[]⟩⟩, ⟨.type (σ 28), none, .seq ⟨(List.range i).map qm⟩ i, ⟨[]⟩⟩, ⟨.type (σ 0), none, .dict ⟨[⟨PyData.keyHash P t261, .str t261 559, .int (i - 1 : Nat) (554 + 4 * i)⟩]⟩ 1, ⟨[]⟩⟩]
noncomputable def from10 (p : Program) (σ : Nat → String) (w : World) (os : OsState) (k : Nat) : Option (SharedT × Thread) :=
  segGoT treeTable p w 28 (some (.ref 6)) 1 k (stT (ob10 σ p w.params) 75 555 os) (piecesOf (sts p 10 1) (envP p) (cP p) ⟨106, 0, 106, 20⟩ [topFrame ⟨0, 0, 0, 0⟩])
noncomputable def mid (p : Program) (σ : Nat → String) (w : World) (os : OsState) : Thread := ((from10 p σ (w.withFollow cT true) os 79).map (·.2)).getD (topStub p)
noncomputable def Goes (p : Program) (σ : Nat → String) (i k j : Nat) (w : World) : Prop :=
  ∀ os, segGoT treeTable p w 28 (some (.ref 6)) 1 k (stT (obM i σ p w.params) 79 (558 + 4 * i) os) (mid p σ w os) = some (stT (obM j σ p w.params) 79 (558 + 4 * j) os, mid p σ w os)
noncomputable def midT (p : Program) (σ : Nat → String) (w : World) (os : OsState) : Thread :=
  ((PySem.W.Fast.tw10295753902157049106 PySem.W.Fast.tw14364793385576792824 p (w.withFollow cT true) 28 (some (.ref 6)) 1 79 (stT (ob10 σ p w.params) 75 555 os) (piecesOf (sts p 10 1) (envP p) (cP p) ⟨106, 0, 106, 20⟩ [topFrame ⟨0, 0, 0, 0⟩])).map (·.2)).getD (topStub p)
theorem mid_eq : mid PySem.Challenge.pw_in0247_01 sg = midT PySem.Challenge.pw_in0247_01 sgT := by
  funext w os
  unfold mid midT from10
  rw [sg_eq, PySem.W.Fast.te10295753902157049106, PySem.W.Fast.te14364793385576792824]
  rfl
theorem goes_of {i k j : Nat} {w : World}
    (h : (fun os => PySem.W.Fast.tw10295753902157049106 PySem.W.Fast.tw14364793385576792824 pt w 28 (some (.ref 6)) 1 k (stT (obM i sgT pt w.params) 79 (558 + 4 * i) os) (midT pt sgT w os)) = fun os => some (stT (obM j sgT pt w.params) 79 (558 + 4 * j) os, midT pt sgT w os)) :
    Goes PySem.Challenge.pw_in0247_01 sg i k j w := by
  unfold Goes
  rw [mid_eq, sg_eq, PySem.W.Fast.te10295753902157049106, PySem.W.Fast.te14364793385576792824]
  exact fun os => congrFun h os
theorem start_of {k : Nat} {w : World}
    (h : (fun os => PySem.W.Fast.tw10295753902157049106 PySem.W.Fast.tw14364793385576792824 pt w 28 (some (.ref 6)) 1 k (stT (ob10 sgT pt w.params) 75 555 os) (piecesOf (sts pt 10 1) (envP pt) (cP pt) ⟨106, 0, 106, 20⟩ [topFrame ⟨0, 0, 0, 0⟩])) = fun os => some (stT (obM 1 sgT pt w.params) 79 562 os, midT pt sgT w os)) :
    ∀ os, from10 PySem.Challenge.pw_in0247_01 sg w os k = some (stT (obM 1 sg PySem.Challenge.pw_in0247_01 w.params) 79 562 os, mid PySem.Challenge.pw_in0247_01 sg w os) := by
  unfold from10
  rw [mid_eq, sg_eq, PySem.W.Fast.te10295753902157049106, PySem.W.Fast.te14364793385576792824]
  exact fun os => congrFun h os
noncomputable def Ends (p : Program) (σ : Nat → String) (i N : Nat) (w : World) : Prop :=
  ∀ os, segRunT treeTable p w 28 (some (.ref 6)) 1 N (stT (obM i σ p w.params) 79 (558 + 4 * i) os) (mid p σ w os) = some (.next, stT (ob11 σ p w.params) 81 1583 os, cP p, ⟨107, 0, 107, 11⟩)
theorem ends_of {i N : Nat} {w : World}
    (h : (fun os => PySem.W.Fast.tw10110043849684766642 PySem.W.Fast.tw14364793385576792824 pt w 28 (some (.ref 6)) 1 N (stT (obM i sgT pt w.params) 79 (558 + 4 * i) os) (midT pt sgT w os)) = fun os => some (.next, stT (ob11 sgT pt w.params) 81 1583 os, cP pt, ⟨107, 0, 107, 11⟩)) :
    Ends PySem.Challenge.pw_in0247_01 sg i N w := by
  unfold Ends
  rw [mid_eq, sg_eq, PySem.W.Fast.te10110043849684766642, PySem.W.Fast.te14364793385576792824]
  exact fun os => congrFun h os
end Mine
set_option maxRecDepth 100000
set_option maxHeartbeats 8000000
namespace Mine
open PySem PySem.W PyProof.Rows PySem.Calls PySem.Spec
theorem goes1_f (w : World) : Goes PySem.Challenge.pw_in0247_01 sg 1 (37 * 64) 65 (w.withFollow "special-get-raises" false) := goes_of (by kernel_rfl)
theorem goes1_t (w : World) : Goes PySem.Challenge.pw_in0247_01 sg 1 (37 * 64) 65 (w.withFollow "special-get-raises" true) := goes_of (by kernel_rfl)
theorem goes1 : ∀ w, Goes PySem.Challenge.pw_in0247_01 sg 1 (37 * 64) 65 w := byRow2 "special-get-raises" goes1_f goes1_t
theorem goes65_f (w : World) : Goes PySem.Challenge.pw_in0247_01 sg 65 (37 * 64) 129 (w.withFollow "special-get-raises" false) := goes_of (by kernel_rfl)
theorem goes65_t (w : World) : Goes PySem.Challenge.pw_in0247_01 sg 65 (37 * 64) 129 (w.withFollow "special-get-raises" true) := goes_of (by kernel_rfl)
theorem goes65 : ∀ w, Goes PySem.Challenge.pw_in0247_01 sg 65 (37 * 64) 129 w := byRow2 "special-get-raises" goes65_f goes65_t
theorem goes129_f (w : World) : Goes PySem.Challenge.pw_in0247_01 sg 129 (37 * 64) 193 (w.withFollow "special-get-raises" false) := goes_of (by kernel_rfl)
theorem goes129_t (w : World) : Goes PySem.Challenge.pw_in0247_01 sg 129 (37 * 64) 193 (w.withFollow "special-get-raises" true) := goes_of (by kernel_rfl)
theorem goes129 : ∀ w, Goes PySem.Challenge.pw_in0247_01 sg 129 (37 * 64) 193 w := byRow2 "special-get-raises" goes129_f goes129_t
theorem ends_f (w : World) : Ends PySem.Challenge.pw_in0247_01 sg 193 2500 (w.withFollow "special-get-raises" false) := ends_of (by kernel_rfl)
theorem ends_t (w : World) : Ends PySem.Challenge.pw_in0247_01 sg 193 2500 (w.withFollow "special-get-raises" true) := ends_of (by kernel_rfl)
theorem ends : ∀ w, Ends PySem.Challenge.pw_in0247_01 sg 193 2500 w := byRow2 "special-get-raises" ends_f ends_t
theorem startf_f (w : World) : ∀ os, from10 PySem.Challenge.pw_in0247_01 sg ((w.withFollow "special-get-raises" false).withFollow cT false) os 89 = some (stT (obM 1 sg PySem.Challenge.pw_in0247_01 (((w.withFollow "special-get-raises" false).withFollow cT false)).params) 79 562 os, mid PySem.Challenge.pw_in0247_01 sg ((w.withFollow "special-get-raises" false).withFollow cT false) os) := start_of (by kernel_rfl)
theorem startf_t (w : World) : ∀ os, from10 PySem.Challenge.pw_in0247_01 sg ((w.withFollow "special-get-raises" true).withFollow cT false) os 89 = some (stT (obM 1 sg PySem.Challenge.pw_in0247_01 (((w.withFollow "special-get-raises" true).withFollow cT false)).params) 79 562 os, mid PySem.Challenge.pw_in0247_01 sg ((w.withFollow "special-get-raises" true).withFollow cT false) os) := start_of (by kernel_rfl)
theorem startf (w : World) : ∀ os, from10 PySem.Challenge.pw_in0247_01 sg (w.withFollow cT false) os 89 = some (stT (obM 1 sg PySem.Challenge.pw_in0247_01 ((w.withFollow cT false)).params) 79 562 os, mid PySem.Challenge.pw_in0247_01 sg (w.withFollow cT false) os) := byRow2 "special-get-raises" (P := fun w => ∀ os, from10 PySem.Challenge.pw_in0247_01 sg (w.withFollow cT false) os 89 = some (stT (obM 1 sg PySem.Challenge.pw_in0247_01 ((w.withFollow cT false)).params) 79 562 os, mid PySem.Challenge.pw_in0247_01 sg (w.withFollow cT false) os)) startf_f startf_t w
theorem run11_f (w : World) : Runs PySem.Challenge.pw_in0247_01 sg 10000 10 1 ob10 ob11 75 81 555 1583 ⟨106, 0, 106, 20⟩ ⟨107, 0, 107, 11⟩ (w.withFollow cT false) := fun os =>
  run_more (n := 2500 + 37 * 64 + 37 * 64 + 37 * 64 + 89) (m := 307) (go_then (startf w os) (go_then (goes1 _ os) (go_then (goes65 _ os) (go_then (goes129 _ os) (ends _ os)))))
theorem startt_f (w : World) : ∀ os, from10 PySem.Challenge.pw_in0247_01 sg ((w.withFollow "special-get-raises" false).withFollow cT true) os 79 = some (stT (obM 1 sg PySem.Challenge.pw_in0247_01 (((w.withFollow "special-get-raises" false).withFollow cT true)).params) 79 562 os, mid PySem.Challenge.pw_in0247_01 sg ((w.withFollow "special-get-raises" false).withFollow cT true) os) := start_of (by kernel_rfl)
theorem startt_t (w : World) : ∀ os, from10 PySem.Challenge.pw_in0247_01 sg ((w.withFollow "special-get-raises" true).withFollow cT true) os 79 = some (stT (obM 1 sg PySem.Challenge.pw_in0247_01 (((w.withFollow "special-get-raises" true).withFollow cT true)).params) 79 562 os, mid PySem.Challenge.pw_in0247_01 sg ((w.withFollow "special-get-raises" true).withFollow cT true) os) := start_of (by kernel_rfl)
theorem startt (w : World) : ∀ os, from10 PySem.Challenge.pw_in0247_01 sg (w.withFollow cT true) os 79 = some (stT (obM 1 sg PySem.Challenge.pw_in0247_01 ((w.withFollow cT true)).params) 79 562 os, mid PySem.Challenge.pw_in0247_01 sg (w.withFollow cT true) os) := byRow2 "special-get-raises" (P := fun w => ∀ os, from10 PySem.Challenge.pw_in0247_01 sg (w.withFollow cT true) os 79 = some (stT (obM 1 sg PySem.Challenge.pw_in0247_01 ((w.withFollow cT true)).params) 79 562 os, mid PySem.Challenge.pw_in0247_01 sg (w.withFollow cT true) os)) startt_f startt_t w
theorem run11_t (w : World) : Runs PySem.Challenge.pw_in0247_01 sg 10000 10 1 ob10 ob11 75 81 555 1583 ⟨106, 0, 106, 20⟩ ⟨107, 0, 107, 11⟩ (w.withFollow cT true) := fun os =>
  run_more (n := 2500 + 37 * 64 + 37 * 64 + 37 * 64 + 79) (m := 317) (go_then (startt w os) (go_then (goes1 _ os) (go_then (goes65 _ os) (go_then (goes129 _ os) (ends _ os)))))
theorem run11 : ∀ w, Runs PySem.Challenge.pw_in0247_01 sg 10000 10 1 ob10 ob11 75 81 555 1583 ⟨106, 0, 106, 20⟩ ⟨107, 0, 107, 11⟩ w := byRow2 cT run11_f run11_t
end Mine
set_option maxRecDepth 100000
set_option maxHeartbeats 8000000
namespace Mine
open PySem PySem.W PyProof.Rows PySem.Calls PySem.Spec
noncomputable def obF (i : Nat) (σ : Nat → String) (p : Program) (P : Params) : List Obj :=
  ((objs σ p P (v3 σ P (.str t274 1593) 23 [⟨PyData.keyHash P t261, .str t261 1603, .int (hIdx.getD (i - 1) 0 : Nat) (1599 + 3 * i)⟩] 25) (⟨.none, none, .fields ⟨[.int 4 0, .int 0 0, .ref 42, .int 10 0, .int 0 0, .ref 54, .int 17 0, .int 0 0, .ref 61, .int 79 0, .int 0 0, .ref 68]⟩, ⟨[]⟩⟩) (lst σ (putL 1604 (hIdx.take i) qm)) (lst σ qm) default).take 85) ++
  [⟨.type (σ 38), none, .fields ⟨[.bytes ⟨hIdx.map UInt8.ofNat⟩ 1601, .int i 0]⟩, ⟨[]⟩⟩]
noncomputable def from18 (p : Program) (σ : Nat → String) (w : World) (os : OsState) (k : Nat) : Option (SharedT × Thread) :=
  segGoT treeTable p w 28 (some (.ref 6)) 1 k (stT (ob18 σ p w.params) 85 1595 os) (piecesOf (sts p 18 1) (envP p) (cP p) ⟨114, 0, 114, 8⟩ [topFrame ⟨0, 0, 0, 0⟩])
noncomputable def midF (p : Program) (σ : Nat → String) (w : World) (os : OsState) : Thread := ((from18 p σ w os 89).map (·.2)).getD (topStub p)
noncomputable def midFT (p : Program) (σ : Nat → String) (w : World) (os : OsState) : Thread :=
  ((PySem.W.Fast.tw10295753902157049106 PySem.W.Fast.tw14364793385576792824 p w 28 (some (.ref 6)) 1 89 (stT (ob18 σ p w.params) 85 1595 os) (piecesOf (sts p 18 1) (envP p) (cP p) ⟨114, 0, 114, 8⟩ [topFrame ⟨0, 0, 0, 0⟩])).map (·.2)).getD (topStub p)
theorem midF_eq : midF PySem.Challenge.pw_in0247_01 sg = midFT PySem.Challenge.pw_in0247_01 sgT := by
  funext w os
  unfold midF midFT from18
  rw [sg_eq, PySem.W.Fast.te10295753902157049106, PySem.W.Fast.te14364793385576792824]
noncomputable def GoesF (p : Program) (σ : Nat → String) (i k j : Nat) (w : World) : Prop :=
  ∀ os, segGoT treeTable p w 28 (some (.ref 6)) 1 k (stT (obF i σ p w.params) 86 (1602 + 3 * i) os) (midF p σ w os) = some (stT (obF j σ p w.params) 86 (1602 + 3 * j) os, midF p σ w os)
theorem goesF_of {i k j : Nat} {w : World}
    (h : (fun os => PySem.W.Fast.tw10295753902157049106 PySem.W.Fast.tw14364793385576792824 pt w 28 (some (.ref 6)) 1 k (stT (obF i sgT pt w.params) 86 (1602 + 3 * i) os) (midFT pt sgT w os)) = fun os => some (stT (obF j sgT pt w.params) 86 (1602 + 3 * j) os, midFT pt sgT w os)) :
    GoesF PySem.Challenge.pw_in0247_01 sg i k j w := by
  unfold GoesF
  rw [midF_eq, sg_eq, PySem.W.Fast.te10295753902157049106, PySem.W.Fast.te14364793385576792824]
  exact fun os => congrFun h os
noncomputable def StartF (p : Program) (σ : Nat → String) (w : World) : Prop := ∀ os, from18 p σ w os 89 = some (stT (obF 1 σ p w.params) 86 1605 os, midF p σ w os)
theorem startF_of {w : World}
    (h : (fun os => PySem.W.Fast.tw10295753902157049106 PySem.W.Fast.tw14364793385576792824 pt w 28 (some (.ref 6)) 1 89 (stT (ob18 sgT pt w.params) 85 1595 os) (piecesOf (sts pt 18 1) (envP pt) (cP pt) ⟨114, 0, 114, 8⟩ [topFrame ⟨0, 0, 0, 0⟩])) = fun os => some (stT (obF 1 sgT pt w.params) 86 1605 os, midFT pt sgT w os)) :
    StartF PySem.Challenge.pw_in0247_01 sg w := by
  unfold StartF from18
  rw [midF_eq, sg_eq, PySem.W.Fast.te10295753902157049106, PySem.W.Fast.te14364793385576792824]
  exact fun os => congrFun h os
noncomputable def EndsF (p : Program) (σ : Nat → String) (i N : Nat) (w : World) : Prop :=
  ∀ os, segRunT treeTable p w 28 (some (.ref 6)) 1 N (stT (obF i σ p w.params) 86 (1602 + 3 * i) os) (midF p σ w os) = some (.next, stT (ob19 σ p w.params) 88 1803 os, cP p, ⟨115, 9, 115, 74⟩)
theorem endsF_of {i N : Nat} {w : World}
    (h : (fun os => PySem.W.Fast.tw10110043849684766642 PySem.W.Fast.tw14364793385576792824 pt w 28 (some (.ref 6)) 1 N (stT (obF i sgT pt w.params) 86 (1602 + 3 * i) os) (midFT pt sgT w os)) = fun os => some (.next, stT (ob19 sgT pt w.params) 88 1803 os, cP pt, ⟨115, 9, 115, 74⟩)) :
    EndsF PySem.Challenge.pw_in0247_01 sg i N w := by
  unfold EndsF
  rw [midF_eq, sg_eq, PySem.W.Fast.te10110043849684766642, PySem.W.Fast.te14364793385576792824]
  exact fun os => congrFun h os
theorem startF_f (w : World) : StartF PySem.Challenge.pw_in0247_01 sg (w.withFollow "special-get-raises" false) := startF_of (by kernel_rfl)
theorem startF_t (w : World) : StartF PySem.Challenge.pw_in0247_01 sg (w.withFollow "special-get-raises" true) := startF_of (by kernel_rfl)
theorem startF : ∀ w, StartF PySem.Challenge.pw_in0247_01 sg w := byRow2 "special-get-raises" startF_f startF_t
theorem goesF1_f (w : World) : GoesF PySem.Challenge.pw_in0247_01 sg 1 (45 * 33) 34 (w.withFollow "special-get-raises" false) := goesF_of (by kernel_rfl)
theorem goesF1_t (w : World) : GoesF PySem.Challenge.pw_in0247_01 sg 1 (45 * 33) 34 (w.withFollow "special-get-raises" true) := goesF_of (by kernel_rfl)
theorem goesF1 : ∀ w, GoesF PySem.Challenge.pw_in0247_01 sg 1 (45 * 33) 34 w := byRow2 "special-get-raises" goesF1_f goesF1_t
theorem endsF_f (w : World) : EndsF PySem.Challenge.pw_in0247_01 sg 34 1600 (w.withFollow "special-get-raises" false) := endsF_of (by kernel_rfl)
theorem endsF_t (w : World) : EndsF PySem.Challenge.pw_in0247_01 sg 34 1600 (w.withFollow "special-get-raises" true) := endsF_of (by kernel_rfl)
theorem endsF : ∀ w, EndsF PySem.Challenge.pw_in0247_01 sg 34 1600 w := byRow2 "special-get-raises" endsF_f endsF_t
theorem run18 (w : World) : Runs PySem.Challenge.pw_in0247_01 sg 300 11 7 ob11 ob18 81 85 1583 1595 ⟨107, 0, 107, 11⟩ ⟨114, 0, 114, 8⟩ w := runs_of (by kernel_rfl)
theorem run19 (w : World) : Runs PySem.Challenge.pw_in0247_01 sg 4000 18 1 ob18 ob19 85 88 1595 1803 ⟨114, 0, 114, 8⟩ ⟨115, 9, 115, 74⟩ w := fun os =>
  run_more (n := 1600 + 45 * 33 + 89) (m := 826) (go_then (startF w os) (go_then (goesF1 w os) (endsF w os)))
end Mine
set_option maxRecDepth 100000
set_option maxHeartbeats 8000000
namespace Mine
open PySem PySem.W PyProof.Rows PySem.Calls PySem.Spec
theorem run21_f (w : World) : Runs PySem.Challenge.pw_in0247_01 sg 5000 19 2 ob19 ob21 88 91 1803 2092 ⟨115, 9, 115, 74⟩ ⟨118, 9, 118, 110⟩ (w.withFollow "special-get-raises" false) := runs_of (by kernel_rfl)
theorem run21_t (w : World) : Runs PySem.Challenge.pw_in0247_01 sg 5000 19 2 ob19 ob21 88 91 1803 2092 ⟨115, 9, 115, 74⟩ ⟨118, 9, 118, 110⟩ (w.withFollow "special-get-raises" true) := runs_of (by kernel_rfl)
theorem run21 : ∀ w, Runs PySem.Challenge.pw_in0247_01 sg 5000 19 2 ob19 ob21 88 91 1803 2092 ⟨115, 9, 115, 74⟩ ⟨118, 9, 118, 110⟩ w := byRow2 "special-get-raises" run21_f run21_t
end Mine
set_option maxRecDepth 100000
set_option maxHeartbeats 8000000
namespace Mine
open PySem PySem.W PyProof.Rows PySem.Calls PySem.Spec
noncomputable def H0 (p : Program) (σ : Nat → String) (P : Params) : Heap := ⟨⟨ob0 σ p P⟩, {}⟩
noncomputable def HA (p : Program) (σ : Nat → String) (P : Params) : Heap := ⟨⟨obA σ p P⟩, {}⟩
theorem opens_ : ∀ w : World, (fencedOpening treeTable PySem.Challenge.pw_in0247_01 w 38540).map (fun s => (s.heap, s.gens, s.drawn, s.toks)) = some (H0 PySem.Challenge.pw_in0247_01 sg w.params, ⟨[]⟩, {}, 276) := by
  intro w
  unfold fencedOpening
  rw [sg_eq, PySem.W.Fast.te10274390034422433532, PySem.W.Fast.te14364793385576792824, PySem.W.Fast.te1435165496053646825, PySem.W.Fast.te14289696077712309145]
  kernel_rfl
theorem pre_ : ∀ (w : World), (fun os => topGo treeTable PySem.Challenge.pw_in0247_01 w 28 (some (.ref 6)) 12 ⟨H0 PySem.Challenge.pw_in0247_01 sg w.params, ⟨[]⟩, {}, 276, os⟩ (topStub PySem.Challenge.pw_in0247_01)) = fun os => some (⟨HA PySem.Challenge.pw_in0247_01 sg w.params, ⟨[]⟩, {}, 282, os⟩, ⟨denote treeTable (cP PySem.Challenge.pw_in0247_01), cP PySem.Challenge.pw_in0247_01, ⟨0, 0, 0, 0⟩, [topFrame ⟨0, 0, 0, 0⟩]⟩) := by
  intro w
  rw [sg_eq, PySem.W.Fast.te15667345088766844465, PySem.W.Fast.te14364793385576792824, PySem.W.Fast.te11892475500146522536]
  kernel_rfl
theorem block_ : ∀ (w : World), (fun os => segRun treeTable PySem.Challenge.pw_in0247_01 w 28 (some (.ref 6)) 1 1 ⟨HA PySem.Challenge.pw_in0247_01 sg w.params, ⟨[]⟩, {}, 282, os⟩ (blockOf (behindTheImports PySem.Challenge.pw_in0247_01) (envP PySem.Challenge.pw_in0247_01) (cP PySem.Challenge.pw_in0247_01) ⟨0, 0, 0, 0⟩ [topFrame ⟨0, 0, 0, 0⟩])) = fun os => some (.next, (stT (obB sg PySem.Challenge.pw_in0247_01 w.params) 32 282 os).abs, cP PySem.Challenge.pw_in0247_01, ⟨0, 0, 0, 0⟩) := by
  intro w
  rw [sg_eq, PySem.W.Fast.te14374325043358763698, PySem.W.Fast.te14364793385576792824]
  kernel_rfl
theorem fin_ : ∀ (w : World), (fun os => topRun treeTable PySem.Challenge.pw_in0247_01 w 28 (some (.ref 6)) 2 (stT (ob40 sg PySem.Challenge.pw_in0247_01 w.params) 182 2212 os).abs (restOf [] (envP PySem.Challenge.pw_in0247_01) (cP PySem.Challenge.pw_in0247_01) ⟨228, 0, 248, 110⟩ [topFrame ⟨0, 0, 0, 0⟩])) = fun os => some (stT (ob40 sg PySem.Challenge.pw_in0247_01 w.params) 182 2212 os).abs := by
  intro w
  rw [sg_eq, PySem.W.Fast.te14082659384304107361, PySem.W.Fast.te14364793385576792824]
  kernel_rfl
end Mine
set_option maxRecDepth 100000
set_option maxHeartbeats 8000000
namespace Mine
open PySem PySem.W PyProof.Rows PySem.Calls PySem.Spec
noncomputable def H1 (p : Program) (σ : Nat → String) (P : Params) : Heap := absHeap (bt (ob40 σ p P) 9 1 0) 182 {}
theorem split_ : behindTheImports PySem.Challenge.pw_in0247_01 = sts PySem.Challenge.pw_in0247_01 0 4 ++ (sts PySem.Challenge.pw_in0247_01 4 1 ++ (sts PySem.Challenge.pw_in0247_01 5 5 ++ (sts PySem.Challenge.pw_in0247_01 10 1 ++ (sts PySem.Challenge.pw_in0247_01 11 7 ++ (sts PySem.Challenge.pw_in0247_01 18 1 ++ (sts PySem.Challenge.pw_in0247_01 19 2 ++ (sts PySem.Challenge.pw_in0247_01 21 3 ++ (sts PySem.Challenge.pw_in0247_01 24 1 ++ (sts PySem.Challenge.pw_in0247_01 25 15 ++ []))))))))) := by kernel_rfl
theorem run_ (w : World) (os : OsState) : topRun treeTable PySem.Challenge.pw_in0247_01 w 28 (some (.ref 6)) (12 + (1 + (300 + (1400 + (400 + (10000 + (300 + (4000 + (5000 + (200 + (200 + (600 + 2)))))))))))) ⟨H0 PySem.Challenge.pw_in0247_01 sg w.params, ⟨[]⟩, {}, 276, os⟩ (topStub PySem.Challenge.pw_in0247_01) = some ⟨H1 PySem.Challenge.pw_in0247_01 sg w.params, ⟨[]⟩, {}, 2212, os⟩ := by
  refine go_top (congrFun (pre_ w) os) ?_
  refine piece_block (congrFun (block_ w) os) ?_
  rw [split_]
  refine piece_app (segRun_of (run4 w os)) ?_
  refine piece_app (segRun_of (run5 w os)) ?_
  refine piece_app (segRun_of (run10 w os)) ?_
  refine piece_app (segRun_of (run11 w os)) ?_
  refine piece_app (segRun_of (run18 w os)) ?_
  refine piece_app (segRun_of (run19 w os)) ?_
  refine piece_app (segRun_of (run21 w os)) ?_
  refine piece_app (segRun_of (run24 w os)) ?_
  refine piece_app (segRun_of (run25 w os)) ?_
  refine piece_app (segRun_of (run40 w os)) ?_
  exact congrFun (fin_ w) os
theorem size_ : ∀ w : World, ((H0 PySem.Challenge.pw_in0247_01 sg w.params).isNs mainGlobals && (⟨[]⟩ : Array GenState).size == 0, (H0 PySem.Challenge.pw_in0247_01 sg w.params).objs.size, (H0 PySem.Challenge.pw_in0247_01 sg w.params).nsMap mainGlobals "__annotations__") = (true, 28, some (.ref 6)) := by
  intro w
  rw [sg_eq, PySem.W.Fast.te8920871248978507458]
  kernel_rfl
noncomputable def keepL : List Nat := [0, 2, 3, 5, 6, 8, 9, 10, 11, 12, 13, 14, 15, 16, 17, 22, 23, 24, 27, 28, 30, 32, 33, 34, 35, 36, 37, 38, 39, 40]
noncomputable def qP (p : Program) : Program := { p with main := { p.main with body := keepL.map fun i => p.main.body.getD i (.Pass default) } }
noncomputable def loose : List Str := [Str.ofString "twin_re_1_fnmatch", Str.ofString "_special_chars_map", Str.ofString "twin_re_1_quoprimime", Str.ofString "_QUOPRI_MAP", Str.ofString "_QUOPRI_HEADER_MAP", Str.ofString "_QUOPRI_BODY_MAP", Str.ofString "ascii_letters", Str.ofString "_QUOPRI_BODY_ENCODE_MAP"]
noncomputable def looseT : List Str := [S [116, 119, 105, 110, 95, 114, 101, 95, 49, 95, 102, 110, 109, 97, 116, 99, 104], S [95, 115, 112, 101, 99, 105, 97, 108, 95, 99, 104, 97, 114, 115, 95, 109, 97, 112], S [116, 119, 105, 110, 95, 114, 101, 95, 49, 95, 113, 117, 111, 112, 114, 105, 109, 105, 109, 101], S [95, 81, 85, 79, 80, 82, 73, 95, 77, 65, 80], S [95, 81, 85, 79, 80, 82, 73, 95, 72, 69, 65, 68, 69, 82, 95, 77, 65, 80], S [95, 81, 85, 79, 80, 82, 73, 95, 66, 79, 68, 89, 95, 77, 65, 80], S [97, 115, 99, 105, 105, 95, 108, 101, 116, 116, 101, 114, 115], S [95, 81, 85, 79, 80, 82, 73, 95, 66, 79, 68, 89, 95, 69, 78, 67, 79, 68, 69, 95, 77, 65, 80]]
theorem loose_eq : loose = looseT := by
  unfold loose looseT
  rw [show Str.ofString "twin_re_1_fnmatch" = S [116, 119, 105, 110, 95, 114, 101, 95, 49, 95, 102, 110, 109, 97, 116, 99, 104] from PySem.W.Fast.ofString_ofList ['t', 'w', 'i', 'n', '_', 'r', 'e', '_', '1', '_', 'f', 'n', 'm', 'a', 't', 'c', 'h']]
  rw [show Str.ofString "_special_chars_map" = S [95, 115, 112, 101, 99, 105, 97, 108, 95, 99, 104, 97, 114, 115, 95, 109, 97, 112] from PySem.W.Fast.ofString_ofList ['_', 's', 'p', 'e', 'c', 'i', 'a', 'l', '_', 'c', 'h', 'a', 'r', 's', '_', 'm', 'a', 'p']]
  rw [show Str.ofString "twin_re_1_quoprimime" = S [116, 119, 105, 110, 95, 114, 101, 95, 49, 95, 113, 117, 111, 112, 114, 105, 109, 105, 109, 101] from PySem.W.Fast.ofString_ofList ['t', 'w', 'i', 'n', '_', 'r', 'e', '_', '1', '_', 'q', 'u', 'o', 'p', 'r', 'i', 'm', 'i', 'm', 'e']]
  rw [show Str.ofString "_QUOPRI_MAP" = S [95, 81, 85, 79, 80, 82, 73, 95, 77, 65, 80] from PySem.W.Fast.ofString_ofList ['_', 'Q', 'U', 'O', 'P', 'R', 'I', '_', 'M', 'A', 'P']]
  rw [show Str.ofString "_QUOPRI_HEADER_MAP" = S [95, 81, 85, 79, 80, 82, 73, 95, 72, 69, 65, 68, 69, 82, 95, 77, 65, 80] from PySem.W.Fast.ofString_ofList ['_', 'Q', 'U', 'O', 'P', 'R', 'I', '_', 'H', 'E', 'A', 'D', 'E', 'R', '_', 'M', 'A', 'P']]
  rw [show Str.ofString "_QUOPRI_BODY_MAP" = S [95, 81, 85, 79, 80, 82, 73, 95, 66, 79, 68, 89, 95, 77, 65, 80] from PySem.W.Fast.ofString_ofList ['_', 'Q', 'U', 'O', 'P', 'R', 'I', '_', 'B', 'O', 'D', 'Y', '_', 'M', 'A', 'P']]
  rw [show Str.ofString "ascii_letters" = S [97, 115, 99, 105, 105, 95, 108, 101, 116, 116, 101, 114, 115] from PySem.W.Fast.ofString_ofList ['a', 's', 'c', 'i', 'i', '_', 'l', 'e', 't', 't', 'e', 'r', 's']]
  rw [show Str.ofString "_QUOPRI_BODY_ENCODE_MAP" = S [95, 81, 85, 79, 80, 82, 73, 95, 66, 79, 68, 89, 95, 69, 78, 67, 79, 68, 69, 95, 77, 65, 80] from PySem.W.Fast.ofString_ofList ['_', 'Q', 'U', 'O', 'P', 'R', 'I', '_', 'B', 'O', 'D', 'Y', '_', 'E', 'N', 'C', 'O', 'D', 'E', '_', 'M', 'A', 'P']]
noncomputable def lvL : List (Str × WData) := [(Str.ofString "ascii_letters", .str ⟨#[97, 98, 99, 100, 101, 102, 103, 104, 105, 106, 107, 108, 109, 110, 111, 112, 113, 114, 115, 116, 117, 118, 119, 120, 121, 122, 65, 66, 67, 68, 69, 70, 71, 72, 73, 74, 75, 76, 77, 78, 79, 80, 81, 82, 83, 84, 85, 86, 87, 88, 89, 90]⟩)]
noncomputable def gO (p : Program) (σ : Nat → String) (P : Params) (a : Nat) : Obj := (ob40 σ p P).getD a default
noncomputable def KP (P : Params) : Frag := (nat_lit 2, gO PySem.Challenge.pw_in0247_01 sg P 2) :: (nat_lit 3, gO PySem.Challenge.pw_in0247_01 sg P 3) :: (nat_lit 35, gO PySem.Challenge.pw_in0247_01 sg P 35) :: (nat_lit 36, gO PySem.Challenge.pw_in0247_01 sg P 36) :: (nat_lit 37, gO PySem.Challenge.pw_in0247_01 sg P 37) :: (nat_lit 39, gO PySem.Challenge.pw_in0247_01 sg P 39) :: (nat_lit 40, gO PySem.Challenge.pw_in0247_01 sg P 40) :: (nat_lit 42, gO PySem.Challenge.pw_in0247_01 sg P 42) :: (nat_lit 43, gO PySem.Challenge.pw_in0247_01 sg P 43) :: (nat_lit 45, gO PySem.Challenge.pw_in0247_01 sg P 45) :: (nat_lit 49, gO PySem.Challenge.pw_in0247_01 sg P 49) :: (nat_lit 51, gO PySem.Challenge.pw_in0247_01 sg P 51) :: (nat_lit 52, gO PySem.Challenge.pw_in0247_01 sg P 52) :: (nat_lit 54, gO PySem.Challenge.pw_in0247_01 sg P 54) :: (nat_lit 55, gO PySem.Challenge.pw_in0247_01 sg P 55) :: (nat_lit 56, gO PySem.Challenge.pw_in0247_01 sg P 56) :: (nat_lit 58, gO PySem.Challenge.pw_in0247_01 sg P 58) :: (nat_lit 59, gO PySem.Challenge.pw_in0247_01 sg P 59) :: (nat_lit 61, gO PySem.Challenge.pw_in0247_01 sg P 61) :: (nat_lit 62, gO PySem.Challenge.pw_in0247_01 sg P 62) :: (nat_lit 63, gO PySem.Challenge.pw_in0247_01 sg P 63) :: (nat_lit 65, gO PySem.Challenge.pw_in0247_01 sg P 65) :: (nat_lit 66, gO PySem.Challenge.pw_in0247_01 sg P 66) :: (nat_lit 68, gO PySem.Challenge.pw_in0247_01 sg P 68) :: (nat_lit 69, gO PySem.Challenge.pw_in0247_01 sg P 69) :: (nat_lit 73, gO PySem.Challenge.pw_in0247_01 sg P 73) :: (nat_lit 74, gO PySem.Challenge.pw_in0247_01 sg P 74) :: (nat_lit 77, gO PySem.Challenge.pw_in0247_01 sg P 77) :: (nat_lit 91, gO PySem.Challenge.pw_in0247_01 sg P 91) :: (nat_lit 93, gO PySem.Challenge.pw_in0247_01 sg P 93) :: (nat_lit 94, gO PySem.Challenge.pw_in0247_01 sg P 94) :: (nat_lit 96, gO PySem.Challenge.pw_in0247_01 sg P 96) :: (nat_lit 97, gO PySem.Challenge.pw_in0247_01 sg P 97) :: (nat_lit 98, gO PySem.Challenge.pw_in0247_01 sg P 98) :: (nat_lit 100, gO PySem.Challenge.pw_in0247_01 sg P 100) :: (nat_lit 101, gO PySem.Challenge.pw_in0247_01 sg P 101) :: (nat_lit 103, gO PySem.Challenge.pw_in0247_01 sg P 103) :: (nat_lit 104, gO PySem.Challenge.pw_in0247_01 sg P 104) :: (nat_lit 110, gO PySem.Challenge.pw_in0247_01 sg P 110) :: (nat_lit 112, gO PySem.Challenge.pw_in0247_01 sg P 112) :: (nat_lit 113, gO PySem.Challenge.pw_in0247_01 sg P 113) :: (nat_lit 115, gO PySem.Challenge.pw_in0247_01 sg P 115) :: (nat_lit 116, gO PySem.Challenge.pw_in0247_01 sg P 116) :: (nat_lit 117, gO PySem.Challenge.pw_in0247_01 sg P 117) :: (nat_lit 119, gO PySem.Challenge.pw_in0247_01 sg P 119) :: (nat_lit 120, gO PySem.Challenge.pw_in0247_01 sg P 120) :: (nat_lit 122, gO PySem.Challenge.pw_in0247_01 sg P 122) :: (nat_lit 123, gO PySem.Challenge.pw_in0247_01 sg P 123) :: (nat_lit 124, gO PySem.Challenge.pw_in0247_01 sg P 124) :: (nat_lit 126, gO PySem.Challenge.pw_in0247_01 sg P 126) :: (nat_lit 127, gO PySem.Challenge.pw_in0247_01 sg P 127) :: (nat_lit 129, gO PySem.Challenge.pw_in0247_01 sg P 129) :: (nat_lit 130, gO PySem.Challenge.pw_in0247_01 sg P 130) :: (nat_lit 131, gO PySem.Challenge.pw_in0247_01 sg P 131) :: (nat_lit 134, gO PySem.Challenge.pw_in0247_01 sg P 134) :: (nat_lit 135, gO PySem.Challenge.pw_in0247_01 sg P 135) :: (nat_lit 136, gO PySem.Challenge.pw_in0247_01 sg P 136) :: (nat_lit 139, gO PySem.Challenge.pw_in0247_01 sg P 139) :: (nat_lit 140, gO PySem.Challenge.pw_in0247_01 sg P 140) :: (nat_lit 141, gO PySem.Challenge.pw_in0247_01 sg P 141) :: (nat_lit 143, gO PySem.Challenge.pw_in0247_01 sg P 143) :: (nat_lit 144, gO PySem.Challenge.pw_in0247_01 sg P 144) :: (nat_lit 146, gO PySem.Challenge.pw_in0247_01 sg P 146) :: (nat_lit 147, gO PySem.Challenge.pw_in0247_01 sg P 147) :: (nat_lit 148, gO PySem.Challenge.pw_in0247_01 sg P 148) :: (nat_lit 150, gO PySem.Challenge.pw_in0247_01 sg P 150) :: (nat_lit 151, gO PySem.Challenge.pw_in0247_01 sg P 151) :: (nat_lit 153, gO PySem.Challenge.pw_in0247_01 sg P 153) :: (nat_lit 154, gO PySem.Challenge.pw_in0247_01 sg P 154) :: (nat_lit 155, gO PySem.Challenge.pw_in0247_01 sg P 155) :: (nat_lit 158, gO PySem.Challenge.pw_in0247_01 sg P 158) :: (nat_lit 159, gO PySem.Challenge.pw_in0247_01 sg P 159) :: (nat_lit 160, gO PySem.Challenge.pw_in0247_01 sg P 160) :: (nat_lit 162, gO PySem.Challenge.pw_in0247_01 sg P 162) :: (nat_lit 163, gO PySem.Challenge.pw_in0247_01 sg P 163) :: (nat_lit 165, gO PySem.Challenge.pw_in0247_01 sg P 165) :: (nat_lit 166, gO PySem.Challenge.pw_in0247_01 sg P 166) :: (nat_lit 167, gO PySem.Challenge.pw_in0247_01 sg P 167) :: (nat_lit 170, gO PySem.Challenge.pw_in0247_01 sg P 170) :: (nat_lit 171, gO PySem.Challenge.pw_in0247_01 sg P 171) :: (nat_lit 172, gO PySem.Challenge.pw_in0247_01 sg P 172) :: (nat_lit 175, gO PySem.Challenge.pw_in0247_01 sg P 175) :: (nat_lit 176, gO PySem.Challenge.pw_in0247_01 sg P 176) :: (nat_lit 177, gO PySem.Challenge.pw_in0247_01 sg P 177) :: (nat_lit 180, gO PySem.Challenge.pw_in0247_01 sg P 180) :: (nat_lit 181, gO PySem.Challenge.pw_in0247_01 sg P 181) :: []
noncomputable def asL : List Addr := [2, 3, 35, 36, 37, 39, 40, 42, 43, 45, 49, 51, 52, 54, 55, 56, 58, 59, 61, 62, 63, 65, 66, 68, 69, 73, 74, 77, 91, 93, 94, 96, 97, 98, 100, 101, 103, 104, 110, 112, 113, 115, 116, 117, 119, 120, 122, 123, 124, 126, 127, 129, 130, 131, 134, 135, 136, 139, 140, 141, 143, 144, 146, 147, 148, 150, 151, 153, 154, 155, 158, 159, 160, 162, 163, 165, 166, 167, 170, 171, 172, 175, 176, 177, 180, 181]
end Mine
set_option maxRecDepth 100000
set_option maxHeartbeats 4000000
namespace Mine
open PySem PySem.W PyProof.Rows PySem.Calls PySem.Spec
noncomputable def hv (l : Nat) (ν : Nat) (h : Heap) : Heap := { Mine.vis ν [] h with life := { soft := l } }
theorem hv_get {l : Nat} {h : Heap} {b : Addr} {o : Obj} (e : h.get? b = some o) (n : b ∉ ([] : List Addr)) (n' : Off ν b) : (hv l ν h).get? b = some o := vis_get (M := []) e n n'
theorem hv_iff {l : Nat} {h : Heap} {b : Addr} {o : Obj} : (hv l ν h).get? b = some o ↔ h.get? b = some o ∧ b ∉ ([] : List Addr) ∧ Off ν b := vis_iff (M := [])
section
variable {l : Nat} {P : Params} {h : Heap} {p : Program} {loose : List Str} {mean : ExcName → Option Value} {mg mb : Str → Option Value}
theorem offN {h : Heap} {a : Addr} {o : Obj} (N : h.get? ν = none) (e : h.get? a = some o) (n : a ≠ 57) : Off ν a := ⟨n, fun q => by rw [q, N] at e; cases e⟩
theorem kget {K : Frag} (N : h.get? ν = none) (X : K.In h) {a : Addr} {o : Obj} (e : K.lookup a = some o) (n : a ≠ 57) : (hv l ν h).get? a = some o := hv_get (X a o e) (by simp) (offN N (X a o e) n)
theorem base_ns (N : h.get? ν = none) (X : (KP P).In h) (T : Top p loose mean mg mb h) : (hv l ν h).Ns mainGlobals mg := by
  obtain ⟨o, es, ep, e, d, k, f⟩ := T.g
  obtain ⟨o3, e3⟩ : ∃ o, (KP P).lookup 3 = some o ∧ o.cls = .type "dict" := ⟨_, rfl, rfl⟩
  have e' := X 3 o3 e3.1
  have : o = o3 := Option.some.inj (e.symm.trans e')
  subst this
  exact ⟨o, es, ep, hv_get e (by simp) (offN N e (by decide)), d, k, f⟩
theorem base_bi (N : h.get? ν = none) (T : Top p loose mean mg mb h) : (hv l ν h).Ns builtinsNs mb := by
  obtain ⟨o, es, ep, e, d, k, f⟩ := T.b
  exact ⟨o, es, ep, hv_iff.mpr ⟨e, by simp, offN N e (by decide)⟩, d, k, f⟩
theorem glob_at (X : (KP P).In h) (T : Top p loose mean mg mb h) {x : Str} {v : Value} (e : ∀ o es ep, (KP P).lookup 3 = some o → o.data = .dict es ep → nsFind es x = some v) : mg x = some v := by
  obtain ⟨o, es, ep, e0, d, k, f⟩ := T.g
  obtain ⟨o3, e3⟩ : ∃ o, (KP P).lookup 3 = some o := ⟨_, rfl⟩
  have : o = o3 := Option.some.inj (e0.symm.trans (X 3 o3 e3))
  subst this
  rw [← f]
  exact e o es ep e3 d
theorem base_lim (N : h.get? ν = none) (X : (KP P).In h) (T : Top p loose mean mg mb h) : (hv l ν h).NoLimit := by
  obtain ⟨m, ⟨o, es, ep, e, d, k, f⟩, r⟩ := T.nolimit
  obtain ⟨o3, e3⟩ : ∃ o, (KP P).lookup 2 = some o ∧ o.cls = .none := ⟨_, rfl, rfl⟩
  have e' := X 2 o3 e3.1
  have : o = o3 := Option.some.inj (e.symm.trans e')
  subst this
  exact ⟨m, ⟨o, es, ep, hv_get e (by simp) (offN N e (by decide)), d, k, f⟩, r⟩
theorem def_at (N : h.get? ν = none) (X : (KP P).In h) (T : Top p loose mean mg mb h) (x : Str) (a : Addr) (k : Nat) (c : Addr) {o oc : Obj} {pm doc : Value} {vs : Array Value} {t : Tok} (hg : mg x = some (.ref a)) (e : (KP P).lookup a = some o) (d : o.data = .func (docDef x (fArgs (nth k)) (fBody (nth k)) (fScope (nth k)) pm (.ref c) doc)) (cl : o.cls = .type "function")
    (ec : (KP P).lookup c = some oc) (dc : oc.data = .fields vs) (vc : vs[1]? = some (.str x t)) (cc : oc.cls = .type "code") (n : a ≠ 57 := by decide) (nc : c ≠ 57 := by decide) :
    mg x = some (.ref a) ∧ Def (hv l ν h) a x (fArgs (nth k)) (fBody (nth k)) (fScope (nth k)) :=
  ⟨hg, ⟨o, pm, .ref c, doc, kget N X e n, d, ⟨c, oc, vs, t, rfl, kget N X ec nc, dc, vc⟩⟩, base_lim N X T⟩
theorem no_glob (X : (KP P).In h) (T : Top p loose mean mg mb h) {x : Str} (e : ∀ o es ep, (KP P).lookup 3 = some o → o.data = .dict es ep → nsFind es x = none) : mg x = none := by
  obtain ⟨o, es, ep, e0, d, k, f⟩ := T.g
  obtain ⟨o3, e3⟩ : ∃ o, (KP P).lookup 3 = some o := ⟨_, rfl⟩
  have : o = o3 := Option.some.inj (e0.symm.trans (X 3 o3 e3))
  subst this
  rw [← f]
  exact e o es ep e3 d
theorem def_0 (N : h.get? ν = none) (X : (KP P).In h) (T : Top p loose mean mg mb h) : mg "translate" = some (.ref 43) ∧ Def (hv l ν h) 43 "translate" (fArgs (nth 3)) (fBody (nth 3)) (fScope (nth 3)) :=
  def_at N X T "translate" 43 3 42 (glob_at X T fun o es ep e d => by
    obtain rfl := Option.some.inj e
    injection d with d1 d2
    subst d1
    rfl) rfl rfl rfl rfl rfl rfl rfl
theorem def_1 (N : h.get? ν = none) (X : (KP P).In h) (T : Top p loose mean mg mb h) : mg "escape" = some (.ref 55) ∧ Def (hv l ν h) 55 "escape" (fArgs (nth 6)) (fBody (nth 6)) (fScope (nth 6)) :=
  def_at N X T "escape" 55 6 54 (glob_at X T fun o es ep e d => by
    obtain rfl := Option.some.inj e
    injection d with d1 d2
    subst d1
    rfl) rfl rfl rfl rfl rfl rfl rfl
theorem def_2 (N : h.get? ν = none) (X : (KP P).In h) (T : Top p loose mean mg mb h) : mg "_translate" = some (.ref 62) ∧ Def (hv l ν h) 62 "_translate" (fArgs (nth 8)) (fBody (nth 8)) (fScope (nth 8)) :=
  def_at N X T "_translate" 62 8 61 (glob_at X T fun o es ep e d => by
    obtain rfl := Option.some.inj e
    injection d with d1 d2
    subst d1
    rfl) rfl rfl rfl rfl rfl rfl rfl
theorem def_3 (N : h.get? ν = none) (X : (KP P).In h) (T : Top p loose mean mg mb h) : mg "_join_translated_parts" = some (.ref 69) ∧ Def (hv l ν h) 69 "_join_translated_parts" (fArgs (nth 9)) (fBody (nth 9)) (fScope (nth 9)) :=
  def_at N X T "_join_translated_parts" 69 9 68 (glob_at X T fun o es ep e d => by
    obtain rfl := Option.some.inj e
    injection d with d1 d2
    subst d1
    rfl) rfl rfl rfl rfl rfl rfl rfl
theorem def_4 (N : h.get? ν = none) (X : (KP P).In h) (T : Top p loose mean mg mb h) : mg "unquote" = some (.ref 97) ∧ Def (hv l ν h) 97 "unquote" (fArgs (nth 22)) (fBody (nth 22)) (fScope (nth 22)) :=
  def_at N X T "unquote" 97 22 96 (glob_at X T fun o es ep e d => by
    obtain rfl := Option.some.inj e
    injection d with d1 d2
    subst d1
    rfl) rfl rfl rfl rfl rfl rfl rfl
theorem def_5 (N : h.get? ν = none) (X : (KP P).In h) (T : Top p loose mean mg mb h) : mg "quote" = some (.ref 104) ∧ Def (hv l ν h) 104 "quote" (fArgs (nth 23)) (fBody (nth 23)) (fScope (nth 23)) :=
  def_at N X T "quote" 104 23 103 (glob_at X T fun o es ep e d => by
    obtain rfl := Option.some.inj e
    injection d with d1 d2
    subst d1
    rfl) rfl rfl rfl rfl rfl rfl rfl
theorem def_6 (N : h.get? ν = none) (X : (KP P).In h) (T : Top p loose mean mg mb h) : mg "_unquote_match" = some (.ref 116) ∧ Def (hv l ν h) 116 "_unquote_match" (fArgs (nth 27)) (fBody (nth 27)) (fScope (nth 27)) :=
  def_at N X T "_unquote_match" 116 27 115 (glob_at X T fun o es ep e d => by
    obtain rfl := Option.some.inj e
    injection d with d1 d2
    subst d1
    rfl) rfl rfl rfl rfl rfl rfl rfl
theorem def_7 (N : h.get? ν = none) (X : (KP P).In h) (T : Top p loose mean mg mb h) : mg "header_decode" = some (.ref 123) ∧ Def (hv l ν h) 123 "header_decode" (fArgs (nth 28)) (fBody (nth 28)) (fScope (nth 28)) :=
  def_at N X T "header_decode" 123 28 122 (glob_at X T fun o es ep e d => by
    obtain rfl := Option.some.inj e
    injection d with d1 d2
    subst d1
    rfl) rfl rfl rfl rfl rfl rfl rfl
theorem def_8 (N : h.get? ν = none) (X : (KP P).In h) (T : Top p loose mean mg mb h) : mg "sorted_list_difference" = some (.ref 130) ∧ Def (hv l ν h) 130 "sorted_list_difference" (fArgs (nth 30)) (fBody (nth 30)) (fScope (nth 30)) :=
  def_at N X T "sorted_list_difference" 130 30 129 (glob_at X T fun o es ep e d => by
    obtain rfl := Option.some.inj e
    injection d with d1 d2
    subst d1
    rfl) rfl rfl rfl rfl rfl rfl rfl
theorem def_9 (N : h.get? ν = none) (X : (KP P).In h) (T : Top p loose mean mg mb h) : mg "_law_name" = some (.ref 135) ∧ Def (hv l ν h) 135 "_law_name" (fArgs (nth 32)) (fBody (nth 32)) (fScope (nth 32)) :=
  def_at N X T "_law_name" 135 32 134 (glob_at X T fun o es ep e d => by
    obtain rfl := Option.some.inj e
    injection d with d1 d2
    subst d1
    rfl) rfl rfl rfl rfl rfl rfl rfl
theorem def_10 (N : h.get? ν = none) (X : (KP P).In h) (T : Top p loose mean mg mb h) : mg "_law_items" = some (.ref 140) ∧ Def (hv l ν h) 140 "_law_items" (fArgs (nth 33)) (fBody (nth 33)) (fScope (nth 33)) :=
  def_at N X T "_law_items" 140 33 139 (glob_at X T fun o es ep e d => by
    obtain rfl := Option.some.inj e
    injection d with d1 d2
    subst d1
    rfl) rfl rfl rfl rfl rfl rfl rfl
theorem def_11 (N : h.get? ν = none) (X : (KP P).In h) (T : Top p loose mean mg mb h) : mg "_law_figures" = some (.ref 147) ∧ Def (hv l ν h) 147 "_law_figures" (fArgs (nth 34)) (fBody (nth 34)) (fScope (nth 34)) :=
  def_at N X T "_law_figures" 147 34 146 (glob_at X T fun o es ep e d => by
    obtain rfl := Option.some.inj e
    injection d with d1 d2
    subst d1
    rfl) rfl rfl rfl rfl rfl rfl rfl
theorem def_12 (N : h.get? ν = none) (X : (KP P).In h) (T : Top p loose mean mg mb h) : mg "_law_pattern" = some (.ref 154) ∧ Def (hv l ν h) 154 "_law_pattern" (fArgs (nth 35)) (fBody (nth 35)) (fScope (nth 35)) :=
  def_at N X T "_law_pattern" 154 35 153 (glob_at X T fun o es ep e d => by
    obtain rfl := Option.some.inj e
    injection d with d1 d2
    subst d1
    rfl) rfl rfl rfl rfl rfl rfl rfl
theorem def_13 (N : h.get? ν = none) (X : (KP P).In h) (T : Top p loose mean mg mb h) : mg "_law_tried" = some (.ref 159) ∧ Def (hv l ν h) 159 "_law_tried" (fArgs (nth 36)) (fBody (nth 36)) (fScope (nth 36)) :=
  def_at N X T "_law_tried" 159 36 158 (glob_at X T fun o es ep e d => by
    obtain rfl := Option.some.inj e
    injection d with d1 d2
    subst d1
    rfl) rfl rfl rfl rfl rfl rfl rfl
theorem def_14 (N : h.get? ν = none) (X : (KP P).In h) (T : Top p loose mean mg mb h) : mg "_law_read" = some (.ref 166) ∧ Def (hv l ν h) 166 "_law_read" (fArgs (nth 37)) (fBody (nth 37)) (fScope (nth 37)) :=
  def_at N X T "_law_read" 166 37 165 (glob_at X T fun o es ep e d => by
    obtain rfl := Option.some.inj e
    injection d with d1 d2
    subst d1
    rfl) rfl rfl rfl rfl rfl rfl rfl
theorem def_15 (N : h.get? ν = none) (X : (KP P).In h) (T : Top p loose mean mg mb h) : mg "_law_stands" = some (.ref 171) ∧ Def (hv l ν h) 171 "_law_stands" (fArgs (nth 38)) (fBody (nth 38)) (fScope (nth 38)) :=
  def_at N X T "_law_stands" 171 38 170 (glob_at X T fun o es ep e d => by
    obtain rfl := Option.some.inj e
    injection d with d1 d2
    subst d1
    rfl) rfl rfl rfl rfl rfl rfl rfl
theorem def_16 (N : h.get? ν = none) (X : (KP P).In h) (T : Top p loose mean mg mb h) : mg "_law_fits" = some (.ref 176) ∧ Def (hv l ν h) 176 "_law_fits" (fArgs (nth 39)) (fBody (nth 39)) (fScope (nth 39)) :=
  def_at N X T "_law_fits" 176 39 175 (glob_at X T fun o es ep e d => by
    obtain rfl := Option.some.inj e
    injection d with d1 d2
    subst d1
    rfl) rfl rfl rfl rfl rfl rfl rfl
theorem base_gf (N : h.get? ν = none) (X : (KP P).In h) (T : Top p loose mean mg mb h) : ∀ p ∈ fnTab, mg p.1 = some (.ref p.2.1) ∧ Def (hv l ν h) p.2.1 p.1 (fArgs (nth p.2.2)) (fBody (nth p.2.2)) (fScope (nth p.2.2)) := by
  intro q hq
  simp only [fnTab, List.mem_cons, List.not_mem_nil, or_false] at hq
  rcases hq with rfl | rfl | rfl | rfl | rfl | rfl | rfl | rfl | rfl | rfl | rfl | rfl | rfl | rfl | rfl | rfl | rfl
  · exact def_0 N X T
  · exact def_1 N X T
  · exact def_2 N X T
  · exact def_3 N X T
  · exact def_4 N X T
  · exact def_5 N X T
  · exact def_6 N X T
  · exact def_7 N X T
  · exact def_8 N X T
  · exact def_9 N X T
  · exact def_10 N X T
  · exact def_11 N X T
  · exact def_12 N X T
  · exact def_13 N X T
  · exact def_14 N X T
  · exact def_15 N X T
  · exact def_16 N X T
theorem bi_at (X : (KP P).In h) (T : Top p loose mean mg mb h) {x : Str} {v : Value} (e : ∀ o es ep, (KP P).lookup 3 = some o → o.data = .dict es ep → nsFind es x = none) (hb : bootBuiltins x = some v) (hn : x ≠ "__name__" := by decide) : mg x = none ∧ mb x = some v :=
  ⟨no_glob X T e, (T.builtins x hn).trans hb⟩
theorem base_gb (X : (KP P).In h) (T : Top p loose mean mg mb h) : ∀ p ∈ biTab, mg p.1 = none ∧ mb p.1 = some p.2 := by
  intro q hq
  simp only [biTab, List.mem_cons, List.not_mem_nil, or_false] at hq
  rcases hq with rfl | rfl | rfl | rfl | rfl | rfl | rfl | rfl | rfl | rfl | rfl | rfl | rfl
  · exact bi_at X T (fun o es ep e d => by
      obtain rfl := Option.some.inj e
      injection d with d1 d2
      subst d1
      rfl) (by kernel_rfl)
  · exact bi_at X T (fun o es ep e d => by
      obtain rfl := Option.some.inj e
      injection d with d1 d2
      subst d1
      rfl) (by kernel_rfl)
  · exact bi_at X T (fun o es ep e d => by
      obtain rfl := Option.some.inj e
      injection d with d1 d2
      subst d1
      rfl) (by kernel_rfl)
  · exact bi_at X T (fun o es ep e d => by
      obtain rfl := Option.some.inj e
      injection d with d1 d2
      subst d1
      rfl) (by kernel_rfl)
  · exact bi_at X T (fun o es ep e d => by
      obtain rfl := Option.some.inj e
      injection d with d1 d2
      subst d1
      rfl) (by kernel_rfl)
  · exact bi_at X T (fun o es ep e d => by
      obtain rfl := Option.some.inj e
      injection d with d1 d2
      subst d1
      rfl) (by kernel_rfl)
  · exact bi_at X T (fun o es ep e d => by
      obtain rfl := Option.some.inj e
      injection d with d1 d2
      subst d1
      rfl) (by kernel_rfl)
  · exact bi_at X T (fun o es ep e d => by
      obtain rfl := Option.some.inj e
      injection d with d1 d2
      subst d1
      rfl) (by kernel_rfl)
  · exact bi_at X T (fun o es ep e d => by
      obtain rfl := Option.some.inj e
      injection d with d1 d2
      subst d1
      rfl) (by kernel_rfl)
  · exact bi_at X T (fun o es ep e d => by
      obtain rfl := Option.some.inj e
      injection d with d1 d2
      subst d1
      rfl) (by kernel_rfl)
  · exact bi_at X T (fun o es ep e d => by
      obtain rfl := Option.some.inj e
      injection d with d1 d2
      subst d1
      rfl) (by kernel_rfl)
  · exact bi_at X T (fun o es ep e d => by
      obtain rfl := Option.some.inj e
      injection d with d1 d2
      subst d1
      rfl) (by kernel_rfl)
  · exact bi_at X T (fun o es ep e d => by
      obtain rfl := Option.some.inj e
      injection d with d1 d2
      subst d1
      rfl) (by kernel_rfl)
noncomputable def txtOf : Value → Option Str
  | .str x _ => some x
  | _ => none
theorem all2_txt {h : Heap} : ∀ {vs : List Value} {ys : List Str}, vs.map txtOf = ys.map some → All2 (ys.map vS) h vs
  | [], [], _ => rfl
  | [], _ :: _, e => by cases e
  | _ :: _, [], e => by cases e
  | v :: vs, y :: ys, e => by
    rw [List.map_cons, List.map_cons] at e
    injection e with e1 e2
    refine ⟨v, vs, rfl, ?_, all2_txt e2⟩
    cases v with
    | str x t => exact ⟨t, by injection e1 with e1; rw [e1]⟩
    | _ => cases e1
theorem base_map (N : h.get? ν = none) (X : (KP P).In h) : (vL ((List.range 256).map fun c => vS (hex2 c))).on (hv l ν h) (.ref 77) := by
  obtain ⟨vs, n, e, e2⟩ : ∃ vs : List Value, ∃ n, (KP P).lookup 77 = some { cls := .type "list", data := .seq vs.toArray n } ∧ vs.map txtOf = ((List.range 256).map hex2).map some := ⟨_, _, rfl, by kernel_rfl⟩
  refine ⟨77, vs, rfl, ⟨n, kget N X e (by decide)⟩, ?_⟩
  have := all2_txt (h := hv l ν h) e2
  rw [List.map_map] at this
  exact this
theorem base_of (N : h.get? ν = none) (X : (KP P).In h) (T : Top p loose mean mg mb h) : Base (hv l ν h) mg mb :=
  ⟨base_ns N X T, base_bi N T, base_gf N X T, base_gb X T, (glob_at X T fun o es ep e d => by
    obtain rfl := Option.some.inj e
    injection d with d1 d2
    subst d1
    rfl), base_map N X⟩
end
end Mine
set_option maxRecDepth 100000
set_option maxHeartbeats 4000000
namespace Mine
open PySem PySem.W PyProof.Rows PySem.Calls PySem.Spec
section
variable {l : Nat} {prog : Program} {w : World} {P : Params} {h : Heap} {p : Program} {loose : List Str} {mean : ExcName → Option Value} {mg mb : Str → Option Value}
theorem base_qpat (N : h.get? ν = none) (X : (KP P).In h) : QPat (hv l ν h) := by
  obtain ⟨x1, x2, e1⟩ : ∃ x1 x2, (KP P).lookup 74 = some { cls := .type "re.Pattern", data := .fields #[x1, x2, .int 0 0, .none, .none, .ref 73, .int 0 0] } := ⟨_, _, rfl⟩
  obtain ⟨n, e2⟩ : ∃ n, (KP P).lookup 73 = some { cls := .type "tuple", data := .seq (Q.code.map fun (k : Nat) => .int (k : Int) 0) n } := ⟨0, by kernel_rfl⟩
  exact ⟨⟨x1, x2, kget N X e1 (by decide)⟩, ⟨n, kget N X e2 (by decide)⟩⟩
theorem base_fn116 (N : h.get? ν = none) (X : (KP P).In h) : ∃ o, (hv l ν h).get? 116 = some o ∧ o.cls = .type "function" := by
  obtain ⟨o, e, c⟩ : ∃ o, (KP P).lookup 116 = some o ∧ o.cls = .type "function" := ⟨_, rfl, rfl⟩
  exact ⟨o, kget N X e (by decide), c⟩
theorem base_twin (X : (KP P).In h) (T : Top p loose mean mg mb h) : mg "twin_re_1_quoprimime" = some (.ref 74) := glob_at X T fun o es ep e d => by
  obtain rfl := Option.some.inj e
  injection d with d1 d2
  subst d1
  rfl
noncomputable def plainSign (c : Nat) : Prop := c ∈ [97, 98, 61, 233, 95, 48, 49, 50, 51, 52, 53, 54, 55, 56, 57, 65, 66, 67, 68, 69, 70]
theorem keys_ok : ∀ (es : List DictEntry), (es.all fun e => match e.key with | .int k _ => e.hash == (intKind prog w).hash k | _ => false) = true → ∀ e ∈ es, ∃ k, (intKind prog w).is k e.key = true ∧ e.hash = (intKind prog w).hash k := by
  intro es h e he
  have := List.all_eq_true.mp h e he
  obtain ⟨hash, key, val⟩ := e
  cases key with
  | int k t => exact ⟨k, intKind_is prog w k t, by simpa using this⟩
  | _ => cases this
noncomputable def plainList : List Nat := [97, 98, 61, 233, 95, 48, 49, 50, 51, 52, 53, 54, 55, 56, 57, 65, 66, 67, 68, 69, 70]
theorem dict_none {es : Array DictEntry} {c : Int} (h : (es.toList.all fun e => match e.key with | .int k _ => k != c | _ => false) = true) : findBy (intKind prog w).is es c = none := by
  have key : ∀ e ∈ es.toList, (intKind prog w).is c e.key = false := by
    intro e he
    have := List.all_eq_true.mp h e he
    obtain ⟨hash, key, val⟩ := e
    cases key with
    | int k t =>
      have hk := intKind_is prog w k t
      have hne : k ≠ c := by simpa using this
      cases hc : (intKind prog w).is c (.int k t) with
      | false => rfl
      | true => exact absurd ((intKind prog w).inj _ _ _ hk hc) hne
    | _ => cases this
  unfold findBy
  have : (es.find? fun e => (intKind prog w).is c e.key) = none := by
    rw [Array.find?_eq_none]
    intro e he
    rw [key e (by simpa using he)]
    decide
  rw [this]
  rfl
theorem base_smap (N : h.get? ν = none) (X : (KP P).In h) (T : Top p loose mean mg mb h) : SMap prog w (hv 1 ν h) mg plainSign := by
  obtain ⟨es, n, e, c1, c2⟩ : ∃ es n, (KP P).lookup 45 = some { cls := .type "dict", data := .dict es n } ∧ (es.toList.all fun e => match e.key with | .int k _ => e.hash == (intKind prog w).hash k | _ => false) = true ∧
      (plainList.all fun c => es.toList.all fun e => match e.key with | .int k _ => k != (c : Int) | _ => false) = true := ⟨_, _, rfl, by first | rfl | kernel_rfl, by first | rfl | kernel_rfl⟩
  have e' := kget (l := 1) (ν := ν) N X e (by decide)
  refine ⟨glob_at X T fun o es ep e d => by
    obtain rfl := Option.some.inj e
    injection d with d1 d2
    subst d1
    rfl, ⟨fun k => findBy (intKind prog w).is es k, ⟨_, es, n, e', ⟨rfl, rfl, rfl⟩, rfl, ?_, fun _ => rfl⟩, ?_⟩, ?_, ⟨_, e', rfl⟩, Nat.one_pos⟩
  · intro x hx
    exact keys_ok _ c1 x (by simpa using hx)
  · intro c hc
    exact dict_none (List.all_eq_true.mp c2 c hc)
  · intro c hc
    unfold plainSign at hc
    simp only [List.mem_cons, List.not_mem_nil, or_false] at hc
    omega
theorem base_lam (N : h.get? ν = none) (h57 : h.get? 57 = none) (X : (KP P).In h) (T : Top p loose mean mg mb h) : LamB (hv l ν h) mg := by
  obtain ⟨o61, vs, file, tf, flags, tg, inF, text, tt, e1, e2, e3, e4, e5, e6, e7, e8, e9⟩ : ∃ o vs file tf flags tg inF text tt, (KP P).lookup 61 = some o ∧ o.cls = .type "code" ∧ o.data = .fields vs ∧ vs[11]? = some (.ref 57) ∧ vs.getD 11 .none = .ref 57 ∧ vs.getD 18 .none = .str file tf ∧
    vs.getD 7 .none = .int flags tg ∧ vs.getD 9 .none = .bool inF ∧ vs.getD 10 .none = .int text tt := ⟨_, _, _, _, _, _, _, _, _, rfl, rfl, rfl, rfl, rfl, rfl, rfl, rfl, rfl⟩
  obtain ⟨x1, x2, x3, x4, f1⟩ : ∃ x1 x2 x3 x4, (KP P).lookup 36 = some { cls := .type "re.Pattern", data := .fields #[x1, x2, .int 1 0, x3, x4, .ref 35, .int 0 0] } := ⟨_, _, _, _, rfl⟩
  obtain ⟨n, f2⟩ : ∃ n, (KP P).lookup 35 = some { cls := .type "tuple", data := .seq (Q.code2.map fun (k : Nat) => .int (k : Int) 0) n } := ⟨0, by kernel_rfl⟩
  obtain ⟨o62, pm, doc, f3, f4⟩ : ∃ o pm doc, (KP P).lookup 62 = some o ∧ o.data = .func (docDef "_translate" (fArgs (nth 8)) (fBody (nth 8)) (fScope (nth 8)) pm (.ref 61) doc) := ⟨_, _, _, rfl, rfl⟩
  obtain ⟨bm, ob, b1, b2, b3, b4, b5, b6⟩ := T.bmain
  obtain ⟨o3, e3'⟩ : ∃ o, (KP P).lookup 3 = some o ∧ o.cls = .type "dict" := ⟨_, rfl, rfl⟩
  have hb3 : bm ≠ mainGlobals := fun q => by
    have := X 3 o3 e3'.1
    rw [q] at b3
    rw [show mainGlobals = 3 from rfl, this] at b3
    cases b3
    rw [e3'.2] at b4
    exact absurd b4 (by decide)
  have hb57 : bm ≠ 57 := fun q => by rw [q, h57] at b3; cases b3
  refine ⟨⟨o61, vs, file, tf, flags, tg, inF, text, tt, kget N X e1 (by decide), e2, e3, e4, e5, e6, e7, e8, e9, by decide⟩, ⟨bm, ob, b1, b2, hb3, hb57, hv_get b3 (by simp) (offN N b3 hb57), b4, b5, b6⟩, base_ns N X T, glob_at X T fun o es ep e d => by
    obtain rfl := Option.some.inj e
    injection d with d1 d2
    subst d1
    rfl, ⟨x1, x2, x3, x4, kget N X f1 (by decide)⟩, ⟨n, kget N X f2 (by decide)⟩, ⟨o62, pm, doc, kget N X f3 (by decide), f4⟩⟩
end
end Mine
set_option maxRecDepth 100000
set_option maxHeartbeats 8000000
namespace Mine
open PySem PySem.W PyProof.Rows PySem.Calls PySem.Spec
theorem looks_ : ∀ w : World, (fun os => ((staticsOk (importedModules PySem.Challenge.pw_in0247_01.main.body) (H0 PySem.Challenge.pw_in0247_01 sg w.params) (H1 PySem.Challenge.pw_in0247_01 sg w.params) && namesBound PySem.Challenge.pw_in0247_01 (H1 PySem.Challenge.pw_in0247_01 sg w.params) && gensDone ⟨H1 PySem.Challenge.pw_in0247_01 sg w.params, ⟨[]⟩, {}, 2212, os⟩ && laidKept (H0 PySem.Challenge.pw_in0247_01 sg w.params) (H1 PySem.Challenge.pw_in0247_01 sg w.params)),
    openSeen (qP PySem.Challenge.pw_in0247_01) loose (importedModules PySem.Challenge.pw_in0247_01.main.body) (fun s => xlAt (qP PySem.Challenge.pw_in0247_01) lvL s && recOk [] s) true ⟨H1 PySem.Challenge.pw_in0247_01 sg w.params, ⟨[]⟩, {}, 2212, os⟩,
    (asL.map (H1 PySem.Challenge.pw_in0247_01 sg w.params).get?, ([57] : List Addr).map (H1 PySem.Challenge.pw_in0247_01 sg w.params).get?))) = fun _ => (true, openGood (qP PySem.Challenge.pw_in0247_01) loose, ((KP w.params).map fun p => some p.2, ([57] : List Addr).map fun _ => some (tabObj #[]))) := by
  intro w
  unfold KP
  rw [loose_eq, sg_eq, PySem.W.Fast.te5923862056798008813, PySem.W.Fast.te4187177175401517315]
  kernel_rfl
end Mine
set_option maxRecDepth 10000
namespace Mine
open PySem PySem.W PyProof.Rows PySem.Calls PySem.Spec
section
variable {prog : Program} {w : World} {P : Params} {s₁ : Shared} {p : Program} {loose : List Str} {mean : ExcName → Option Value} {mg mb : Str → Option Value}
theorem well_ints {h h' : Heap} : ∀ (ns : List Int) (vs : List Value), WellAll P h vs (ofPys (ns.map PyData.int)) → All2 (ns.map vI) h' vs
  | [], vs, x => by
    cases x
    rfl
  | n :: ns, vs, x => by
    cases x with
    | cons h1 h2 =>
      cases h1 with
      | int i t => exact ⟨_, _, rfl, ⟨t, rfl⟩, well_ints ns _ h2⟩
theorem well_list {h : Heap} {a : Addr} {ns : List Int} (x : Well P h (.ref a) (ofPy (PyData.list (ns.map PyData.int)))) : ∃ vs : List Value, h.get? a = some { cls := .type "list", data := .seq vs.toArray } ∧ ∀ h', All2 (ns.map vI) h' vs := by
  cases x with
  | list e r => exact ⟨_, e, fun h' => well_ints ns _ r⟩
theorem plains_ok : ∀ c ∈ plains, plainSign c := fun c hc => hc
theorem law_B {h : Heap} {ν : Nat} (N : h.get? ν = none) (h57 : h.get? 57 = none) (X : (KP P).In h) (T : Top p loose mean mg mb h) : LawB prog w (hv 1 ν h) mg mb plainSign :=
  ⟨base_of N X T, base_qpat N X, base_fn116 N X, base_twin X T, base_lam N h57 X T, base_smap N X T⟩
theorem law_cells {L : Addr} {fc : Addr × Value} : (eLaw L fc).cells = [(Str.ofString "due", L + 5), (Str.ofString "figures", L + 4), (Str.ofString "names", L + 3), (Str.ofString "drawn", L + 2), (Str.ofString "script", L + 1)] := rfl
theorem cells_at {h : Heap} {cm : Str → Option Value} {cs : List (Str × Addr)} {cells : List (Addr × Obj)} (X : CellsAre cm cs cells) : (∀ p ∈ cells, h.get? p.1 = some p.2) → ∀ n c, cs.lookup n = some c → h.IsCell c (cm n) := by
  induction X with
  | nil => intro _ n c e; cases e
  | @cons n' c' o cs cells hd _ ih =>
    intro hg n c e
    rw [List.lookup_cons] at e
    cases hb : n == n' with
    | true => rw [hb] at e; cases e; rw [eq_of_beq hb]; exact ⟨o, hg _ List.mem_cons_self, hd⟩
    | false => rw [hb] at e; exact ih (fun p hp => hg p (List.mem_cons_of_mem _ hp)) n c e
theorem cells_names {cm : Str → Option Value} {cs : List (Str × Addr)} {cells : List (Addr × Obj)} (X : CellsAre cm cs cells) : cells.map (·.1) = cs.map (·.2) := by
  induction X with
  | nil => rfl
  | cons _ _ ih => rw [List.map_cons, List.map_cons, ih]
theorem law_join {A : Around} {fc : Addr × Value} {h₁ : Heap} {tk₁ : Nat} {m cm : Str → Option Value} {cells : List (Addr × Obj)} {w7 : Addr} {ns : List Int} {Q : Flow → Shared → Prop} {E : Value → Shared → Prop}
    (hT9 : TabsAt [(61, 57)] s₁.heap) (X' : (KP P).In (ghostOf s₁.heap [(61, 57)])) (T' : Top p loose mean mg mb (ghostOf s₁.heap [(61, 57)]))
    (F' : Fr (ghostOf s₁.heap [(61, 57)]) s₁.heap.objs.size h₁ m) (N' : News (ghostOf s₁.heap [(61, 57)]) s₁.heap.objs.size h₁ (cells ++ [(57, tabObj #[])]))
    (X0 : CellsAre cm (eLaw s₁.heap.objs.size fc).cells cells) (hcm : cm "script" = some (.ref w7))
    (W : Well w.params s₁.heap (.ref w7) (ofPy (PyData.list (ns.map PyData.int)))) (hn : ns.length < 100)
    (hA : A.frames = some [eLaw s₁.heap.objs.size fc]) (hh : A.handled = none) (hdep : A.depth + 5 < recursionLimit) (hun : A.units + 50 * 5 + 100 < cLine)
    (hQ : ∀ h tk, (∀ b o, (ghostOf s₁.heap [(61, 57)]).get? b = some o → h.get? b = some o) → (∃ ps, h.get? 57 = some (tabObj ps)) → Q (.ret (.bool true)) { s₁ with heap := h, toks := tk }) :
    wpAny (model prog w) A (execs (fBody (nth 40)) (eLaw s₁.heap.objs.size fc)) Q E { s₁ with heap := h₁, toks := tk₁ } := by
  have e57 : s₁.heap.get? 57 = some (tabObj #[]) := (hT9 (61, 57) (.head _)).2
  have l57 : 57 < s₁.heap.objs.size := Heap.lt_size e57
  have g57 : (ghostOf s₁.heap [(61, 57)]).get? 57 = none := hideAll_none _ (.head _)
  have gL : (ghostOf s₁.heap [(61, 57)]).get? s₁.heap.objs.size = none := none_of_ge (Nat.le_of_eq (hideAll_size _ _))
  have hlt : ∀ b o, (ghostOf s₁.heap [(61, 57)]).get? b = some o → b ≠ 57 ∧ b < s₁.heap.objs.size := fun b o e => ⟨(fun q => by
    rw [q, g57] at e
    cases e), (by
    have := Heap.lt_size e
    rw [show (ghostOf s₁.heap [(61, 57)]).objs.size = s₁.heap.objs.size from hideAll_size _ _] at this
    exact this)⟩
  have hmut : ∀ a ∈ Env.mut (eLaw s₁.heap.objs.size fc), s₁.heap.objs.size ≤ a := by
    intro a ha
    have : a ∈ [s₁.heap.objs.size, s₁.heap.objs.size + 5, s₁.heap.objs.size + 4, s₁.heap.objs.size + 3, s₁.heap.objs.size + 2, s₁.heap.objs.size + 1] := ha
    simp only [List.mem_cons, List.not_mem_nil, or_false] at this
    rcases this with rfl | rfl | rfl | rfl | rfl | rfl <;> first | exact Nat.le_refl _ | exact Nat.le_add_right _ _
  have n57 : h₁.get? 57 = some (tabObj #[]) := (N' _ (List.mem_append_right _ (.head _))).1
  have hcs : ∀ p ∈ cells, h₁.get? p.1 = some p.2 := fun p hp => (N' p (List.mem_append_left _ hp)).1
  have tabL : Tab s₁.heap.objs.size h₁ := by
    obtain ⟨o, _, _, e, _⟩ := F'.ns
    exact ⟨#[], n57, .inl rfl, o, e⟩
  have cell := cells_at X0 hcs
  have vis1 : ∀ b o, (ghostOf s₁.heap [(61, 57)]).get? b = some o → (vis s₁.heap.objs.size (Env.mut (eLaw s₁.heap.objs.size fc)) h₁).get? b = some o := fun b o e => by
    have l := hlt b o e
    exact vis_get (F'.keep b o e) (fun hm => absurd (hmut b hm) (Nat.not_le.mpr l.2)) ⟨l.1, Nat.ne_of_lt l.2⟩
  have B : LawB prog w (hv 1 s₁.heap.objs.size (ghostOf s₁.heap [(61, 57)])) mg mb plainSign := law_B gL g57 X' T'
  have B0 : Base (hv 0 s₁.heap.objs.size (ghostOf s₁.heap [(61, 57)])) mg mb := base_of gL X' T'
  have C : Cx s₁.heap.objs.size (0 + 5) A (Env.mut (eLaw s₁.heap.objs.size fc)) (hv 0 s₁.heap.objs.size (ghostOf s₁.heap [(61, 57)])) { s₁ with heap := h₁, toks := tk₁ } := by
    refine ⟨hh, hdep, hun, tabL, fun a ha => ⟨Nat.ne_of_gt (Nat.lt_of_lt_of_le l57 (hmut a ha)), ?_⟩, fun b o e => vis1 b o (hv_iff.mp e).1, Nat.zero_le _⟩
    rcases List.mem_cons.mp ha with rfl | ha
    · obtain ⟨o, _, _, e, _⟩ := F'.ns
      exact ⟨o, e⟩
    · rw [← cells_names X0] at ha
      obtain ⟨p, hp, rfl⟩ := List.mem_map.mp ha
      exact ⟨_, hcs p hp⟩
  have F : FmL (eLaw s₁.heap.objs.size fc) { s₁ with heap := h₁, toks := tk₁ } { s₁ with heap := h₁, toks := tk₁ } m cm := by
    refine ⟨⟨_, _, rfl⟩, rfl, F'.ns, fun n c e => cell n c e, ?_, ?_, ?_, ?_⟩
    · exact Nat.ne_of_gt l57
    · intro q hq
      rw [law_cells] at hq
      simp only [List.mem_cons, List.not_mem_nil, or_false] at hq
      rcases hq with rfl | rfl | rfl | rfl | rfl <;> exact Nat.ne_of_gt (Nat.lt_of_lt_of_le l57 (Nat.le_add_right _ _))
    · rw [law_cells]
      simp
    · intro q hq
      rw [law_cells] at hq
      simp only [List.mem_cons, List.not_mem_nil, or_false] at hq
      rcases hq with rfl | rfl | rfl | rfl | rfl <;> exact Nat.ne_of_gt (Nat.lt_add_of_pos_right (by decide))
  obtain ⟨vs, ew, hvs⟩ := well_list W
  have gw : (ghostOf s₁.heap [(61, 57)]).get? w7 = some { cls := .type "list", data := .seq vs.toArray } := ghost_get hT9 ew (fun q => by cases q)
  have ps : (vL (ns.map vI)).on (vis s₁.heap.objs.size (Env.mut (eLaw s₁.heap.objs.size fc)) h₁) (.ref w7) := ⟨w7, vs, rfl, ⟨_, vis1 _ _ gw⟩, hvs _⟩
  have main := law_ok (ro := 0) (cd := fc) B B0 (fun b => rfl) (Nat.le_refl _) (facts plains_ok ns) F C (fun a ha => ha) hA hcm ps hn
  refine wpAny_mono (main.go E) (fun f s' y => ?_) fun _ _ y => y
  obtain ⟨rfl, ⟨h, tk, rfl⟩, C'⟩ := y
  refine hQ h tk (fun b o e => ?_) ?_
  · have l := hlt b o e
    exact (vis_iff.mp (C'.base b o (hv_get e (by simp) ⟨l.1, Nat.ne_of_lt l.2⟩))).1
  · obtain ⟨ps, e, _⟩ := C'.tab
    exact ⟨ps, e⟩
end
end Mine
open PySem PySem.W PyProof.Rows PySem.Calls PySem.Spec
set_option maxRecDepth 100000
set_option maxHeartbeats 8000000
namespace Mine
theorem left_ : LeftO PySem.Challenge.pw_in0247_01 (qP PySem.Challenge.pw_in0247_01) loose (fun s => xlAt (qP PySem.Challenge.pw_in0247_01) lvL s && recOk [] s) (kmHook KP asL (fun _ => by kernel_rfl) [57]).obs (kmHook KP asL (fun _ => by kernel_rfl) [57]).val 38540 :=
  LeftO.of_pieces opens_ size_ run_ (by kernel_rfl) looks_
end Mine
open Mine
theorem PySem.Challenge.cw_in0247_01_holds : PySem.Challenge.rw_in0247_01.Holds := by
  w_on
  refine holds_law said fun said' => ?_
  refine holds_open (r := PySem.Challenge.rw_in0247_01.row) (q := qP PySem.Challenge.pw_in0247_01) (loose := loose) (Xt := fun s => xlAt (qP PySem.Challenge.pw_in0247_01) lvL s && recOk [] s) (XP := XL (qP PySem.Challenge.pw_in0247_01) lvL) (Yf := Hook.obs (kmHook KP asL (fun _ => by kernel_rfl) [57])) (Ya := Hook.val (kmHook KP asL (fun _ => by kernel_rfl) [57])) (YP := Hook.says (kmHook KP asL (fun _ => by kernel_rfl) [57])) (N := 38540) left_ (Hook.of (kmHook KP asL (fun _ => by kernel_rfl) [57])) (Hook.keeps (kmHook KP asL (fun _ => by kernel_rfl) [57])) (fun s e => xl_of s (Bool.and_eq_true_iff.mp e).1) XL.keeps (by rfl) (by rfl) (by rfl) (fun s e => recFacts_of (Bool.and_eq_true_iff.mp e).2) (by rfl) said' (by decide +kernel) ⟨rfl, rfl, rfl, rfl, rfl, by decide +kernel⟩ ?hw ?hc
  case hw => w_witness2
  case hc =>
    k_go0
    rename_i X0 X' T' K' F' N' l0
    refine law_join (fc := (_, _)) hT9 X' T' F' N' X0 ?_ (by assumption) (by omega) rfl rfl (by show callerA.depth + 1 + 5 < recursionLimit; decide) (by show callerA.units + 3 + 50 * 5 + 100 < cLine; decide) ?_
    · rfl
    · intro h tk k e
      obtain ⟨ps, e⟩ := e
      refine ⟨⟨.inl ⟨_, WData.bool true, [], rfl, fun _ => rfl, ReadsW.bool true, ?_, fun _ => ⟨List.nodup_nil, fun a ha => nomatch ha⟩⟩, k, rfl, by assumption⟩, ⟨⟨ps, e⟩, trivial⟩⟩
      exact postW_of rfl (w_eq_bool (w_res rfl) w_lit) rfl
