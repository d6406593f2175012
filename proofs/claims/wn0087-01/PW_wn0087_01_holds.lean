import PyProof.Rows.All
import Wide.All
import OpenK.AllK
import Wide.FinOn
import PyProof.GenQ
import PySem.Challenge.RW_wn0087_01

set_option Elab.async false
set_option maxRecDepth 100000
set_option genSizeOf false

-- M1
namespace Mine
open PySem PySem.Calls PyProof.Rows PySem.W

/-- plain data -/
inductive D where
  | none
  | bool (b : Bool)
  | int (i : Int)
  | str (x : Str)
  | list (ds : List D)
  | tup (ds : List D)
  | ws (C : Addr) (cn : List Int) (tr nt : Int)
  | inst (a dx C : Addr) (es : List DictEntry) (n : Nat)

/-- the classes of what data is made of -/
def IsData (c : Value) : Prop := c = .type "list" ∨ c = .type "tuple" ∨ c = .type "dict" ∨ ∃ C, c = .ref C
theorem IsData.ne {c : Value} (h : IsData c) : c ≠ .none := by
  rintro rfl
  rcases h with h | h | h | ⟨_, h⟩ <;> cases h
/-- a Whitespace object as far as indent_level reads it -/
def IsWs (h : Heap) (mu : Addr → Prop) (a C : Addr) (cn : List Int) (tr nt : Int) : Prop :=
  ∃ dx es n tN tC t1 t2 vs, h.get? a = some (instObj C dx) ∧ ¬ mu dx ∧ h.get? dx = some (dictOf es n) ∧
    getL "norm" es = some (some (.ref tN)) ∧ getL "nt" es = some (some (.int nt t1)) ∧ getL "indent_level" es = some none ∧
    ¬ mu tN ∧ IsTup h tN #[.ref tC, .int tr t2] ∧ ¬ mu tC ∧ IsTup h tC (List.toArray vs) ∧ IntsAre vs cn

mutual
def Rd0 (h : Heap) (mu : Addr → Prop) : D → Value → Prop
  | .none, v => v = .none
  | .bool b, v => v = .bool b
  | .int i, v => ∃ t, v = .int i t
  | .str x, v => ∃ t, v = .str x t
  | .list ds, v => ∃ a vs, v = .ref a ∧ ¬ mu a ∧ h.IsList a (List.toArray vs) ∧ RdL0 h mu ds vs
  | .tup ds, v => ∃ a vs, v = .ref a ∧ ¬ mu a ∧ IsTup h a (List.toArray vs) ∧ RdL0 h mu ds vs
  | .ws C cn tr nt, v => ∃ a, v = .ref a ∧ ¬ mu a ∧ IsWs h mu a C cn tr nt
  | .inst a dx C es n, v => v = .ref a ∧ ¬ mu a ∧ ¬ mu dx ∧ h.get? a = some (instObj C dx) ∧ h.get? dx = some (dictOf es n)
def RdL0 (h : Heap) (mu : Addr → Prop) : List D → List Value → Prop
  | [], vs => vs = []
  | d :: ds, vs => ∃ v vs', vs = v :: vs' ∧ Rd0 h mu d v ∧ RdL0 h mu ds vs'
end
/-- the value v bears the datum d, out of mu's reach -/
@[irreducible] def Rd (h : Heap) (mu : Addr → Prop) (d : D) (v : Value) : Prop := Rd0 h mu d v
@[irreducible] def RdL (h : Heap) (mu : Addr → Prop) (ds : List D) (vs : List Value) : Prop := RdL0 h mu ds vs

section
variable {h : Heap} {mu : Addr → Prop} {v : Value}
theorem rd_none : Rd h mu .none v ↔ v = .none := by unfold Rd; exact Iff.rfl
theorem rd_bool {b : Bool} : Rd h mu (.bool b) v ↔ v = .bool b := by unfold Rd; exact Iff.rfl
theorem rd_int {i : Int} : Rd h mu (.int i) v ↔ ∃ t, v = .int i t := by unfold Rd; exact Iff.rfl
theorem rd_str {x : Str} : Rd h mu (.str x) v ↔ ∃ t, v = .str x t := by unfold Rd; exact Iff.rfl
theorem rd_list {ds : List D} : Rd h mu (.list ds) v ↔ ∃ a vs, v = .ref a ∧ ¬ mu a ∧ h.IsList a (List.toArray vs) ∧ RdL h mu ds vs := by unfold Rd RdL; exact Iff.rfl
theorem rd_tup {ds : List D} : Rd h mu (.tup ds) v ↔ ∃ a vs, v = .ref a ∧ ¬ mu a ∧ IsTup h a (List.toArray vs) ∧ RdL h mu ds vs := by unfold Rd RdL; exact Iff.rfl
theorem rd_ws {C : Addr} {cn : List Int} {tr nt : Int} : Rd h mu (.ws C cn tr nt) v ↔ ∃ a, v = .ref a ∧ ¬ mu a ∧ IsWs h mu a C cn tr nt := by unfold Rd; exact Iff.rfl
theorem rd_inst {a dx C : Addr} {es : List DictEntry} {n : Nat} : Rd h mu (.inst a dx C es n) v ↔ v = .ref a ∧ ¬ mu a ∧ ¬ mu dx ∧ h.get? a = some (instObj C dx) ∧ h.get? dx = some (dictOf es n) := by unfold Rd; exact Iff.rfl
theorem rdl_nil {vs : List Value} : RdL h mu [] vs ↔ vs = [] := by unfold RdL; exact Iff.rfl
theorem rdl_cons {d : D} {ds : List D} {vs : List Value} : RdL h mu (d :: ds) vs ↔ ∃ v vs', vs = v :: vs' ∧ Rd h mu d v ∧ RdL h mu ds vs' := by unfold Rd RdL; exact Iff.rfl
theorem rdl_cons' {d : D} {ds : List D} {vs' : List Value} (x : Rd h mu d v) (y : RdL h mu ds vs') : RdL h mu (d :: ds) (v :: vs') := rdl_cons.mpr ⟨v, vs', rfl, x, y⟩
theorem rdl_nil' : RdL h mu [] [] := rdl_nil.mpr rfl
end

section
variable {h h' : Heap} {mu mu' : Addr → Prop}

theorem IsWs.move {a C : Addr} {cn : List Int} {tr nt : Int} (ha : ¬ mu a) (x : IsWs h mu a C cn tr nt)
    (k : ∀ b o, ¬ mu b → h.get? b = some o → IsData o.cls → h'.get? b = some o ∧ ¬ mu' b) : IsWs h' mu' a C cn tr nt := by
  obtain ⟨dx, es, n, tN, tC, t1, t2, vs, h1, h2, h3, h4, h5, h5', h6, ⟨oN, h7, h7'⟩, h8, ⟨oC, h9, h9'⟩, h10⟩ := x
  have kN := k tN oN h6 h7 (by rw [h7'.1]; exact .inr (.inl rfl))
  have kC := k tC oC h8 h9 (by rw [h9'.1]; exact .inr (.inl rfl))
  exact ⟨dx, es, n, tN, tC, t1, t2, vs, (k a _ ha h1 (.inr (.inr (.inr ⟨_, rfl⟩)))).1, (k dx _ h2 h3 (.inr (.inr (.inl rfl)))).2, (k dx _ h2 h3 (.inr (.inr (.inl rfl)))).1, h4, h5, h5', kN.2, ⟨oN, kN.1, h7'⟩, kC.2, ⟨oC, kC.1, h9'⟩, h10⟩

mutual
theorem Rd.move (k : ∀ b o, ¬ mu b → h.get? b = some o → IsData o.cls → h'.get? b = some o ∧ ¬ mu' b) : ∀ (d : D) (v : Value), Rd h mu d v → Rd h' mu' d v
  | .none, _, x => rd_none.mpr (rd_none.mp x)
  | .bool _, _, x => rd_bool.mpr (rd_bool.mp x)
  | .int _, _, x => rd_int.mpr (rd_int.mp x)
  | .str _, _, x => rd_str.mpr (rd_str.mp x)
  | .list ds, _, x => by
    obtain ⟨a, vs, e, hm, ⟨o, ho, hc⟩, hl⟩ := rd_list.mp x
    have z := k a o hm ho (by rw [hc.1]; exact .inl rfl)
    exact rd_list.mpr ⟨a, vs, e, z.2, ⟨o, z.1, hc⟩, RdL.move k ds vs hl⟩
  | .tup ds, _, x => by
    obtain ⟨a, vs, e, hm, ⟨o, ho, hc⟩, hl⟩ := rd_tup.mp x
    have z := k a o hm ho (by rw [hc.1]; exact .inr (.inl rfl))
    exact rd_tup.mpr ⟨a, vs, e, z.2, ⟨o, z.1, hc⟩, RdL.move k ds vs hl⟩
  | .ws _ _ _ _, _, x => by
    obtain ⟨a, e, hm, hw⟩ := rd_ws.mp x
    have hw' := hw
    obtain ⟨dx, es, n, tN, tC, t1, t2, vs, h1, _⟩ := hw'
    exact rd_ws.mpr ⟨a, e, (k a _ hm h1 (.inr (.inr (.inr ⟨_, rfl⟩)))).2, hw.move hm k⟩
  | .inst a dx C es n, _, x => by
    obtain ⟨e, h1, h2, h3, h4⟩ := rd_inst.mp x
    have z := k a _ h1 h3 (.inr (.inr (.inr ⟨_, rfl⟩)))
    have z' := k dx _ h2 h4 (.inr (.inr (.inl rfl)))
    exact rd_inst.mpr ⟨e, z.2, z'.2, z.1, z'.1⟩
theorem RdL.move (k : ∀ b o, ¬ mu b → h.get? b = some o → IsData o.cls → h'.get? b = some o ∧ ¬ mu' b) : ∀ (ds : List D) (vs : List Value), RdL h mu ds vs → RdL h' mu' ds vs
  | [], _, x => rdl_nil.mpr (rdl_nil.mp x)
  | d :: ds, _, x => by
    obtain ⟨v, vs', e, hd, hl⟩ := rdl_cons.mp x
    exact rdl_cons.mpr ⟨v, vs', e, Rd.move k d v hd, RdL.move k ds vs' hl⟩
end

theorem RdL.length : ∀ {ds : List D} {vs : List Value}, RdL h mu ds vs → vs.length = ds.length
  | [], _, x => by rw [rdl_nil.mp x]; rfl
  | d :: ds, _, x => by
    obtain ⟨v, vs', e, _, hl⟩ := rdl_cons.mp x
    rw [e, List.length_cons, List.length_cons, RdL.length hl]
theorem RdL.get : ∀ {ds : List D} {vs : List Value}, RdL h mu ds vs → ∀ {i : Nat} {d : D}, ds[i]? = some d → ∃ v, vs[i]? = some v ∧ Rd h mu d v
  | [], _, _, _, _, e => by simp at e
  | d :: ds, _, x, i, d', e' => by
    obtain ⟨v, vs', e, hd, hl⟩ := rdl_cons.mp x
    subst e
    cases i with
    | zero => rw [List.getElem?_cons_zero] at e' ⊢; cases e'; exact ⟨v, rfl, hd⟩
    | succ i => rw [List.getElem?_cons_succ] at e' ⊢; exact RdL.get hl e'
theorem RdL.append : ∀ {ds ds' : List D} {vs vs' : List Value}, RdL h mu ds vs → RdL h mu ds' vs' → RdL h mu (ds ++ ds') (vs ++ vs')
  | [], _, _, _, x, y => by rw [rdl_nil.mp x]; exact y
  | d :: ds, _, _, _, x, y => by
    obtain ⟨v, vs', e, hd, hl⟩ := rdl_cons.mp x
    subst e; exact rdl_cons' hd (RdL.append hl y)
theorem RdL.one {d : D} {v : Value} (x : Rd h mu d v) : RdL h mu [d] [v] := rdl_cons' x rdl_nil'
theorem RdL.snoc {ds : List D} {d : D} {vs : List Value} {v : Value} (x : RdL h mu ds vs) (y : Rd h mu d v) : RdL h mu (ds ++ [d]) (vs ++ [v]) := x.append (RdL.one y)
theorem RdL.ints : ∀ {ns : List Int} {vs : List Value}, RdL h mu (ns.map D.int) vs → IntsAre vs ns
  | [], _, x => by rw [rdl_nil.mp x]; exact .nil
  | n :: ns, _, x => by
    obtain ⟨v, vs', e, hd, hl⟩ := rdl_cons.mp x
    obtain ⟨t, ht⟩ := rd_int.mp hd
    subst e; subst ht; exact .cons _ _ (RdL.ints hl)
theorem RdL.ofInts : ∀ {ns : List Int} {vs : List Value}, IntsAre vs ns → RdL h mu (ns.map D.int) vs
  | _, _, .nil => rdl_nil'
  | _, _, .cons _ _ x => rdl_cons' (rd_int.mpr ⟨_, rfl⟩) (RdL.ofInts x)
end

theorem Rd.keeps {h h' : Heap} {mu : Addr → Prop} {d : D} {v : Value} (x : Rd h mu d v) (k : ∀ b o, h.get? b = some o → h'.get? b = some o) : Rd h' mu d v :=
  Rd.move (fun b o hm e _ => ⟨k b o e, hm⟩) d v x
theorem RdL.keeps {h h' : Heap} {mu : Addr → Prop} {ds : List D} {vs : List Value} (x : RdL h mu ds vs) (k : ∀ b o, h.get? b = some o → h'.get? b = some o) : RdL h' mu ds vs :=
  RdL.move (fun b o hm e _ => ⟨k b o e, hm⟩) ds vs x

theorem kp_refl (s : Shared) : Keeps s s := ⟨s.heap, s.toks, rfl, fun _ _ e => e⟩
theorem kp_heap {s s' : Shared} (k : Keeps s s') : ∀ b o, s.heap.get? b = some o → s'.heap.get? b = some o := by
  obtain ⟨h', tk, e, k⟩ := k
  subst e; exact k
theorem kp_trans {s s' s'' : Shared} (k : Keeps s s') (k' : Keeps s' s'') : Keeps s s'' := by
  obtain ⟨h', tk, e, k⟩ := k
  obtain ⟨h'', tk', e', k'⟩ := k'
  subst e; subst e'
  exact ⟨h'', tk', rfl, fun b o e => k' b o (k b o e)⟩
theorem kp_tok (s : Shared) (t : Nat) : Keeps s { s with toks := t } := ⟨s.heap, t, rfl, fun _ _ e => e⟩
theorem kp_mk {s : Shared} {h' : Heap} {t : Nat} (k : ∀ b o, s.heap.get? b = some o → h'.get? b = some o) : Keeps s { s with heap := h', toks := t } := ⟨h', t, rfl, k⟩
theorem kp_push (s : Shared) (o : Obj) : Keeps s { s with heap := s.heap.push o } := ⟨_, s.toks, rfl, fun _ _ e => Heap.get?_push_of_some _ e⟩
theorem kp_pushT (s : Shared) (o : Obj) (t : Nat) : Keeps s { s with heap := s.heap.push o, toks := t } := ⟨_, t, rfl, fun _ _ e => Heap.get?_push_of_some _ e⟩

/-- what the base heap holds stands (tables of code objects may grow) -/
def Up (h₀ h : Heap) : Prop := ∀ b o, h₀.get? b = some o → (o.cls ≠ .none ∨ b = cStatics ∨ b = builtinsNs) → h.get? b = some o
theorem Up.keeps {h₀ h h' : Heap} (u : Up h₀ h) (k : ∀ b o, h.get? b = some o → h'.get? b = some o) : Up h₀ h' := fun b o e c => k b o (u b o e c)

/-- a name's value -/
def RdN (env : Env) (h : Heap) (x : Str) (v : Value) : Prop :=
  (env.kindOf x = some .local ∧ ∃ m, h.Ns env.locals m ∧ m x = some v) ∨
  (env.kindOf x = some .cell ∧ ∃ c, env.cells.lookup x = some c ∧ h.IsCell c (some v))
theorem RdN.keeps {env : Env} {h h' : Heap} {x : Str} {v : Value} (r : RdN env h x v) (k : ∀ b o, h.get? b = some o → h'.get? b = some o) : RdN env h' x v := by
  rcases r with ⟨a, m, hn, hm⟩ | ⟨a, c, hc, ho⟩
  · exact .inl ⟨a, m, hn.keeps k, hm⟩
  · exact .inr ⟨a, c, hc, ho.keeps k⟩

/-- what a name is bound to: plain data that stands; a list or a dict of the name's own -/
inductive B where
  | im (d : D)
  | ol (ds : List D)
  | od (n : Nat) (g : Int → Option D)

section
def Bd (_prog : Program) (_w : World) (h : Heap) (mu : Addr → Prop) : B → Value → Prop
  | .im d, v => Rd h mu d v
  | .ol ds, v => ∃ a vs, v = .ref a ∧ mu a ∧ h.PlainList a (List.toArray vs) ∧ RdL h mu ds vs
  | .od n g, v => ∃ a f, v = .ref a ∧ mu a ∧ h.IntMap a f ∧ h.DictLe a n ∧ ∀ k, (g k = none → f k = none) ∧ ∀ d, g k = some d → ∃ u, f k = some u ∧ Rd h mu d u
end
theorem Bd.keeps {prog : Program} {w : World} {h h' : Heap} {mu : Addr → Prop} {b : B} {v : Value} (x : Bd prog w h mu b v) (k : ∀ b o, h.get? b = some o → h'.get? b = some o) : Bd prog w h' mu b v := by
  cases b with
  | im d => exact Rd.keeps x k
  | ol ds => obtain ⟨a, vs, e, hm, hl, hr⟩ := x; exact ⟨a, vs, e, hm, hl.at fun o e => k _ o e, hr.keeps k⟩
  | od n g =>
    obtain ⟨a, f, e, hm, ⟨o, es, ep, ho, r⟩, hz, hg⟩ := x
    exact ⟨a, f, e, hm, ⟨o, es, ep, k _ _ ho, r⟩, hz.of_same ho (k _ _ ho), fun q => ⟨(hg q).1, fun d hd => let ⟨u, hu, hr⟩ := (hg q).2 d hd; ⟨u, hu, hr.keeps k⟩⟩⟩

section
variable {V : Type} (nm : V → Str) (prog : Program) (w : World)
def Vw (env : Env) (mu : Addr → Prop) (σ : V → Option B) (h : Heap) : Prop :=
  ∀ x b, σ x = some b → ∃ v, RdN env h (nm x) v ∧ Bd prog w h mu b v
end
theorem Vw.keeps {V : Type} {nm : V → Str} {prog : Program} {w : World} {env : Env} {mu : Addr → Prop} {σ : V → Option B} {h h' : Heap} (x : Vw nm prog w env mu σ h) (k : ∀ b o, h.get? b = some o → h'.get? b = some o) :
    Vw nm prog w env mu σ h' := fun y b e => let ⟨v, r, d⟩ := x y b e; ⟨v, r.keeps k, d.keeps k⟩

/-- room for n calls below -/
structure Ok (n : Nat) (A : Around) : Prop where
  handled : A.handled = none
  depth : A.depth + n < recursionLimit
  units : A.units + 10 * n + 10 < cLine

/-- the state an expression is evaluated in -/
structure Stt {V : Type} (nm : V → Str) (prog : Program) (w : World) (h₀ : Heap) (env : Env) (σ : V → Option B) (mu : Addr → Prop) (s : Shared) : Prop where
  up : Up h₀ s.heap
  lt : ∀ a, mu a → ∃ o, s.heap.get? a = some o
  vw : Vw nm prog w env mu σ s.heap
  old : OldK h₀ s.heap
  cells : ∀ c ∈ env.cells, mu c.2 ∧ ∃ v, s.heap.IsCell c.2 v
  bare : AllBare s.gens
theorem Stt.keeps {V : Type} {nm : V → Str} {prog : Program} {w : World} {h₀ : Heap} {env : Env} {σ : V → Option B} {mu : Addr → Prop} {s s' : Shared} (x : Stt nm prog w h₀ env σ mu s) (k : Keeps s s') : Stt nm prog w h₀ env σ mu s' :=
  ⟨x.up.keeps (kp_heap k), fun a h => let ⟨o, e⟩ := x.lt a h; ⟨o, kp_heap k a o e⟩, x.vw.keeps (kp_heap k), x.old.step_keeps (kp_heap k), fun c hc => ⟨(x.cells c hc).1, let ⟨v, e⟩ := (x.cells c hc).2; ⟨v, e.keeps (kp_heap k)⟩⟩,
    by obtain ⟨h', tk, e, _⟩ := k; subst e; exact x.bare⟩
end Mine

-- M2
namespace Mine
open PySem PySem.Calls PyProof.Rows PySem.W

section
variable {V : Type} (nm : V → Str) (prog : Program) (w : World) (h₀ : Heap) (A : Around) (env : Env) (σ : V → Option B)
structure EvP (e : Expr) (P : Heap → (Addr → Prop) → Value → Prop) : Prop where
  run : ∀ s mu, Stt nm prog w h₀ env σ mu s → wpAny (model prog w) A (eval e env) (fun v s' => Keeps s s' ∧ P s'.heap mu v) (fun _ _ => False) s
abbrev Ev (e : Expr) (d : D) : Prop := EvP nm prog w h₀ A env σ e fun h mu v => Rd h mu d v
/-- a list, the reader's or a name's own -/
abbrev EvL (e : Expr) (ds : List D) : Prop := EvP nm prog w h₀ A env σ e fun h mu v => ∃ a vs, v = .ref a ∧ h.IsList a (List.toArray vs) ∧ RdL h mu ds vs
structure Tst (e : Expr) (b : Bool) : Prop where
  run : ∀ s mu, Stt nm prog w h₀ env σ mu s → wpAny (model prog w) A (isTrue e env (eval e env)) (fun r s' => Keeps s s' ∧ r = b) (fun _ _ => False) s
end
/-- an operation upon two ints -/
structure OpI (prog : Program) (w : World) (A : Around) (op : Operator) (x y z : Int) : Prop where
  run : ∀ s t u, wpAny (model prog w) A (binaryOp op (.int x t) (.int y u)) (fun r s' => Keeps s s' ∧ ∃ k, r = .int z k) (fun _ _ => False) s
structure CmpI (prog : Program) (w : World) (A : Around) (op : CmpOp) (x y : D) (b : Bool) : Prop where
  run : ∀ s mu u v, Rd s.heap mu x u → Rd s.heap mu y v → wpAny (model prog w) A (compareOp op u v) (fun r s' => Keeps s s' ∧ r = .bool b) (fun _ _ => False) s

section
variable {V : Type} {nm : V → Str} {prog : Program} {w : World} {h₀ : Heap} {A : Around} {env : Env} {σ : V → Option B}

theorem ev_mono {α : Type} {t : Sem α} {s : Shared} {Q Q' : α → Shared → Prop} {E : Value → Shared → Prop} (h : wpAny (model prog w) A t Q (fun _ _ => False) s) (hq : ∀ a s', Q a s' → Q' a s') : wpAny (model prog w) A t Q' E s := by
  with_reducible exact wpAny_mono h hq fun _ _ f => f.elim

theorem ev_int {i : Int} {k : Nat} {pos : Pos} : Ev nm prog w h₀ A env σ (.Constant (.int i) k pos) (.int i) := ⟨fun s _ _ => by
  with_reducible exact wpAny_Constant_int ⟨kp_tok s _, rd_int.mpr ⟨_, rfl⟩⟩⟩
theorem ev_str {x : Str} {k : Nat} {pos : Pos} : Ev nm prog w h₀ A env σ (.Constant (.str x) k pos) (.str x) := ⟨fun s _ _ => by
  with_reducible exact Constant_str ⟨kp_tok s _, rd_str.mpr ⟨_, rfl⟩⟩⟩

theorem wp_name {s : Shared} {x : Str} {v : Value} {pos : Pos} {Q : Value → Shared → Prop} {E : Value → Shared → Prop} (hk : env.scope.kind = .function) (r : RdN env s.heap x v) (h : Q v s) (hd : (x == ("__debug__" : Str)) = false) :
    wpAny (model prog w) A (eval (.Name x pos) env) Q E s := by
  rcases r with ⟨a, m, hn, hm⟩ | ⟨a, c, hc, ho⟩
  · with_reducible exact wpAny_Name (wpAny_loadName_local hk a hn hm h) hd
  · with_reducible exact wpAny_Name (wpAny_loadName_cell hk a hc ho h) hd

theorem ev_nameB (hk : env.scope.kind = .function) (x : V) {b : B} {pos : Pos} (hx : σ x = some b) (hd : (nm x == ("__debug__" : Str)) = false := by decide) :
    EvP nm prog w h₀ A env σ (.Name (nm x) pos) fun h mu v => Bd prog w h mu b v := ⟨fun s mu S => by
  obtain ⟨v, r, y⟩ := S.vw x b hx
  with_reducible exact wp_name hk r ⟨kp_refl s, y⟩ hd⟩
theorem ev_name (hk : env.scope.kind = .function) (x : V) {d : D} {pos : Pos} (hx : σ x = some (.im d)) (hd : (nm x == ("__debug__" : Str)) = false := by decide) :
    Ev nm prog w h₀ A env σ (.Name (nm x) pos) d := ev_nameB hk x hx hd
theorem EvP.imp {e : Expr} {P P' : Heap → (Addr → Prop) → Value → Prop} (h : EvP nm prog w h₀ A env σ e P) (hp : ∀ g mu v, P g mu v → P' g mu v) : EvP nm prog w h₀ A env σ e P' := ⟨fun s mu S => by
  with_reducible exact ev_mono (h.run s mu S) fun _ _ q => ⟨q.1, hp _ _ _ q.2⟩⟩
theorem evl_of {e : Expr} {ds : List D} (h : Ev nm prog w h₀ A env σ e (.list ds)) : EvL nm prog w h₀ A env σ e ds := EvP.imp h fun _ _ _ r => let ⟨a, vs, e, _, hl, hr⟩ := rd_list.mp r; ⟨a, vs, e, hl, hr⟩
theorem evl_name (hk : env.scope.kind = .function) (x : V) {ds : List D} {pos : Pos} (hx : σ x = some (.ol ds)) (hd : (nm x == ("__debug__" : Str)) = false := by decide) :
    EvL nm prog w h₀ A env σ (.Name (nm x) pos) ds := EvP.imp (ev_nameB hk x hx hd) fun _ _ _ ⟨a, vs, e, _, hl, hr⟩ => ⟨a, vs, e, hl.isList, hr⟩

/-- first a, then what follows, in the state that a leaves -/
theorem ev_then {e : Expr} {P : Heap → (Addr → Prop) → Value → Prop} {s : Shared} {mu : Addr → Prop} {Q : Value → Shared → Prop} {E : Value → Shared → Prop} (h : EvP nm prog w h₀ A env σ e P) (S : Stt nm prog w h₀ env σ mu s)
    (hq : ∀ v s', Keeps s s' → Stt nm prog w h₀ env σ mu s' → P s'.heap mu v → Q v s') : wpAny (model prog w) A (eval e env) Q E s := by
  with_reducible exact ev_mono (h.run s mu S) fun v s' q => hq v s' q.1 (S.keeps q.1) q.2
theorem tst_then {e : Expr} {b : Bool} {s : Shared} {mu : Addr → Prop} {Q : Bool → Shared → Prop} {E : Value → Shared → Prop} (h : Tst nm prog w h₀ A env σ e b) (S : Stt nm prog w h₀ env σ mu s)
    (hq : ∀ s', Keeps s s' → Stt nm prog w h₀ env σ mu s' → Q b s') : wpAny (model prog w) A (isTrue e env (eval e env)) Q E s := by
  with_reducible exact ev_mono (h.run s mu S) fun v s' q => by rw [q.2]; exact hq s' q.1 (S.keeps q.1)

theorem ev_bin {op : Operator} {a b : Expr} {pos : Pos} {x y : D} {P : Heap → (Addr → Prop) → Value → Prop} (ha : Ev nm prog w h₀ A env σ a x) (hb : Ev nm prog w h₀ A env σ b y)
    (hop : ∀ s mu u v, Stt nm prog w h₀ env σ mu s → Rd s.heap mu x u → Rd s.heap mu y v → wpAny (model prog w) A (binaryOp op u v) (fun r s' => Keeps s s' ∧ P s'.heap mu r) (fun _ _ => False) s) : EvP nm prog w h₀ A env σ (.BinOp a op b pos) P := ⟨fun s mu S => by
  with_reducible refine wpAny_BinOp (ev_then ha S fun u s₁ k₁ S₁ r₁ => ev_then hb S₁ fun v s₂ k₂ S₂ r₂ => ev_mono (hop s₂ mu u v S₂ (r₁.keeps (kp_heap k₂)) r₂) ?_)
  intro r s₃ q
  exact ⟨kp_trans k₁ (kp_trans k₂ q.1), q.2⟩⟩

theorem ev_opi {op : Operator} {a b : Expr} {pos : Pos} {x y z : Int} (ha : Ev nm prog w h₀ A env σ a (.int x)) (hb : Ev nm prog w h₀ A env σ b (.int y)) (hop : OpI prog w A op x y z) : Ev nm prog w h₀ A env σ (.BinOp a op b pos) (.int z) :=
  ev_bin ha hb fun s mu u v _ e e' => by
    obtain ⟨t, e⟩ := rd_int.mp e
    obtain ⟨t', e'⟩ := rd_int.mp e'
    subst e; subst e'
    with_reducible refine ev_mono (hop.run s t t') ?_
    intro a s' q
    exact ⟨q.1, rd_int.mpr q.2⟩
theorem op_add {x y : Int} : OpI prog w A .Add x y (x + y) := ⟨fun s _ _ => by with_reducible exact P.add_int ⟨kp_tok s _, _, rfl⟩⟩
theorem op_sub {x y : Int} : OpI prog w A .Sub x y (x - y) := ⟨fun s _ _ => by with_reducible exact P.sub_int ⟨kp_tok s _, _, rfl⟩⟩
theorem op_mul {x y : Int} (hm : IntMulOk x y) : OpI prog w A .Mult x y (x * y) := ⟨fun s _ _ => by with_reducible exact P.mul_int ⟨kp_tok s _, _, rfl⟩ hm⟩
theorem op_mod {x y : Int} (hA : A.handled = none) (hy : y ≠ 0) : OpI prog w A .Mod x y (x.fmod y) := ⟨fun s _ _ => by
  with_reducible exact mod_int_or hA (fun h => absurd h hy) fun _ => ⟨kp_tok s _, _, rfl⟩⟩
theorem op_fdiv {x y : Int} (hA : A.handled = none) (hy : y ≠ 0) (hs : y.natAbs < 2 ^ 30) : OpI prog w A .FloorDiv x y (x.fdiv y) := ⟨fun s _ _ => by
  with_reducible exact floordiv_int_or hA (fun h => absurd h hy) (fun _ => ⟨kp_tok s _, _, rfl⟩) fun _ => Or.inl (PyProof.noPylong_small (by omega))⟩
theorem op_pow {x : Int} {n : Nat} (hsz : (Builtin.Int.intBits x : Int) * n ≤ 2 ^ 27) : OpI prog w A .Pow x (n : Int) (x ^ n) := ⟨fun s _ _ => by
  with_reducible refine pow_int (Int.natCast_nonneg n) hsz ⟨kp_tok s (s.toks + 1), s.toks, ?_⟩
  rw [Int.toNat_natCast]⟩
theorem op_shl {n : Nat} (hn : n ≤ 1000000) : OpI prog w A .LShift 1 (n : Int) (2 ^ n) := ⟨fun s _ _ => by
  with_reducible refine lshift_int_small (Int.natCast_nonneg n) (by omega) (by decide) ⟨kp_tok s (s.toks + 1), s.toks, ?_⟩
  rw [Int.toNat_natCast, Int.one_mul]⟩
theorem op_and {x y : Int} : OpI prog w A .BitAnd x y (Builtin.bitAnd x y) := ⟨fun s _ _ => by with_reducible exact and_int ⟨kp_tok s _, _, rfl⟩⟩

theorem ev_neg {a : Expr} {pos : Pos} {x : Int} (ha : Ev nm prog w h₀ A env σ a (.int x)) : Ev nm prog w h₀ A env σ (.UnaryOp .USub a pos) (.int (-x)) := ⟨fun s mu S => by
  with_reducible refine wpAny_UnaryOp (ev_then ha S fun v s' k _ r => ?_)
  obtain ⟨t, e⟩ := rd_int.mp r
  subst e
  with_reducible exact P.neg_int ⟨kp_trans k (kp_tok s' _), rd_int.mpr ⟨_, rfl⟩⟩⟩

-- comparisons
theorem cmp_lt {x y : Int} : CmpI prog w A .Lt (.int x) (.int y) (decide (x < y)) := ⟨fun s mu u v e e' => by
  obtain ⟨t, e⟩ := rd_int.mp e; obtain ⟨t', e'⟩ := rd_int.mp e'; subst e; subst e'
  with_reducible exact P.lt_int ⟨kp_refl s, rfl⟩⟩
theorem cmp_le {x y : Int} : CmpI prog w A .LtE (.int x) (.int y) (decide (x ≤ y)) := ⟨fun s mu u v e e' => by
  obtain ⟨t, e⟩ := rd_int.mp e; obtain ⟨t', e'⟩ := rd_int.mp e'; subst e; subst e'
  with_reducible exact P.le_int ⟨kp_refl s, rfl⟩⟩
theorem cmp_ge {x y : Int} : CmpI prog w A .GtE (.int x) (.int y) (decide (x ≥ y)) := ⟨fun s mu u v e e' => by
  obtain ⟨t, e⟩ := rd_int.mp e; obtain ⟨t', e'⟩ := rd_int.mp e'; subst e; subst e'
  with_reducible exact P.ge_int ⟨kp_refl s, rfl⟩⟩
theorem cmp_eq {x y : Int} : CmpI prog w A .Eq (.int x) (.int y) (x == y) := ⟨fun s mu u v e e' => by
  obtain ⟨t, e⟩ := rd_int.mp e; obtain ⟨t', e'⟩ := rd_int.mp e'; subst e; subst e'
  with_reducible exact P.eq_int ⟨kp_refl s, rfl⟩⟩
theorem cmp_ne {x y : Int} : CmpI prog w A .NotEq (.int x) (.int y) (x != y) := ⟨fun s mu u v e e' => by
  obtain ⟨t, e⟩ := rd_int.mp e; obtain ⟨t', e'⟩ := rd_int.mp e'; subst e; subst e'
  with_reducible exact P.ne_int ⟨kp_refl s, rfl⟩⟩

theorem ev_cmp {op : CmpOp} {a b : Expr} {pos : Pos} {x y : D} {r : Bool} (ha : Ev nm prog w h₀ A env σ a x) (hb : Ev nm prog w h₀ A env σ b y) (hop : CmpI prog w A op x y r) (hm : behindInMarks op b = false) : Ev nm prog w h₀ A env σ (.Compare a [op] [b] pos) (.bool r) := ⟨fun s mu S => by
  with_reducible refine wpAny_Compare1 (ev_then ha S fun u s₁ k₁ S₁ r₁ => ev_then hb S₁ fun v s₂ k₂ S₂ r₂ => ev_mono (hop.run s₂ mu u v (r₁.keeps (kp_heap k₂)) r₂) ?_) hm
  intro c s₃ q
  exact ⟨kp_trans k₁ (kp_trans k₂ q.1), rd_bool.mpr q.2⟩⟩
theorem tst_cmp {op : CmpOp} {a b : Expr} {pos : Pos} {x y : D} {r : Bool} (ha : Ev nm prog w h₀ A env σ a x) (hb : Ev nm prog w h₀ A env σ b y) (hop : CmpI prog w A op x y r) (hm : behindInMarks op b = false) : Tst nm prog w h₀ A env σ (.Compare a [op] [b] pos) r := ⟨fun s mu S => by
  with_reducible refine wpAny_isTrue_Compare1 (ev_then ha S fun u s₁ k₁ S₁ r₁ => ev_then hb S₁ fun v s₂ k₂ S₂ r₂ => ev_mono (hop.run s₂ mu u v (r₁.keeps (kp_heap k₂)) r₂) ?_) hm
  intro c s₃ q
  rw [q.2]
  with_reducible exact wpAny_truthy_bool ⟨kp_trans k₁ (kp_trans k₂ q.1), rfl⟩⟩
end
end Mine

-- M3
namespace Mine
open PySem PySem.Calls PyProof.Rows PySem.W

/-- the globals and the built-ins of the base -/
structure Glo (h₀ : Heap) (mg mb : Str → Option Value) : Prop where
  g : h₀.Ns mainGlobals mg
  gc : ∀ o, h₀.get? mainGlobals = some o → o.cls ≠ .none
  b : h₀.Ns builtinsNs mb
  lim : h₀.NoLimit
structure EnvG (env : Env) : Prop where
  kind : env.scope.kind = .function
  globals : env.globals = mainGlobals
  builtins : env.builtins = builtinsNs

theorem Up.ns {h₀ h : Heap} {a : Addr} {m : Str → Option Value} (u : Up h₀ h) (n : h₀.Ns a m) (c : ∀ o, h₀.get? a = some o → o.cls ≠ .none) : h.Ns a m :=
  let ⟨o, es, ep, e, r⟩ := n; ⟨o, es, ep, u a o e (.inl (c o e)), r⟩
theorem Up.lim {h₀ h : Heap} (u : Up h₀ h) (n : h₀.NoLimit) : h.NoLimit :=
  let ⟨mc, ⟨o, es, ep, e, r⟩, hn⟩ := n; ⟨mc, ⟨o, es, ep, u _ o e (.inr (.inl rfl)), r⟩, hn⟩
theorem Up.nsB {h₀ h : Heap} {m : Str → Option Value} (u : Up h₀ h) (n : h₀.Ns builtinsNs m) : h.Ns builtinsNs m :=
  let ⟨o, es, ep, e, r⟩ := n; ⟨o, es, ep, u _ o e (.inr (.inr rfl)), r⟩

section
variable {V : Type} (nm : V → Str) (prog : Program) (w : World) (h₀ : Heap) (A : Around) (env : Env) (σ : V → Option B)
/-- a row of arguments or of a display's items -/
structure EvS (es : List Expr) (ds : List D) : Prop where
  run : ∀ pos s mu, Stt nm prog w h₀ env σ mu s → wpAny (model prog w) A (spliced (backTo pos (starEach es env))) (fun vs s' => Keeps s s' ∧ RdL s'.heap mu ds vs) (fun _ _ => False) s
end

section
variable {V : Type} {nm : V → Str} {prog : Program} {w : World} {h₀ : Heap} {A : Around} {env : Env} {σ : V → Option B} {mg mb : Str → Option Value}

theorem wp_gname {s : Shared} {x : Str} {v : Value} {pos : Pos} {Q : Value → Shared → Prop} {E : Value → Shared → Prop} (G : Glo h₀ mg mb) (K : EnvG env) (u : Up h₀ s.heap) (hx : env.kindOf x = some .globalImplicit) (hv : mg x = some v) (h : Q v s)
    (hd : (x == ("__debug__" : Str)) = false := by decide) : wpAny (model prog w) A (eval (.Name x pos) env) Q E s := by
  with_reducible exact Name_function_global K.kind hx (loadGlobal_global (by rw [K.globals]; exact u.ns G.g G.gc) hv h) hd
theorem wp_bname {s : Shared} {x : Str} {v : Value} {pos : Pos} {Q : Value → Shared → Prop} {E : Value → Shared → Prop} (G : Glo h₀ mg mb) (K : EnvG env) (u : Up h₀ s.heap) (hx : env.kindOf x = some .globalImplicit) (hg : mg x = none) (hv : mb x = some v) (h : Q v s)
    (hd : (x == ("__debug__" : Str)) = false := by decide) : wpAny (model prog w) A (eval (.Name x pos) env) Q E s := by
  with_reducible exact Name_function_global K.kind hx (loadGlobal_builtin (by rw [K.globals]; exact u.ns G.g G.gc) hg (by rw [K.builtins]; exact u.nsB G.b) hv h) hd

theorem evs_nil : EvS nm prog w h₀ A env σ [] [] := ⟨fun pos s mu S => by
  show wpAny _ _ (spliced []) _ _ _
  with_reducible exact spliced_nil ⟨kp_refl s, rdl_nil'⟩⟩
theorem evs_cons {e : Expr} {es : List Expr} {d : D} {ds : List D} (h : Ev nm prog w h₀ A env σ e d) (hs : EvS nm prog w h₀ A env σ es ds) (he : starEach (e :: es) env = (false, eval e env) :: starEach es env := by rfl) : EvS nm prog w h₀ A env σ (e :: es) (d :: ds) := ⟨fun pos s mu S => by
  rw [he]
  show wpAny _ _ (spliced ((false, eval e env) :: backTo pos (starEach es env))) _ _ _
  with_reducible refine spliced_cons (ev_then h S fun v s₁ k₁ S₁ r₁ => ev_mono (hs.run pos s₁ mu S₁) ?_)
  intro vs s₂ q
  exact ⟨kp_trans k₁ q.1, rdl_cons' (r₁.keeps (kp_heap q.1)) q.2⟩⟩

theorem fresh_mu {s : Shared} {mu : Addr → Prop} (hlt : ∀ a, mu a → ∃ o, s.heap.get? a = some o) : ¬ mu s.heap.objs.size := fun h => by
  obtain ⟨o, e⟩ := hlt _ h
  exact Nat.lt_irrefl _ (Heap.lt_size e)
theorem rd_newlist {s : Shared} {mu : Addr → Prop} {ds : List D} {vs : List Value} (hlt : ∀ a, mu a → ∃ o, s.heap.get? a = some o) (hr : RdL s.heap mu ds vs) :
    Rd (s.heap.push { cls := .type "list", data := .seq (List.toArray vs) }) mu (.list ds) (.ref s.heap.objs.size) :=
  rd_list.mpr ⟨_, vs, rfl, fresh_mu hlt, ⟨_, Heap.get?_push_size _ rfl, rfl, 0, rfl⟩, hr.keeps fun _ _ e => Heap.get?_push_of_some _ e⟩
theorem rd_newtup {s : Shared} {mu : Addr → Prop} {ds : List D} {vs : List Value} (hlt : ∀ a, mu a → ∃ o, s.heap.get? a = some o) (hr : RdL s.heap mu ds vs) :
    Rd (s.heap.push { cls := .type "tuple", data := .seq (List.toArray vs) }) mu (.tup ds) (.ref s.heap.objs.size) :=
  rd_tup.mpr ⟨_, vs, rfl, fresh_mu hlt, ⟨_, Heap.get?_push_size _ rfl, rfl, 0, rfl⟩, hr.keeps fun _ _ e => Heap.get?_push_of_some _ e⟩

theorem ev_list {es : List Expr} {ds : List D} {pos : Pos} (h : EvS nm prog w h₀ A env σ es ds) (hn : ds.length ≤ 1000) : Ev nm prog w h₀ A env σ (.List es pos) (.list ds) := ⟨fun s mu S => by
  with_reducible refine wpAny_List (ev_mono (h.run pos s mu S) ?_)
  intro vs s' q
  refine ⟨by rw [q.2.length, sizeLine_eq]; omega, kp_trans q.1 (kp_push s' _), rd_newlist (S.keeps q.1).lt q.2⟩⟩
theorem ev_tup {es : List Expr} {ds : List D} {k : Nat} {pos : Pos} (h : EvS nm prog w h₀ A env σ es ds) (hn : ds.length ≤ 1000) : Ev nm prog w h₀ A env σ (.Tuple es k pos) (.tup ds) := ⟨fun s mu S => by
  with_reducible refine wpAny_Tuple (ev_mono (h.run pos s mu S) ?_)
  intro vs s' q
  refine ⟨by rw [q.2.length, sizeLine_eq]; omega, kp_trans q.1 (kp_push s' _), rd_newtup (S.keeps q.1).lt q.2⟩⟩

theorem rd_get {h : Heap} {mu : Addr → Prop} {ds : List D} {vs : List Value} {k : Nat} {d : D} (hr : RdL h mu ds vs) (hd : ds[k]? = some d) : ∃ v, (List.toArray vs)[k]? = some v ∧ Rd h mu d v := by
  obtain ⟨v, e, r⟩ := hr.get hd
  exact ⟨v, by simpa using e, r⟩

/-- an item of a list at a place that lies in it -/
theorem ev_item {e i : Expr} {pos : Pos} {ds : List D} {k : Int} {d : D} (h : EvL nm prog w h₀ A env σ e ds) (hi : Ev nm prog w h₀ A env σ i (.int k)) (h0 : 0 ≤ k) (hk : k < 2 ^ 63) (hd : ds[k.toNat]? = some d)
    (hs : ∀ a u, subscripted i false (.ref a) (.int k u) = operate [.ref a, .int k u] (getItem (.ref a) (.int k u)) := by intro _ _; rfl) : Ev nm prog w h₀ A env σ (.Subscript e i pos) d := ⟨fun s mu S => by
  with_reducible refine Subscript_ (ev_then h S fun v s₁ k₁ S₁ r₁ => ev_then hi S₁ fun u s₂ k₂ S₂ r₂ => ?_)
  obtain ⟨a, vs, ea, hl, hr⟩ := r₁
  obtain ⟨t, et⟩ := rd_int.mp r₂
  subst ea; subst et
  obtain ⟨x, hx, rx⟩ := rd_get (hr.keeps (kp_heap k₂)) hd
  have hl₂ : s₂.heap.IsList a (List.toArray vs) := hl.at fun o e => kp_heap k₂ a o e
  with_reducible exact tail_any hl₂.typeIs slot_list_getitem.lookup (wpAny_getItem_list hl₂ h0 hk hx ⟨kp_trans k₁ k₂, rx⟩) (hs a t)⟩
theorem ev_titem {e i : Expr} {pos : Pos} {ds : List D} {k : Int} {d : D} (h : Ev nm prog w h₀ A env σ e (.tup ds)) (hi : Ev nm prog w h₀ A env σ i (.int k)) (h0 : 0 ≤ k) (hk : k < 2 ^ 63) (hd : ds[k.toNat]? = some d)
    (hs : ∀ a u, subscripted i false (.ref a) (.int k u) = operate [.ref a, .int k u] (getItem (.ref a) (.int k u)) := by intro _ _; rfl) : Ev nm prog w h₀ A env σ (.Subscript e i pos) d := ⟨fun s mu S => by
  with_reducible refine Subscript_ (ev_then h S fun v s₁ k₁ S₁ r₁ => ev_then hi S₁ fun u s₂ k₂ S₂ r₂ => ?_)
  obtain ⟨a, vs, ea, _, hl, hr⟩ := rd_tup.mp r₁
  obtain ⟨t, et⟩ := rd_int.mp r₂
  subst ea; subst et
  have hr' := hr.keeps (kp_heap k₂)
  obtain ⟨x, hx, rx⟩ := hr'.get hd
  have hl₂ : IsTup s₂.heap a (List.toArray vs) := hl.keeps (kp_heap k₂)
  have hlen : k.toNat < vs.length := (List.getElem?_eq_some_iff.mp hx).1
  with_reducible refine item_tupleT (j := k.toNat) hl₂ (by omega) hk ?_ hx ⟨kp_trans k₁ k₂, rx⟩ (hs a t)
  unfold seqIndex?
  simp only [show ¬ k < 0 from by omega, if_false]
  first | rfl | (simp; omega) | (rw [if_pos]; omega)⟩

theorem intsOf {vs : List Value} {ns : List Int} (hi : IntsAre vs ns) : AllInts (List.toArray vs) ∧ numsOf (List.toArray vs).toList = ns := ⟨hi.allInts, by rw [show (List.toArray vs).toList = vs from rfl, hi.numsOf]⟩
theorem wp_sum {s : Shared} {a : Addr} {vs : List Value} {ns : List Int} {Q : Value → Shared → Prop} {E : Value → Shared → Prop} (hA : A.handled = none) (hl : s.heap.IsList a (List.toArray vs)) (hi : IntsAre vs ns)
    (h : ∀ s' t, Keeps s s' → Q (.int ns.sum t) s') : wpAny (model prog w) A (call (.builtin "sum") [.ref a]) Q E s := by
  obtain ⟨ha, hn⟩ := intsOf hi
  obtain ⟨xs, ex⟩ := ha.items
  rw [ex] at hl hn
  rw [nums_intItems] at hn
  with_reducible refine sum_intListG hA hl fun h' tk t' hk => ?_
  have := h { s with heap := h', toks := tk } t' (kp_mk hk)
  rw [← hn] at this
  rw [preSum_eq, List.take_of_length_le (by simp)]
  exact this

/-- a built-in's call upon one argument -/
theorem wp_bcall1 {s : Shared} {mu : Addr → Prop} {x : Str} {id : String} {a : Expr} {np pos : Pos} {P : Heap → (Addr → Prop) → Value → Prop} {Q : Value → Shared → Prop} {E : Value → Shared → Prop}
    (G : Glo h₀ mg mb) (K : EnvG env) (hx : env.kindOf x = some .globalImplicit) (hg : mg x = none) (hv : mb x = some (.builtin id)) (ha : EvP nm prog w h₀ A env σ a P) (S : Stt nm prog w h₀ env σ mu s)
    (he : starEach [a] env = [(false, eval a env)]) (hd : (x == ("__debug__" : Str)) = false)
    (h : ∀ v s', Keeps s s' → Stt nm prog w h₀ env σ mu s' → P s'.heap mu v → wpAny (model prog w) A (call (.builtin id) [v]) Q E s') : wpAny (model prog w) A (eval (.Call (.Name x np) [a] [] pos) env) Q E s := by
  with_reducible refine wpAny_Call_NameR (wp_bname G K S.up hx hg hv ?_ hd)
  rw [he]
  show wpAny _ _ (callWith pos (.builtin id) [] [(false, eval a env)] []) _ _ _
  with_reducible refine callWith_builtin rfl (evalArgs_plain (spliced_cons (ev_then ha S fun v s' k S' r => spliced_nil ?_)))
  exact h v s' k S' r
theorem wp_tcall1 {s : Shared} {mu : Addr → Prop} {x : Str} {id : String} {a : Expr} {np pos : Pos} {P : Heap → (Addr → Prop) → Value → Prop} {Q : Value → Shared → Prop} {E : Value → Shared → Prop}
    (G : Glo h₀ mg mb) (K : EnvG env) (hx : env.kindOf x = some .globalImplicit) (hg : mg x = none) (hv : mb x = some (.type id)) (ha : EvP nm prog w h₀ A env σ a P) (S : Stt nm prog w h₀ env σ mu s)
    (he : starEach [a] env = [(false, eval a env)]) (hd : (x == ("__debug__" : Str)) = false)
    (h : ∀ v s', Keeps s s' → Stt nm prog w h₀ env σ mu s' → P s'.heap mu v → wpAny (model prog w) A (call (.type id) [v]) Q E s') : wpAny (model prog w) A (eval (.Call (.Name x np) [a] [] pos) env) Q E s := by
  with_reducible refine wpAny_Call_NameR (wp_bname G K S.up hx hg hv ?_ hd)
  rw [he]
  show wpAny _ _ (callWith pos (.type id) [] [(false, eval a env)] []) _ _ _
  with_reducible refine PyProof.Rows.callWith_type rfl (evalArgs_plain (spliced_cons (ev_then ha S fun v s' k S' r => spliced_nil ?_)))
  exact h v s' k S' r

theorem ev_sum {a : Expr} {np pos : Pos} {ns : List Int} (G : Glo h₀ mg mb) (K : EnvG env) (hA : A.handled = none) (hx : env.kindOf "sum" = some .globalImplicit) (hg : mg "sum" = none) (hv : mb "sum" = some (.builtin "sum")) (ha : EvL nm prog w h₀ A env σ a (ns.map D.int))
    (he : starEach [a] env = [(false, eval a env)] := by rfl) : Ev nm prog w h₀ A env σ (.Call (.Name "sum" np) [a] [] pos) (.int ns.sum) := ⟨fun s mu S => by
  with_reducible refine wp_bcall1 G K hx hg hv ha S he (by decide) fun v s' k S' r => ?_
  obtain ⟨l, vs, e, hl, hr⟩ := r
  subst e
  with_reducible exact wp_sum hA hl hr.ints fun s'' t k' => ⟨kp_trans k k', rd_int.mpr ⟨_, rfl⟩⟩⟩
theorem ev_len {a : Expr} {np pos : Pos} {ds : List D} (G : Glo h₀ mg mb) (K : EnvG env) (hx : env.kindOf "len" = some .globalImplicit) (hg : mg "len" = none) (hv : mb "len" = some (.builtin "len")) (ha : EvL nm prog w h₀ A env σ a ds) (hn : ds.length < 2 ^ 63)
    (he : starEach [a] env = [(false, eval a env)] := by rfl) : Ev nm prog w h₀ A env σ (.Call (.Name "len" np) [a] [] pos) (.int ds.length) := ⟨fun s mu S => by
  with_reducible refine wp_bcall1 G K hx hg hv ha S he (by decide) fun v s' k S' r => ?_
  obtain ⟨l, vs, e, hl, hr⟩ := r
  subst e
  have hlen := hr.length
  with_reducible refine call_len_list hl (by rw [List.size_toArray, hlen]; omega) ⟨kp_trans k (kp_tok s' _), ?_⟩
  rw [List.size_toArray, hlen]
  exact rd_int.mpr ⟨_, rfl⟩⟩
theorem ev_hex {a : Expr} {np pos : Pos} {i : Int} (G : Glo h₀ mg mb) (K : EnvG env) (hx : env.kindOf "hex" = some .globalImplicit) (hg : mg "hex" = none) (hv : mb "hex" = some (.builtin "hex")) (ha : Ev nm prog w h₀ A env σ a (.int i))
    (hsz : (baseText "0x" 16 i).length ≤ sizeLine) (he : starEach [a] env = [(false, eval a env)] := by rfl) : Ev nm prog w h₀ A env σ (.Call (.Name "hex" np) [a] [] pos) (.str (baseText "0x" 16 i)) := ⟨fun s mu S => by
  with_reducible refine wp_bcall1 G K hx hg hv ha S he (by decide) fun v s' k S' r => ?_
  obtain ⟨t, e⟩ := rd_int.mp r
  subst e
  with_reducible exact P.hex_of_int ⟨kp_trans k (kp_tok s' _), rd_str.mpr ⟨_, rfl⟩⟩ hsz⟩

/-- a range's object -/
theorem ev_range {a : Expr} {np pos : Pos} {n : Int} (G : Glo h₀ mg mb) (K : EnvG env) (hx : env.kindOf "range" = some .globalImplicit) (hg : mg "range" = none) (hv : mb "range" = some (.type "range")) (ha : Ev nm prog w h₀ A env σ a (.int n))
    (he : starEach [a] env = [(false, eval a env)] := by rfl) : EvP nm prog w h₀ A env σ (.Call (.Name "range" np) [a] [] pos) fun h _ v => ∃ r t u z, v = .ref r ∧ IsRange h r 0 n 1 t u z := ⟨fun s mu S => by
  with_reducible refine wp_tcall1 G K hx hg hv ha S he (by decide) fun v s' k S' r => ?_
  obtain ⟨t, e⟩ := rd_int.mp r
  subst e
  with_reducible exact call_range_1 ⟨kp_trans k (kp_pushT s' _ _), _, _, _, _, rfl, IsRange.new ..⟩⟩

-- truth
theorem tst_int {e : Expr} {i : Int} (h : Ev nm prog w h₀ A env σ e (.int i)) (he : isTrue e env (eval e env) = (do let v ← eval e env; standAt e.pos; holding [v] (truthy v)) := by rfl) : Tst nm prog w h₀ A env σ e (i != 0) := ⟨fun s mu S => by
  with_reducible refine wpAny_isTrue_value (ev_then h S fun v s' k S' r => ?_) he
  obtain ⟨t, ev⟩ := rd_int.mp r
  subst ev
  with_reducible exact P.truthy_int ⟨k, rfl⟩⟩
theorem tst_chain2 {a b c : Expr} {o1 o2 : CmpOp} {pos : Pos} {x y z : D} {r1 r2 : Bool} (ha : Ev nm prog w h₀ A env σ a x) (hb : Ev nm prog w h₀ A env σ b y) (hc : Ev nm prog w h₀ A env σ c z) (h1 : CmpI prog w A o1 x y r1) (h2 : CmpI prog w A o2 y z r2)
    (hm : lastMarks [o1, o2] [b, c] = false) : Tst nm prog w h₀ A env σ (.Compare a [o1, o2] [b, c] pos) (r1 && r2) := ⟨fun s mu S => by
  with_reducible refine isTrue_chain (ev_then ha S fun u s₁ k₁ S₁ e₁ => ?_) hm
  show wpAny _ _ (do
    let rv ← holding [u] (eval b env)
    standAt pos
    let c ← holding [u, rv] (compareOp o1 u rv)
    release [u, rv] [c]
    if ← holding [c, rv] (truthy c) then testChain pos rv [o2] [eval _ env] else pure false) _ _ _
  with_reducible refine wpAny_bind (wpAny_holding (ev_then hb S₁ fun v s₂ k₂ S₂ e₂ => wpAny_bind (wpAny_standAt (wpAny_bind (wpAny_holding (ev_mono (h1.run s₂ mu u v (e₁.keeps (kp_heap k₂)) e₂) ?_))))))
  intro q s₃ hq
  obtain ⟨k₃, rfl⟩ := hq
  have S₃ := S₂.keeps k₃
  with_reducible refine wpAny_bind (wpAny_release (wpAny_bind (wpAny_holding (wpAny_truthy_bool ?_))))
  cases r1 with
  | false =>
    show wpAny _ _ (pure false) _ _ _
    with_reducible exact wpAny_pure (And.intro (kp_trans k₁ (kp_trans k₂ k₃)) rfl)
  | true =>
    show wpAny _ _ (do
      let rv ← holding [v] (eval c env)
      standAt pos
      let c ← operate [v, rv] (compareOp o2 v rv)
      holding [c] (truthy c)) _ _ _
    with_reducible refine wpAny_bind (wpAny_holding (ev_then hc S₃ fun u₂ s₄ k₄ S₄ e₄ => wpAny_bind (wpAny_standAt (wpAny_bind (wpAny_operate' (ev_mono (h2.run s₄ mu v u₂ ((e₂.keeps (kp_heap k₃)).keeps (kp_heap k₄)) e₄) ?_))))))
    intro q s₅ hq
    obtain ⟨k₅, rfl⟩ := hq
    with_reducible exact wpAny_holding (wpAny_truthy_bool ⟨kp_trans k₁ (kp_trans k₂ (kp_trans k₃ (kp_trans k₄ k₅))), by simp⟩)⟩
theorem ev_ifexp {t a b : Expr} {pos : Pos} {r : Bool} {P : Heap → (Addr → Prop) → Value → Prop} (ht : Tst nm prog w h₀ A env σ t r) (ha : r = true → EvP nm prog w h₀ A env σ a P) (hb : r = false → EvP nm prog w h₀ A env σ b P) : EvP nm prog w h₀ A env σ (.IfExp t a b pos) P := ⟨fun s mu S => by
  with_reducible refine wpAny_IfExp (tst_then ht S fun s₁ k₁ S₁ => ?_)
  cases r with
  | true =>
    show wpAny _ _ (eval a env) _ _ _
    with_reducible exact ev_then (ha rfl) S₁ fun v s₂ k₂ _ q => ⟨kp_trans k₁ k₂, q⟩
  | false =>
    show wpAny _ _ (eval b env) _ _ _
    with_reducible exact ev_then (hb rfl) S₁ fun v s₂ k₂ _ q => ⟨kp_trans k₁ k₂, q⟩⟩
theorem ev_or {a b : Expr} {pos : Pos} {x y : Str} (ha : Ev nm prog w h₀ A env σ a (.str x)) (hb : Ev nm prog w h₀ A env σ b (.str y)) (hx : x.length < 2 ^ 63) : Ev nm prog w h₀ A env σ (.BoolOp .Or [a, b] pos) (.str (if x.length = 0 then y else x)) := ⟨fun s mu S => by
  with_reducible refine wpAny_Or2 (ev_then ha S fun v s₁ k₁ S₁ r₁ => ?_)
  obtain ⟨t, e⟩ := rd_str.mp r₁
  subst e
  with_reducible refine P.truthy_str (by omega) ?_
  have S₂ := S₁.keeps (kp_tok s₁ (s₁.toks + 1 + 1))
  by_cases h0 : x.length = 0
  · rw [if_pos h0, h0]
    show wpAny _ _ (eval b env) _ _ _
    with_reducible exact ev_then hb S₂ fun v s₃ k₃ _ q => ⟨kp_trans k₁ (kp_trans (kp_tok s₁ _) k₃), q⟩
  · rw [if_neg h0, if_pos (by simpa using h0)]
    exact ⟨kp_trans k₁ (kp_tok s₁ _), rd_str.mpr ⟨_, rfl⟩⟩⟩
end
end Mine

-- M4
namespace Mine
open PySem PySem.Calls PyProof.Rows PySem.W

def B.isOwn : B → Bool
  | .im _ => false
  | _ => true
section
/-- the own object at a bears b -/
def OB (_prog : Program) (_w : World) (h : Heap) (mu : Addr → Prop) : B → Addr → Prop
  | .im _, _ => False
  | .ol ds, a => ∃ vs, h.PlainList a (List.toArray vs) ∧ RdL h mu ds vs
  | .od n g, a => ∃ f, h.IntMap a f ∧ h.DictLe a n ∧ ∀ k, (g k = none → f k = none) ∧ ∀ d, g k = some d → ∃ u, f k = some u ∧ Rd h mu d u
end
theorem OB.move {prog : Program} {w : World} {h h' : Heap} {mu mu' : Addr → Prop} {b : B} {a : Addr} (x : OB prog w h mu b a) (ha : ∀ o, h.get? a = some o → h'.get? a = some o)
    (k : ∀ q o, ¬ mu q → h.get? q = some o → IsData o.cls → h'.get? q = some o ∧ ¬ mu' q) : OB prog w h' mu' b a := by
  cases b with
  | im d => exact x.elim
  | ol ds => obtain ⟨vs, hl, hr⟩ := x; exact ⟨vs, hl.at ha, RdL.move k ds vs hr⟩
  | od n g =>
    obtain ⟨f, ⟨o, es, ep, ho, r⟩, hz, hg⟩ := x
    exact ⟨f, ⟨o, es, ep, ha _ ho, r⟩, hz.of_same ho (ha _ ho), fun q => ⟨(hg q).1, fun d hd => let ⟨u, hu, hr⟩ := (hg q).2 d hd; ⟨u, hu, Rd.move k d u hr⟩⟩⟩

/-- what may turn: the frame's names, the cells, the names' own lists and dicts -/
def Mu {V : Type} (env : Env) (ow : V → Option Addr) (a : Addr) : Prop := a = env.locals ∨ (∃ c ∈ env.cells, a = c.2) ∨ ∃ x, ow x = some a

structure EnvOk (h₀ : Heap) (env : Env) : Prop extends EnvG env where
  locNew : h₀.get? env.locals = none
  cellNew : ∀ c ∈ env.cells, h₀.get? c.2 = none
  cellNe : ∀ c ∈ env.cells, c.2 ≠ env.locals
  cellInj : ∀ x y c, env.cells.lookup x = some c → env.cells.lookup y = some c → x = y

section
variable {V : Type} (nm : V → Str) (prog : Program) (w : World) (h₀ : Heap) (os : OsState) (env : Env)
structure StO (ow : V → Option Addr) (σ : V → Option B) (s : Shared) : Prop where
  up : Up h₀ s.heap
  old : OldK h₀ s.heap
  im : ∀ x d, σ x = some (.im d) → ∃ v, RdN env s.heap (nm x) v ∧ Rd s.heap (Mu env ow) d v
  own : ∀ x b, σ x = some b → b.isOwn = true → ∃ a, ow x = some a ∧ RdN env s.heap (nm x) (.ref a) ∧ OB prog w s.heap (Mu env ow) b a
  inj : ∀ x y a, ow x = some a → ow y = some a → x = y
  sep : ∀ x a, ow x = some a → a ≠ env.locals ∧ (∀ c ∈ env.cells, a ≠ c.2) ∧ h₀.get? a = none ∧ ∃ o, s.heap.get? a = some o
  ns : ∃ m, s.heap.Ns env.locals m
  cells : ∀ c ∈ env.cells, ∃ v, s.heap.IsCell c.2 v
  bare : AllBare s.gens
  os : s.os = os
end

/-- what a step leaves as it was; what it makes its own is new -/
structure Step (str : Bool) (mu mu' : Addr → Prop) (s s' : Shared) : Prop where
  keep : ∀ b o, ¬ mu b → s.heap.get? b = some o → (str = true ∨ o.cls ≠ .none) → s'.heap.get? b = some o
  same : str = true → ∃ h tk, s' = { s with heap := h, toks := tk }
  there : ∀ b o, s.heap.get? b = some o → ∃ o', s'.heap.get? b = some o'
  new : ∀ b, mu' b → mu b ∨ s.heap.get? b = none
theorem Step.refl {str : Bool} (mu : Addr → Prop) (s : Shared) : Step str mu mu s s := ⟨fun _ _ _ e _ => e, fun _ => ⟨s.heap, s.toks, rfl⟩, fun _ o e => ⟨o, e⟩, fun _ h => .inl h⟩
theorem Step.trans {str : Bool} {mu mu' mu'' : Addr → Prop} {s s' s'' : Shared} (x : Step str mu mu' s s') (y : Step str mu' mu'' s' s'') : Step str mu mu'' s s'' := by
  refine ⟨fun b o h e c => ?_, fun hs => ?_, fun b o e => ?_, fun b h => ?_⟩
  · refine y.keep b o (fun h' => ?_) (x.keep b o h e c) c
    rcases x.new b h' with q | q
    · exact h q
    · rw [q] at e; cases e
  · obtain ⟨h, tk, e⟩ := x.same hs
    obtain ⟨h', tk', e'⟩ := y.same hs
    subst e; subst e'
    exact ⟨h', tk', rfl⟩
  · obtain ⟨o', e'⟩ := x.there b o e
    exact y.there b o' e'
  · rcases y.new b h with q | q
    · exact x.new b q
    · right
      cases e : s.heap.get? b with
      | none => rfl
      | some o => obtain ⟨o', e'⟩ := x.there b o e; rw [q] at e'; cases e'
theorem Step.ofKeeps {str : Bool} {mu : Addr → Prop} {s s' : Shared} (k : Keeps s s') : Step str mu mu s s' := ⟨fun b o _ e _ => kp_heap k b o e, fun _ => let ⟨h, tk, e, _⟩ := k; ⟨h, tk, e⟩, fun b o e => ⟨o, kp_heap k b o e⟩, fun _ h => .inl h⟩

inductive FD where
  | next | brk | cont
  | ret (d : D)
def FlR (h : Heap) (mu : Addr → Prop) : FD → Flow → Prop
  | .next, f => f = .next
  | .brk, f => f = .brk
  | .cont, f => f = .cont
  | .ret d, f => ∃ v, f = .ret v ∧ Rd h mu d v

theorem oldk_step {h₀ h h' : Heap} {a : Addr} (K : OldK h₀ h) (ha : h₀.get? a = none) (hs : Heap.SameBut a h h') : OldK h₀ h' := by
  have off : ∀ b o, h₀.get? b = some o → h'.get? b = h.get? b := fun b o e => hs.2 b fun e' => by rw [e', ha] at e; cases e
  constructor
  · intro b o e
    have hb := off b o e
    rcases K.old b o e with x | ⟨t, hc, vs, more, hv, x⟩ | ⟨hbc, hc, ⟨o', es, n, ho', r⟩, z⟩
    · exact .inl (hb.trans x)
    · exact .inr (.inl ⟨t, hc, vs, more, hv, hb.trans x⟩)
    · subst hbc
      refine .inr (.inr ⟨rfl, hc, ⟨o', es, n, hb.trans ho', r⟩, fun key => ?_⟩)
      rw [OldK.staticOf_congr hb key]
      exact z key
  · intro b o e
    obtain ⟨o', e'⟩ := K.there b o e
    exact ⟨o', (off b o e).trans e'⟩
theorem oldk_ext {h₀ h h' : Heap} {I : Addr} (K : OldK h₀ h) (hI : h₀.get? I = none) (hx : ∀ b o, b ≠ I → h.get? b = some o → h'.get? b = some o) : OldK h₀ h' := by
  have off : ∀ b o, h₀.get? b = some o → b ≠ I := fun b o e e' => by rw [e', hI] at e; cases e
  constructor
  · intro b o e
    have hb := off b o e
    rcases K.old b o e with x | ⟨t, hc, vs, more, hv, x⟩ | ⟨hbc, hc, ⟨o', es, n, ho', r⟩, z⟩
    · exact .inl (hx _ _ hb x)
    · exact .inr (.inl ⟨t, hc, vs, more, hv, hx _ _ hb x⟩)
    · subst hbc
      have ho'' := hx _ _ hb ho'
      refine .inr (.inr ⟨rfl, hc, ⟨o', es, n, ho'', r⟩, fun key => ?_⟩)
      rw [OldK.staticOf_congr (ho''.trans ho'.symm) key]
      exact z key
  · intro b o e
    obtain ⟨o', e'⟩ := K.there b o e
    exact ⟨o', hx _ _ (off b o e) e'⟩

theorem ns_unique {h : Heap} {a : Addr} {m m' : Str → Option Value} (x : h.Ns a m) (y : h.Ns a m') (n : Str) : m n = m' n := by
  obtain ⟨o, es, ep, e, hd, _, hm⟩ := x
  obtain ⟨o', es', ep', e', hd', _, hm'⟩ := y
  rw [e] at e'; cases e'
  rw [hd] at hd'; cases hd'
  rw [← hm, ← hm']

def upd {V : Type} [DecidableEq V] {β : Type} (σ : V → Option β) (x : V) (b : Option β) : V → Option β := fun y => if y = x then b else σ y

section
variable {V : Type} [DecidableEq V] {nm : V → Str} {prog : Program} {w : World} {h₀ : Heap} {os : OsState} {A : Around} {env : Env} {σ : V → Option B} {ow : V → Option Addr} {str : Bool}

theorem upd_same {β : Type} (σ : V → Option β) (x : V) (b : Option β) : upd σ x b x = b := if_pos rfl
theorem upd_ne {β : Type} (σ : V → Option β) {x y : V} (b : Option β) (h : y ≠ x) : upd σ x b y = σ y := if_neg h

theorem StO.stt {s : Shared} (S : StO nm prog w h₀ os env ow σ s) : Stt nm prog w h₀ env σ (Mu env ow) s := by
  refine ⟨S.up, fun a h => ?_, fun x b hx => ?_, S.old, fun c hc => ⟨.inr (.inl ⟨c, hc, rfl⟩), S.cells c hc⟩, S.bare⟩
  · rcases h with e | ⟨c, hc, e⟩ | ⟨x, hx⟩
    · subst e; obtain ⟨m, o, es, ep, ho, _⟩ := S.ns; exact ⟨o, ho⟩
    · subst e; obtain ⟨v, o, ho, _⟩ := S.cells c hc; exact ⟨o, ho⟩
    · exact (S.sep x a hx).2.2.2
  · cases b with
    | im d => exact S.im x d hx
    | ol ds =>
      obtain ⟨a, ha, hr, vs, hl, hrl⟩ := S.own x _ hx rfl
      exact ⟨_, hr, a, vs, rfl, .inr (.inr ⟨x, ha⟩), hl, hrl⟩
    | od n g =>
      obtain ⟨a, ha, hr, f, hf, hz, hg⟩ := S.own x _ hx rfl
      exact ⟨_, hr, a, f, rfl, .inr (.inr ⟨x, ha⟩), hf, hz, hg⟩

/-- a value for a name: plain data, or a new object of the name's own -/
def NewB (prog : Program) (w : World) (env : Env) (ow : V → Option Addr) (s s₁ : Shared) (b : B) (v : Value) : Prop :=
  (∃ d, b = .im d ∧ Rd s₁.heap (Mu env ow) d v) ∨
  (b.isOwn = true ∧ ∃ a, v = .ref a ∧ s.heap.get? a = none ∧ OB prog w s₁.heap (fun q => Mu env ow q ∨ q = a) b a)

def adrOf (b : B) (v : Value) : Option Addr := if b.isOwn then (match v with | .ref a => some a | _ => none) else none

/-- where a name lies -/
inductive Slot' (env : Env) (x : Str) : Addr → Prop
  | loc (h : env.kindOf x = some .local) : Slot' env x env.locals
  | cell {c : Addr} (h : env.kindOf x = some .cell) (hc : env.cells.lookup x = some c) : Slot' env x c

theorem mem_of_lookup' {l : List (Str × Addr)} {x : Str} {c : Addr} (h : l.lookup x = some c) : (x, c) ∈ l := mem_of_lookup h

theorem Slot'.mu {x : Str} {p : Addr} (h : Slot' env x p) : Mu env ow p := by
  cases h with
  | loc h => exact .inl rfl
  | cell h hc => exact .inr (.inl ⟨_, mem_of_lookup' hc, rfl⟩)

/-- the new state behind a store into a name -/
theorem st_stored2 (K : EnvOk h₀ env) {s s₂ : Shared} {x : V} {b : B} {v : Value} {p : Addr} (S : StO nm prog w h₀ os env ow σ s) (hb : NewB prog w env ow s s₂ b v) (hp : Slot' env (nm x) p)
    (at' : ∀ q o, q ≠ p → s.heap.get? q = some o → s₂.heap.get? q = some o) (hr : RdN env s₂.heap (nm x) v) (hother : ∀ y u, y ≠ x → RdN env s.heap (nm y) u → RdN env s₂.heap (nm y) u)
    (hns : ∃ m, s₂.heap.Ns env.locals m) (hcells : ∀ c ∈ env.cells, ∃ v, s₂.heap.IsCell c.2 v) (hsm : ∃ h tk, s₂ = { s with heap := h, toks := tk }) :
    StO nm prog w h₀ os env (upd ow x (adrOf b v)) (upd σ x (some b)) s₂ ∧ Step str (Mu env ow) (Mu env (upd ow x (adrOf b v))) s s₂ := by
  have hpm : Mu env ow p := hp.mu
  have hp0 : h₀.get? p = none := by
    cases hp with
    | loc h => exact K.locNew
    | cell h hc => exact K.cellNew _ (mem_of_lookup' hc)
  have hps : ∃ o, s.heap.get? p = some o := S.stt.lt p hpm
  -- what stands in s off mu stands in s₂, off the new mu
  have new : ∀ q, Mu env (upd ow x (adrOf b v)) q → Mu env ow q ∨ (adrOf b v = some q ∧ s.heap.get? q = none) := by
    intro q hq
    rcases hq with e | e | ⟨y, hy⟩
    · exact .inl (.inl e)
    · exact .inl (.inr (.inl e))
    · by_cases hyx : y = x
      · subst hyx
        rw [upd_same] at hy
        right
        refine ⟨hy, ?_⟩
        unfold adrOf at hy
        rcases hb with ⟨d, rfl, _⟩ | ⟨hob, a, rfl, hf, _⟩
        · simp [B.isOwn] at hy
        · rw [if_pos hob] at hy; cases hy; exact hf
      · rw [upd_ne _ _ hyx] at hy
        exact .inl (.inr (.inr ⟨y, hy⟩))
  have mv : ∀ q o, ¬ Mu env ow q → s.heap.get? q = some o → s₂.heap.get? q = some o ∧ ¬ Mu env (upd ow x (adrOf b v)) q := by
    intro q o hq e
    refine ⟨at' q o (fun h => hq (h ▸ hpm)) e, fun h => ?_⟩
    rcases new q h with h' | ⟨_, h'⟩
    · exact hq h'
    · rw [h'] at e; cases e
  have there : ∀ q o, s.heap.get? q = some o → ∃ o', s₂.heap.get? q = some o' := by
    intro q o e
    by_cases hq : q = p
    · subst hq
      cases hp with
      | loc h => obtain ⟨m, o', _, _, ho', _⟩ := hns; exact ⟨o', ho'⟩
      | cell h hc => obtain ⟨v', o', ho', _⟩ := hcells _ (mem_of_lookup' hc); exact ⟨o', ho'⟩
    · exact ⟨o, at' q o hq e⟩
  refine ⟨⟨?_, ?_, ?_, ?_, ?_, ?_, hns, hcells, by obtain ⟨h, tk, e⟩ := hsm; rw [e]; exact S.bare, by obtain ⟨h, tk, e⟩ := hsm; rw [e]; exact S.os⟩, ⟨fun q o hq e c => (mv q o hq e).1, fun _ => hsm, there, fun q h => (new q h).imp id fun h => h.2⟩⟩
  · intro q o e c
    exact at' q o (fun h => by subst h; rw [hp0] at e; cases e) (S.up q o e c)
  · exact oldk_ext S.old hp0 at'
  · intro y d hy
    by_cases hyx : y = x
    · subst hyx
      rw [upd_same] at hy; cases hy
      rcases hb with ⟨d', e', hr'⟩ | ⟨hob, _⟩
      · cases e'
        refine ⟨v, hr, Rd.move (fun q o hq e c => ⟨e, fun h => ?_⟩) _ _ hr'⟩
        rcases new q h with h' | ⟨h', _⟩
        · exact hq h'
        · simp [adrOf, B.isOwn] at h'
      · cases hob
    · rw [upd_ne _ _ hyx] at hy
      obtain ⟨u, hu, hd⟩ := S.im y d hy
      exact ⟨u, hother y u hyx hu, Rd.move (fun q o hq e _ => mv q o hq e) _ _ hd⟩
  · intro y b' hy ho'
    by_cases hyx : y = x
    · subst hyx
      rw [upd_same] at hy; cases hy
      rcases hb with ⟨d', e', _⟩ | ⟨hob, a, rfl, hf, hO⟩
      · subst e'; cases ho'
      · have hadr : adrOf b (.ref a) = some a := by unfold adrOf; rw [if_pos hob]
        refine ⟨a, by rw [upd_same, hadr], hr, hO.move (fun o e => e) fun q o hq e c => ⟨e, fun h => ?_⟩⟩
        · rcases new q h with h' | ⟨h', _⟩
          · exact hq (.inl h')
          · rw [hadr] at h'; cases h'; exact hq (.inr rfl)
    · rw [upd_ne _ _ hyx] at hy
      obtain ⟨a, ha, hu, hO⟩ := S.own y b' hy ho'
      refine ⟨a, by rw [upd_ne _ _ hyx]; exact ha, hother y _ hyx hu, hO.move (fun o e => at' a o (fun h => ?_) e) fun q o hq e _ => mv q o hq e⟩
      subst h
      have q := S.sep y _ ha
      cases hp with
      | loc h => exact q.1 rfl
      | cell h hc => exact q.2.1 _ (mem_of_lookup' hc) rfl
  · have key : ∀ y z a, y = x → z ≠ x → upd ow x (adrOf b v) y = some a → upd ow x (adrOf b v) z = some a → False := by
      intro y z a hyx hzx hy hz
      subst hyx
      rw [upd_same] at hy; rw [upd_ne _ _ hzx] at hz
      obtain ⟨o, e⟩ := (S.sep z a hz).2.2.2
      unfold adrOf at hy
      rcases hb with ⟨d, rfl, _⟩ | ⟨hob, a', rfl, hf, _⟩
      · simp [B.isOwn] at hy
      · rw [if_pos hob] at hy; cases hy; rw [hf] at e; cases e
    intro y z a hy hz
    by_cases hyx : y = x <;> by_cases hzx : z = x
    · rw [hyx, hzx]
    · exact (key y z a hyx hzx hy hz).elim
    · exact (key z y a hzx hyx hz hy).elim
    · rw [upd_ne _ _ hyx] at hy; rw [upd_ne _ _ hzx] at hz; exact S.inj y z a hy hz
  · intro y a hy
    by_cases hyx : y = x
    · subst hyx
      rw [upd_same] at hy
      unfold adrOf at hy
      rcases hb with ⟨d, rfl, _⟩ | ⟨hob, a', rfl, hf, hO⟩
      · simp [B.isOwn] at hy
      · rw [if_pos hob] at hy; cases hy
        have ne : ∀ q, Mu env ow q → a ≠ q := fun q hq h => by
          subst h
          obtain ⟨o, e⟩ := S.stt.lt a hq
          rw [hf] at e; cases e
        refine ⟨ne _ (.inl rfl), fun c hc => ne _ (.inr (.inl ⟨c, hc, rfl⟩)), ?_, ?_⟩
        · cases h : h₀.get? a with
          | none => rfl
          | some o => obtain ⟨o', e⟩ := S.old.there a o h; rw [hf] at e; cases e
        have : ∃ o, s₂.heap.get? a = some o := by
          cases b with
          | im d => exact hO.elim
          | ol ds => obtain ⟨vs, ⟨n, e⟩, _⟩ := hO; exact ⟨_, e⟩
          | od n g => obtain ⟨f, ⟨o, es, ep, e, _⟩, _⟩ := hO; exact ⟨_, e⟩
        exact this
    · rw [upd_ne _ _ hyx] at hy
      have q := S.sep y a hy
      obtain ⟨o, e⟩ := q.2.2.2
      exact ⟨q.1, q.2.1, q.2.2.1, there a o e⟩
/-- the same behind an evaluation -/
theorem st_stored (K : EnvOk h₀ env) {s s₁ s₂ : Shared} {x : V} {b : B} {v : Value} {p : Addr} (S : StO nm prog w h₀ os env ow σ s) (k : Keeps s s₁) (hb : NewB prog w env ow s s₁ b v) (hp : Slot' env (nm x) p)
    (hs : Heap.SameBut p s₁.heap s₂.heap) (hr : RdN env s₂.heap (nm x) v) (hother : ∀ y u, y ≠ x → RdN env s₁.heap (nm y) u → RdN env s₂.heap (nm y) u)
    (hns : ∃ m, s₂.heap.Ns env.locals m) (hcells : ∀ c ∈ env.cells, ∃ v, s₂.heap.IsCell c.2 v) (hsm : ∃ h tk, s₂ = { s₁ with heap := h, toks := tk }) :
    StO nm prog w h₀ os env (upd ow x (adrOf b v)) (upd σ x (some b)) s₂ ∧ Step str (Mu env ow) (Mu env (upd ow x (adrOf b v))) s s₂ := by
  have hpm : Mu env ow p := hp.mu
  have hps : ∃ o, s.heap.get? p = some o := S.stt.lt p hpm
  refine st_stored2 K S ?_ hp (fun q o hq e => (hs.2 q hq).trans (kp_heap k q o e)) hr (fun y u hy r => hother y u hy (r.keeps (kp_heap k))) hns hcells (by obtain ⟨h', tk, e, _⟩ := k; obtain ⟨h'', tk', e'⟩ := hsm; subst e; exact ⟨h'', tk', e'⟩)
  rcases hb with ⟨d, rfl, hd⟩ | ⟨hob, a, rfl, hf, hO⟩
  · exact .inl ⟨d, rfl, Rd.move (fun q o hq e _ => ⟨(hs.2 q (fun h => hq (h ▸ hpm))).trans e, hq⟩) _ _ hd⟩
  · refine .inr ⟨hob, a, rfl, hf, hO.move (fun o e => (hs.2 a (fun h => ?_)).trans e) fun q o hq e _ => ⟨(hs.2 q (fun h => hq (.inl (h ▸ hpm)))).trans e, hq⟩⟩
    subst h
    obtain ⟨o', e'⟩ := hps
    rw [hf] at e'; cases e'
end
end Mine

-- M5
namespace Mine
open PySem PySem.Calls PyProof.Rows PySem.W

section
variable {V : Type} [DecidableEq V] {nm : V → Str} {prog : Program} {w : World} {h₀ : Heap} {os : OsState} {A : Around} {env : Env} {σ : V → Option B} {ow : V → Option Addr} {str : Bool}

/-- all but X's places is kept -/
def KeepsX (X : Addr → Prop) (s s' : Shared) : Prop := ∃ h' tk, s' = { s with heap := h', toks := tk } ∧ ∀ b o, ¬ X b → s.heap.get? b = some o → h'.get? b = some o
theorem kx_refl (X : Addr → Prop) (s : Shared) : KeepsX X s s := ⟨s.heap, s.toks, rfl, fun _ _ _ e => e⟩
theorem kx_heap {X : Addr → Prop} {s s' : Shared} (k : KeepsX X s s') : ∀ b o, ¬ X b → s.heap.get? b = some o → s'.heap.get? b = some o := by
  obtain ⟨h', tk, e, k⟩ := k
  subst e; exact k
theorem kx_trans {X : Addr → Prop} {s s' s'' : Shared} (k : KeepsX X s s') (k' : KeepsX X s' s'') : KeepsX X s s'' := by
  obtain ⟨h', tk, e, k⟩ := k
  obtain ⟨h'', tk', e', k'⟩ := k'
  subst e; subst e'
  exact ⟨h'', tk', rfl, fun b o hb e => k' b o hb (k b o hb e)⟩
theorem kx_of {X : Addr → Prop} {s s' : Shared} (k : Keeps s s') : KeepsX X s s' := let ⟨h', tk, e, k⟩ := k; ⟨h', tk, e, fun b o _ e => k b o e⟩
theorem kx_mono {X Y : Addr → Prop} {s s' : Shared} (k : KeepsX X s s') (h : ∀ q, X q → Y q) : KeepsX Y s s' := let ⟨h', tk, e, k⟩ := k; ⟨h', tk, e, fun b o hb e => k b o (fun q => hb (h b q)) e⟩
theorem kx_new {X : Addr → Prop} {s s₁ s' : Shared} (k₁ : Keeps s s₁) (k : KeepsX X s₁ s') (h : ∀ q, X q → s.heap.get? q = none) : Keeps s s' := by
  obtain ⟨h', tk, e, k⟩ := k
  obtain ⟨h'', tk', e', k'⟩ := k₁
  subst e'; subst e
  exact ⟨h', tk, rfl, fun b o e => k b o (fun q => by rw [h b q] at e; cases e) (k' b o e)⟩
theorem newb_im {s s₁ : Shared} {d : D} {v : Value} (h : Rd s₁.heap (Mu env ow) d v) : NewB prog w env ow s s₁ (.im d) v := .inl ⟨d, rfl, h⟩
theorem newb_own {s s₁ : Shared} {b : B} {a : Addr} (hb : b.isOwn = true) (hf : s.heap.get? a = none) (hO : OB prog w s₁.heap (fun q => Mu env ow q ∨ q = a) b a) : NewB prog w env ow s s₁ b (.ref a) := .inr ⟨hb, a, rfl, hf, hO⟩
theorem wp_store (K : EnvOk h₀ env) (hnm : ∀ x y, nm x = nm y → x = y) {s s₁ : Shared} {x : V} {b : B} {v : Value} {p : Addr} {Q : Unit → Shared → Prop} {E : Value → Shared → Prop} (S : StO nm prog w h₀ os env ow σ s) (k : Keeps s s₁) (hb : NewB prog w env ow s s₁ b v)
    (hp : Slot' env (nm x) p) (h : ∀ s₂, StO nm prog w h₀ os env (upd ow x (adrOf b v)) (upd σ x (some b)) s₂ → Step str (Mu env ow) (Mu env (upd ow x (adrOf b v))) s s₂ → KeepsX (fun q => q = p) s₁ s₂ → Q () s₂) : wpAny (model prog w) A (storeName env (nm x) v) Q E s₁ := by
  have hne : ∀ y, y ≠ x → nm y ≠ nm x := fun y hy e => hy (hnm y x e)
  obtain ⟨m, hn⟩ := S.ns
  have hn₁ := hn.keeps (kp_heap k)
  have hc₁ : ∀ c ∈ env.cells, ∃ v, s₁.heap.IsCell c.2 v := fun c hc => let ⟨v, e⟩ := S.cells c hc; ⟨v, e.keeps (kp_heap k)⟩
  have hk := K.kind
  cases hp with
  | loc hl =>
    have hcl : (env.scope.kind == .class || (env.scope.kind == .module && env.locals != env.globals)) = false := by rw [hk]; rfl
    with_reducible refine wpAny_storeName_local hl hn₁ (fun h' hn' hs' => ?_) hcl
    have z := st_stored (str := str) K (x := x) (s₂ := { s₁ with heap := h', toks := s₁.toks + 1 }) S k hb (.loc hl) hs' (.inl ⟨hl, _, hn', by simp⟩) (fun y u hy r => ?_) ⟨_, hn'⟩ (fun c hc => ?_) ⟨_, _, rfl⟩
    · exact h _ z.1 z.2 ⟨_, _, rfl, fun b o hb e => (hs'.2 b hb).trans e⟩
    · rcases r with ⟨a, m₁, hm₁, e⟩ | ⟨a, c, hc, ho⟩
      · refine .inl ⟨a, _, hn', ?_⟩
        rw [if_neg (hne y hy), ns_unique hn₁ hm₁, e]
      · exact .inr ⟨a, c, hc, ho.sameBut hs' (K.cellNe _ (mem_of_lookup' hc))⟩
    · obtain ⟨v', e⟩ := hc₁ c hc
      exact ⟨v', e.sameBut hs' (K.cellNe _ hc)⟩
  | cell hl hc =>
    obtain ⟨v₀, hv₀⟩ := hc₁ _ (mem_of_lookup' hc)
    with_reducible refine wpAny_storeName_cell hk hl hc hv₀ (fun h' hv' hs' => ?_)
    have hloc : env.locals ≠ p := fun e => K.cellNe _ (mem_of_lookup' hc) e.symm
    have z := st_stored (str := str) K (x := x) (s₂ := { s₁ with heap := h' }) S k hb (.cell hl hc) hs' (.inr ⟨hl, _, hc, hv'⟩) (fun y u hy r => ?_) ⟨_, hn₁.sameBut hs' hloc⟩ (fun c hc' => ?_) ⟨_, _, rfl⟩
    · exact h _ z.1 z.2 ⟨_, _, rfl, fun b o hb e => (hs'.2 b hb).trans e⟩
    · rcases r with ⟨a, m₁, hm₁, e⟩ | ⟨a, c, hcy, ho⟩
      · exact .inl ⟨a, _, hm₁.sameBut hs' hloc, e⟩
      · refine .inr ⟨a, c, hcy, ho.sameBut hs' (fun e => ?_)⟩
        subst e
        exact hne y hy (K.cellInj _ _ _ hcy hc)
    · by_cases e : c.2 = p
      · exact ⟨_, e ▸ hv'⟩
      · obtain ⟨v', e'⟩ := hc₁ c hc'
        exact ⟨v', e'.sameBut hs' e⟩

/-- an own object has turned -/
theorem st_changed (K : EnvOk h₀ env) {s s₁ s₂ : Shared} {x : V} {b b' : B} {a : Addr} (S : StO nm prog w h₀ os env ow σ s) (k : Keeps s s₁) (hx : σ x = some b) (hob : b.isOwn = true) (hob' : b'.isOwn = true) (ha : ow x = some a)
    (hs : Heap.SameBut a s₁.heap s₂.heap) (hO : OB prog w s₂.heap (Mu env ow) b' a) (hsm : ∃ h tk, s₂ = { s₁ with heap := h, toks := tk }) :
    StO nm prog w h₀ os env ow (upd σ x (some b')) s₂ ∧ Step str (Mu env ow) (Mu env ow) s s₂ := by
  have ham : Mu env ow a := .inr (.inr ⟨x, ha⟩)
  have sx := S.sep x a ha
  have at' : ∀ q o, q ≠ a → s.heap.get? q = some o → s₂.heap.get? q = some o := fun q o hq e => (hs.2 q hq).trans (kp_heap k q o e)
  have mv : ∀ q o, ¬ Mu env ow q → s.heap.get? q = some o → IsData o.cls → s₂.heap.get? q = some o ∧ ¬ Mu env ow q := fun q o hq e _ => ⟨at' q o (fun h => hq (h ▸ ham)) e, hq⟩
  have ta : ∃ o', s₂.heap.get? a = some o' := by
    cases b' with
    | im d => exact hO.elim
    | ol ds => obtain ⟨vs, ⟨n, e⟩, _⟩ := hO; exact ⟨_, e⟩
    | od n g => obtain ⟨f, ⟨o, es, ep, e, _⟩, _⟩ := hO; exact ⟨_, e⟩
  have there : ∀ q o, s.heap.get? q = some o → ∃ o', s₂.heap.get? q = some o' := by
    intro q o e
    by_cases hq : q = a
    · subst hq; exact ta
    · exact ⟨o, at' q o hq e⟩
  have nm' : ∀ y u, RdN env s.heap (nm y) u → RdN env s₂.heap (nm y) u := by
    intro y u r
    rcases r with ⟨e, m, hm, hu⟩ | ⟨e, c, hc, ho⟩
    · exact .inl ⟨e, m, (hm.keeps (kp_heap k)).sameBut hs (fun h => sx.1 h.symm), hu⟩
    · exact .inr ⟨e, c, hc, (ho.keeps (kp_heap k)).sameBut hs (fun h => sx.2.1 _ (mem_of_lookup' hc) h.symm)⟩
  have hsm' : ∃ h tk, s₂ = { s with heap := h, toks := tk } := by
    obtain ⟨h', tk, e, _⟩ := k
    obtain ⟨h'', tk', e'⟩ := hsm
    subst e; exact ⟨h'', tk', e'⟩
  refine ⟨⟨?_, ?_, ?_, ?_, S.inj, ?_, ?_, ?_, by obtain ⟨h, tk, e⟩ := hsm'; rw [e]; exact S.bare, by obtain ⟨h, tk, e⟩ := hsm'; rw [e]; exact S.os⟩, ⟨fun q o hq e c => at' q o (fun h => hq (h ▸ ham)) e, fun _ => hsm', there, fun q h => .inl h⟩⟩
  · intro q o e c
    exact at' q o (fun h => by subst h; rw [sx.2.2.1] at e; cases e) (S.up q o e c)
  · exact oldk_step (S.old.step_keeps (kp_heap k)) sx.2.2.1 hs
  · intro y d hy
    by_cases hyx : y = x
    · subst hyx; rw [upd_same] at hy; cases hy; cases hob'
    · rw [upd_ne _ _ hyx] at hy
      obtain ⟨u, hu, hd⟩ := S.im y d hy
      exact ⟨u, nm' y u hu, Rd.move mv _ _ hd⟩
  · intro y b'' hy ho'
    by_cases hyx : y = x
    · subst hyx; rw [upd_same] at hy; cases hy
      obtain ⟨a', ha', hr, _⟩ := S.own y b hx hob
      rw [ha] at ha'; cases ha'
      exact ⟨a, ha, nm' _ _ hr, hO⟩
    · rw [upd_ne _ _ hyx] at hy
      obtain ⟨a', ha', hu, hO'⟩ := S.own y b'' hy ho'
      exact ⟨a', ha', nm' _ _ hu, hO'.move (fun o e => at' a' o (fun h => hyx (S.inj y x a (h ▸ ha') ha)) e) mv⟩
  · intro y a' hy
    have q := S.sep y a' hy
    obtain ⟨o, e⟩ := q.2.2.2
    exact ⟨q.1, q.2.1, q.2.2.1, there a' o e⟩
  · obtain ⟨m, hn⟩ := S.ns
    exact ⟨m, (hn.keeps (kp_heap k)).sameBut hs (fun h => sx.1 h.symm)⟩
  · intro c hc
    obtain ⟨v, e⟩ := S.cells c hc
    exact ⟨v, (e.keeps (kp_heap k)).sameBut hs (fun h => sx.2.1 c hc h.symm)⟩

/-- an own list becomes plain data that stands -/
theorem st_freeze {s : Shared} {x : V} {ds : List D} (S : StO nm prog w h₀ os env ow σ s) (hx : σ x = some (.ol ds)) : StO nm prog w h₀ os env (upd ow x none) (upd σ x (some (.im (.list ds)))) s ∧ Step str (Mu env ow) (Mu env (upd ow x none)) s s := by
  have sub : ∀ q, Mu env (upd ow x none) q → Mu env ow q := by
    rintro q (h | h | ⟨y, h⟩)
    · exact .inl h
    · exact .inr (.inl h)
    · by_cases hyx : y = x
      · subst hyx; rw [upd_same] at h; cases h
      · rw [upd_ne _ _ hyx] at h; exact .inr (.inr ⟨y, h⟩)
  have mv : ∀ q o, ¬ Mu env ow q → s.heap.get? q = some o → IsData o.cls → s.heap.get? q = some o ∧ ¬ Mu env (upd ow x none) q := fun q o hq e _ => ⟨e, fun h => hq (sub q h)⟩
  refine ⟨⟨S.up, S.old, ?_, ?_, ?_, ?_, S.ns, S.cells, S.bare, S.os⟩, ⟨fun q o _ e _ => e, fun _ => ⟨s.heap, s.toks, rfl⟩, fun q o e => ⟨o, e⟩, fun q h => .inl (sub q h)⟩⟩
  · intro y d hy
    by_cases hyx : y = x
    · subst hyx; rw [upd_same] at hy; cases hy
      obtain ⟨a, ha, hr, vs, hl, hrl⟩ := S.own y _ hx rfl
      refine ⟨_, hr, rd_list.mpr ⟨a, vs, rfl, ?_, hl.isList, RdL.move mv _ _ hrl⟩⟩
      rintro (h | ⟨c, hc, h⟩ | ⟨z, h⟩)
      · exact (S.sep y a ha).1 h
      · exact (S.sep y a ha).2.1 c hc h
      · by_cases hzy : z = y
        · subst hzy; rw [upd_same] at h; cases h
        · rw [upd_ne _ _ hzy] at h; exact hzy (S.inj z y a h ha)
    · rw [upd_ne _ _ hyx] at hy
      obtain ⟨u, hu, hd⟩ := S.im y d hy
      exact ⟨u, hu, Rd.move mv _ _ hd⟩
  · intro y b hy hob
    by_cases hyx : y = x
    · subst hyx; rw [upd_same] at hy; cases hy; cases hob
    · rw [upd_ne _ _ hyx] at hy
      obtain ⟨a, ha, hu, hO⟩ := S.own y b hy hob
      exact ⟨a, by rw [upd_ne _ _ hyx]; exact ha, hu, hO.move (fun _ e => e) mv⟩
  · intro y z a hy hz
    by_cases hyx : y = x
    · subst hyx; rw [upd_same] at hy; cases hy
    · by_cases hzx : z = x
      · subst hzx; rw [upd_same] at hz; cases hz
      · rw [upd_ne _ _ hyx] at hy; rw [upd_ne _ _ hzx] at hz; exact S.inj y z a hy hz
  · intro y a hy
    by_cases hyx : y = x
    · subst hyx; rw [upd_same] at hy; cases hy
    · rw [upd_ne _ _ hyx] at hy; exact S.sep y a hy

theorem st_sub {s : Shared} {σ' : V → Option B} (S : StO nm prog w h₀ os env ow σ s) (h : ∀ y b, σ' y = some b → σ y = some b) : StO nm prog w h₀ os env ow σ' s :=
  ⟨S.up, S.old, fun y d hy => S.im y d (h y _ hy), fun y b hy => S.own y b (h y _ hy), S.inj, S.sep, S.ns, S.cells, S.bare, S.os⟩

theorem wp_append (K : EnvOk h₀ env) {s s₁ : Shared} {x : V} {ds : List D} {d : D} {v : Value} {a : Addr} {Q : Value → Shared → Prop} {E : Value → Shared → Prop} (S : StO nm prog w h₀ os env ow σ s) (k : Keeps s s₁) (hx : σ x = some (.ol ds)) (ha : ow x = some a)
    (hv : Rd s₁.heap (Mu env ow) d v) (hn : ds.length ≤ 100000) (h : ∀ s₂, StO nm prog w h₀ os env ow (upd σ x (some (.ol (ds ++ [d])))) s₂ → Step str (Mu env ow) (Mu env ow) s s₂ → Q .none s₂) :
    wpAny (model prog w) A (call (.builtin "list.append") [.ref a, v]) Q E s₁ := by
  obtain ⟨a', ha', hr, vs, hl, hrl⟩ := S.own x _ hx rfl
  rw [ha] at ha'; cases ha'
  have hl₁ : s₁.heap.PlainList a (List.toArray vs) := hl.at fun o e => kp_heap k a o e
  with_reducible refine wpAny_list_append_plain hl₁ (fun h' hl' hs' => ?_) (by rw [List.size_toArray, hrl.length, sizeLine_eq]; omega)
  have mv : ∀ q o, ¬ Mu env ow q → s₁.heap.get? q = some o → IsData o.cls → h'.get? q = some o ∧ ¬ Mu env ow q := fun q o hq e _ => ⟨(hs'.2 q (fun e' => hq (e' ▸ .inr (.inr ⟨x, ha⟩)))).trans e, hq⟩
  have z := st_changed (str := str) K (s₂ := { s₁ with heap := h' }) (b' := .ol (ds ++ [d])) S k hx rfl rfl ha hs' ⟨vs ++ [v], by simpa using hl', (RdL.move mv _ _ (hrl.keeps (kp_heap k))).snoc (Rd.move mv _ _ hv)⟩ ⟨_, _, rfl⟩
  exact h _ z.1 z.2
end
end Mine

-- M6
namespace Mine
open PySem PySem.Calls PyProof.Rows PySem.W

section
variable {V : Type} [DecidableEq V] (nm : V → Str) (prog : Program) (w : World) (h₀ : Heap) (os : OsState) (A : Around) (env : Env) (str : Bool)
def Res (ow : V → Option Addr) (s : Shared) (Post : FD → (V → Option B) → Prop) (f : Flow) (s' : Shared) : Prop :=
  ∃ fd ow' σ', StO nm prog w h₀ os env ow' σ' s' ∧ Step str (Mu env ow) (Mu env ow') s s' ∧ FlR s'.heap (Mu env ow') fd f ∧ Post fd σ'
structure Tr (ss : List Stmt) (σ : V → Option B) (Post : FD → (V → Option B) → Prop) : Prop where
  run : ∀ ow s, StO nm prog w h₀ os env ow σ s → wpAny (model prog w) A (execs ss env) (Res nm prog w h₀ os env str ow s Post) (fun _ _ => False) s
structure TrS (st : Stmt) (σ : V → Option B) (Post : FD → (V → Option B) → Prop) : Prop where
  run : ∀ ow s, StO nm prog w h₀ os env ow σ s → wpAny (model prog w) A (exec st env) (Res nm prog w h₀ os env str ow s Post) (fun _ _ => False) s
/-- an expression that makes a new object for a name's own -/
structure EvO (e : Expr) (σ : V → Option B) (b : B) : Prop where
  run : ∀ s mu, Stt nm prog w h₀ env σ mu s → wpAny (model prog w) A (eval e env) (fun v s' => Keeps s s' ∧ b.isOwn = true ∧ ∃ a, v = .ref a ∧ s.heap.get? a = none ∧ OB prog w s'.heap (fun q => mu q ∨ q = a) b a) (fun _ _ => False) s
end

section
variable {V : Type} [DecidableEq V] {nm : V → Str} {prog : Program} {w : World} {h₀ : Heap} {os : OsState} {A : Around} {env : Env} {σ : V → Option B} {ow : V → Option Addr} {str : Bool}

theorem st_keeps {s s' : Shared} (S : StO nm prog w h₀ os env ow σ s) (k : Keeps s s') : StO nm prog w h₀ os env ow σ s' ∧ Step str (Mu env ow) (Mu env ow) s s' := by
  refine ⟨⟨S.up.keeps (kp_heap k), S.old.step_keeps (kp_heap k), fun x d h => ?_, fun x b h hb => ?_, S.inj, fun x a h => ?_, ?_, fun c hc => ?_, ?_, ?_⟩, Step.ofKeeps k⟩
  · obtain ⟨v, r, q⟩ := S.im x d h
    exact ⟨v, r.keeps (kp_heap k), q.keeps (kp_heap k)⟩
  · obtain ⟨a, e, r, q⟩ := S.own x b h hb
    exact ⟨a, e, r.keeps (kp_heap k), q.move (fun o e => kp_heap k a o e) fun q o hq e _ => ⟨kp_heap k q o e, hq⟩⟩
  · have z := S.sep x a h
    obtain ⟨o, e⟩ := z.2.2.2
    exact ⟨z.1, z.2.1, z.2.2.1, o, kp_heap k a o e⟩
  · obtain ⟨m, hn⟩ := S.ns
    exact ⟨m, hn.keeps (kp_heap k)⟩
  · obtain ⟨v, hv⟩ := S.cells c hc
    exact ⟨v, hv.keeps (kp_heap k)⟩
  · obtain ⟨h', tk, e, _⟩ := k; subst e; exact S.bare
  · obtain ⟨h', tk, e, _⟩ := k; subst e; exact S.os

theorem Res.after {s s₁ : Shared} {ow₁ : V → Option Addr} {Post : FD → (V → Option B) → Prop} {f : Flow} {s' : Shared} (t : Step str (Mu env ow) (Mu env ow₁) s s₁) (r : Res nm prog w h₀ os env str ow₁ s₁ Post f s') : Res nm prog w h₀ os env str ow s Post f s' := by
  obtain ⟨fd, ow', σ', S, t', hf, hp⟩ := r
  exact ⟨fd, ow', σ', S, t.trans t', hf, hp⟩
theorem Res.imp {s : Shared} {Post Post' : FD → (V → Option B) → Prop} {f : Flow} {s' : Shared} (r : Res nm prog w h₀ os env str ow s Post f s') (h : ∀ fd σ, Post fd σ → Post' fd σ) : Res nm prog w h₀ os env str ow s Post' f s' := by
  obtain ⟨fd, ow', σ', S, t', hf, hp⟩ := r
  exact ⟨fd, ow', σ', S, t', hf, h _ _ hp⟩
theorem Res.next {s s' : Shared} {ow' : V → Option Addr} {σ' : V → Option B} {Post : FD → (V → Option B) → Prop} (S : StO nm prog w h₀ os env ow' σ' s') (t : Step str (Mu env ow) (Mu env ow') s s') (hp : Post .next σ') : Res nm prog w h₀ os env str ow s Post .next s' :=
  ⟨.next, ow', σ', S, t, rfl, hp⟩

theorem Tr.imp {ss : List Stmt} {Post Post' : FD → (V → Option B) → Prop} (h : Tr nm prog w h₀ os A env str ss σ Post) (hp : ∀ fd σ, Post fd σ → Post' fd σ) : Tr nm prog w h₀ os A env str ss σ Post' := ⟨fun ow s S => by
  with_reducible exact ev_mono (h.run ow s S) fun _ _ q => q.imp hp⟩
theorem TrS.imp {st : Stmt} {Post Post' : FD → (V → Option B) → Prop} (h : TrS nm prog w h₀ os A env str st σ Post) (hp : ∀ fd σ, Post fd σ → Post' fd σ) : TrS nm prog w h₀ os A env str st σ Post' := ⟨fun ow s S => by
  with_reducible exact ev_mono (h.run ow s S) fun _ _ q => q.imp hp⟩
theorem tr_nil {Post : FD → (V → Option B) → Prop} (h : Post .next σ) : Tr nm prog w h₀ os A env str [] σ Post := ⟨fun ow s S => by
  with_reducible exact wpAny_execs_nil (Res.next S (Step.refl _ _) h)⟩
theorem tr_cons {st : Stmt} {ss : List Stmt} {Post : FD → (V → Option B) → Prop} (h : TrS nm prog w h₀ os A env str st σ fun fd σ' => match fd with | .next => Tr nm prog w h₀ os A env str ss σ' Post | fd => Post fd σ') : Tr nm prog w h₀ os A env str (st :: ss) σ Post := ⟨fun ow s S => by
  with_reducible refine wpAny_execs_cons (ev_mono (h.run ow s S) ?_)
  rintro f s' ⟨fd, ow', σ', S', t, hf, hp⟩
  cases fd with
  | next =>
    cases hf
    have hp' : Tr nm prog w h₀ os A env str ss σ' Post := hp
    show wpAny _ _ (execs ss env) _ _ _
    with_reducible exact ev_mono (hp'.run ow' s' S') fun f s'' q => q.after t
  | brk => cases hf; exact ⟨.brk, ow', σ', S', t, rfl, hp⟩
  | cont => cases hf; exact ⟨.cont, ow', σ', S', t, rfl, hp⟩
  | ret d => obtain ⟨v, rfl, hv⟩ := hf; exact ⟨.ret d, ow', σ', S', t, ⟨v, rfl, hv⟩, hp⟩⟩
theorem tr_sub {ss : List Stmt} {σ' : V → Option B} {Post : FD → (V → Option B) → Prop} (h : Tr nm prog w h₀ os A env str ss σ' Post) (hs : ∀ y b, σ' y = some b → σ y = some b) : Tr nm prog w h₀ os A env str ss σ Post := ⟨fun ow s S => h.run ow s (st_sub S hs)⟩
theorem tr_freeze {ss : List Stmt} {Post : FD → (V → Option B) → Prop} (x : V) {ds : List D} (hx : σ x = some (.ol ds)) (h : Tr nm prog w h₀ os A env str ss (upd σ x (some (.im (.list ds)))) Post) : Tr nm prog w h₀ os A env str ss σ Post := ⟨fun ow s S => by
  have z := st_freeze (str := str) S hx
  with_reducible exact ev_mono (h.run _ s z.1) fun f s' q => q.after z.2⟩

/-- x = e -/
theorem trs_assign (K : EnvOk h₀ env) (hnm : ∀ x y, nm x = nm y → x = y) {x : V} {p : Addr} {e : Expr} {pp pos : Pos} {C : D → Prop} {Post : FD → (V → Option B) → Prop} (hp : Slot' env (nm x) p) (h : EvP nm prog w h₀ A env σ e fun g mu v => ∃ d, C d ∧ Rd g mu d v)
    (hq : ∀ d, C d → Post .next (upd σ x (some (.im d)))) (hs : swapsWith e (some (.Name (nm x) pp)) pos.line env = pure false := by rfl) : TrS nm prog w h₀ os A env str (.Assign [.Name (nm x) pp] e pos) σ Post := ⟨fun ow s S => by
  with_reducible refine wpAny_Assign_Name (ev_then h S.stt fun v s₁ k _ r => ?_) hs
  obtain ⟨d, hc, r⟩ := r
  with_reducible refine wp_store (str := str) K hnm (b := .im d) S k (newb_im r) hp fun s₂ S₂ t _ => ?_
  exact Res.next S₂ t (hq d hc)⟩
theorem trs_asg (K : EnvOk h₀ env) (hnm : ∀ x y, nm x = nm y → x = y) {x : V} {p : Addr} {e : Expr} {pp pos : Pos} {d : D} {Post : FD → (V → Option B) → Prop} (hp : Slot' env (nm x) p) (h : Ev nm prog w h₀ A env σ e d)
    (hq : Post .next (upd σ x (some (.im d)))) (hs : swapsWith e (some (.Name (nm x) pp)) pos.line env = pure false := by rfl) : TrS nm prog w h₀ os A env str (.Assign [.Name (nm x) pp] e pos) σ Post :=
  trs_assign K hnm (C := fun d' => d' = d) hp (EvP.imp h fun _ _ _ r => ⟨d, rfl, r⟩) (fun d' e => by subst e; exact hq) hs
theorem trs_asgO (K : EnvOk h₀ env) (hnm : ∀ x y, nm x = nm y → x = y) {x : V} {p : Addr} {e : Expr} {pp pos : Pos} {b : B} {Post : FD → (V → Option B) → Prop} (hp : Slot' env (nm x) p) (h : EvO nm prog w h₀ A env e σ b)
    (hq : Post .next (upd σ x (some b))) (hs : swapsWith e (some (.Name (nm x) pp)) pos.line env = pure false := by rfl) : TrS nm prog w h₀ os A env str (.Assign [.Name (nm x) pp] e pos) σ Post := ⟨fun ow s S => by
  with_reducible refine wpAny_Assign_Name (ev_mono (h.run s _ S.stt) ?_) hs
  rintro v s₁ ⟨k, hb, a, rfl, hf, hO⟩
  with_reducible refine wp_store (str := str) K hnm (b := b) S k (newb_own hb hf hO) hp fun s₂ S₂ t _ => ?_
  exact Res.next S₂ t hq⟩
theorem trs_if {t : Expr} {r : Bool} {body orelse : List Stmt} {pos : Pos} {Post : FD → (V → Option B) → Prop} (ht : Tst nm prog w h₀ A env σ t r) (h1 : r = true → Tr nm prog w h₀ os A env str body σ Post) (h2 : r = false → Tr nm prog w h₀ os A env str orelse σ Post) : TrS nm prog w h₀ os A env str (.If t body orelse pos) σ Post := ⟨fun ow s S => by
  with_reducible refine wpAny_If (tst_then ht S.stt fun s₁ k _ => ?_)
  have z := st_keeps (str := str) S k
  cases r with
  | true =>
    show wpAny _ _ (execs body env) _ _ _
    with_reducible exact ev_mono ((h1 rfl).run ow s₁ z.1) fun f s' q => q.after z.2
  | false =>
    show wpAny _ _ (execs orelse env) _ _ _
    with_reducible exact ev_mono ((h2 rfl).run ow s₁ z.1) fun f s' q => q.after z.2⟩
theorem trs_ret {e : Expr} {d : D} {pos : Pos} {Post : FD → (V → Option B) → Prop} (h : Ev nm prog w h₀ A env σ e d) (hp : Post (.ret d) σ) : TrS nm prog w h₀ os A env str (.Return (some e) pos) σ Post := ⟨fun ow s S => by
  with_reducible refine wpAny_Return_some (ev_then h S.stt fun v s₁ k _ r => ?_)
  have z := st_keeps (str := str) S k
  exact ⟨.ret d, ow, σ, z.1, z.2, ⟨v, rfl, r⟩, hp⟩⟩
theorem trs_brk {pos : Pos} {Post : FD → (V → Option B) → Prop} (hp : Post .brk σ) : TrS nm prog w h₀ os A env str (.Break pos) σ Post := ⟨fun ow s S => by
  with_reducible refine wpAny_Break ?_
  exact ⟨.brk, ow, σ, S, Step.refl _ _, rfl, hp⟩⟩
/-- x op= e upon ints -/
theorem trs_aug (K : EnvOk h₀ env) (hnm : ∀ x y, nm x = nm y → x = y) {x : V} {p : Addr} {e : Expr} {op : Operator} {pp pos : Pos} {a b c : Int} {Post : FD → (V → Option B) → Prop} (hp : Slot' env (nm x) p) (hx : σ x = some (.im (.int a))) (h : Ev nm prog w h₀ A env σ e (.int b))
    (hop : ∀ s t u, wpAny (model prog w) A (inplaceOp op (.int a t) (.int b u)) (fun r s' => Keeps s s' ∧ ∃ k, r = .int c k) (fun _ _ => False) s) (hq : Post .next (upd σ x (some (.im (.int c))))) : TrS nm prog w h₀ os A env str (.AugAssign (.Name (nm x) pp) op e pos) σ Post := ⟨fun ow s S => by
  obtain ⟨v, r, hv⟩ := S.im x _ hx
  obtain ⟨t, rfl⟩ := rd_int.mp hv
  have load : ∀ {Q : Value → Shared → Prop} {E : Value → Shared → Prop}, Q (.int a t) s → wpAny (model prog w) A (loadName env (nm x)) Q E s := by
    intro Q E hQ
    rcases r with ⟨e, m, hn, hm⟩ | ⟨e, c, hc, ho⟩
    · with_reducible exact wpAny_loadName_local K.kind e hn hm hQ
    · with_reducible exact wpAny_loadName_cell K.kind e hc ho hQ
  with_reducible refine wpAny_AugAssign_Name (load (ev_then h S.stt fun v s₁ k _ r' => ?_))
  obtain ⟨u, rfl⟩ := rd_int.mp r'
  with_reducible refine ev_mono (hop s₁ t u) ?_
  rintro r s₂ ⟨k₂, q, rfl⟩
  with_reducible refine wp_store (str := str) K hnm (b := .im (.int c)) S (kp_trans k k₂) (newb_im (rd_int.mpr ⟨_, rfl⟩)) hp fun s₃ S₃ t _ => ?_
  exact Res.next S₃ t hq⟩
theorem iop_add {s : Shared} {a b : Int} {t u : Tok} : wpAny (model prog w) A (inplaceOp .Add (.int a t) (.int b u)) (fun r s' => Keeps s s' ∧ ∃ k, r = .int (a + b) k) (fun _ _ => False) s := by
  with_reducible exact P.iadd_int ⟨kp_tok s _, _, rfl⟩

/-- x.append(e) -/
theorem trs_append (K : EnvOk h₀ env) {x : V} {e : Expr} {np apos cpos pos : Pos} {ds : List D} {d : D} {Post : FD → (V → Option B) → Prop} (hx : σ x = some (.ol ds)) (h : Ev nm prog w h₀ A env σ e d) (hn : ds.length ≤ 100000) (hq : Post .next (upd σ x (some (.ol (ds ++ [d])))))
    (hd : (nm x == ("__debug__" : Str)) = false := by decide)
    (hbase : attributeBase (.Name (nm x) np) "append" env (eval (.Name (nm x) np) env) = eval (.Name (nm x) np) env := by rfl)
    (hfew : ((backTo cpos (starEach [e] env)).all (fun x => !x.1) && (backToKw cpos (keywordEach [] env)).all (fun x => x.1.isSome) && decide (([e] : List Expr).length + ([] : List Keyword).length + (if ([] : List Keyword).isEmpty then 0 else 1) < 30)) = true := by rfl)
    (hline : (apos.endLine == cpos.line) = true := by rfl) (htrees : backTo cpos (starEach [e] env) = [(false, eval e env)] := by rfl)
    (hi : interactive env = false := by rfl) (hsw : swapsWith (.Call (.Attribute (.Name (nm x) np) "append" apos) [e] [] cpos) none pos.line env = pure false := by rfl) :
    TrS nm prog w h₀ os A env str (.Expr (.Call (.Attribute (.Name (nm x) np) "append" apos) [e] [] cpos) pos) σ Post := ⟨fun ow s S => by
  obtain ⟨a, ha, hr, vs, hl, hrl⟩ := S.own x _ hx rfl
  have hpl : PlainL s.heap a (List.toArray vs) := let ⟨n, e⟩ := hl; ⟨_, n, e, rfl, rfl, rfl⟩
  with_reducible refine wpAny_Expr (wpAny_Call_append hbase hfew hline htrees (wp_name K.kind hr ⟨a, _, rfl, hpl, ev_then h S.stt fun v s₁ k _ r => wp_append (str := str) K S k hx ha r hn fun s₂ S₂ t => ?_⟩ hd)) hi hsw
  exact Res.next S₂ t hq⟩
end
end Mine

-- M7
namespace Mine
open PySem PySem.Calls PyProof.Rows PySem.W

def MuI {V : Type} (env : Env) (ow : V → Option Addr) (I q : Addr) : Prop := Mu env ow q ∨ q = I
theorem Step.lift {str : Bool} {mu mu' : Addr → Prop} {s s' : Shared} (t : Step str mu mu' s s') (I : Addr) : Step str (fun q => mu q ∨ q = I) (fun q => mu' q ∨ q = I) s s' :=
  ⟨fun b o h e c => t.keep b o (fun h' => h (.inl h')) e c, t.same, t.there, fun b h => h.elim (fun h => (t.new b h).imp .inl id) fun h => .inl (.inr h)⟩
theorem Step.unlift {str : Bool} {mu mu' : Addr → Prop} {s s₂ s' : Shared} {I : Addr} (k : Keeps s s₂) (hI : s.heap.get? I = none) (t : Step str (fun q => mu q ∨ q = I) (fun q => mu' q ∨ q = I) s₂ s') : Step str mu mu' s s' := by
  refine ⟨fun b o h e c => ?_, fun hs => ?_, fun b o e => t.there b o (kp_heap k b o e), fun b h => ?_⟩
  · refine t.keep b o (fun h' => h'.elim h fun h' => ?_) (kp_heap k b o e) c
    subst h'; rw [hI] at e; cases e
  · obtain ⟨h, tk, e⟩ := t.same hs
    obtain ⟨h', tk', e', _⟩ := k
    subst e'; exact ⟨h, tk, e⟩
  · rcases t.new b (.inl h) with q | q
    · rcases q with q | q
      · exact .inl q
      · subst q; exact .inr hI
    · right
      cases e : s.heap.get? b with
      | none => rfl
      | some o => rw [kp_heap k b o e] at q; cases q

section
variable {V : Type} [DecidableEq V] {nm : V → Str} {prog : Program} {w : World} {h₀ : Heap} {os : OsState} {A : Around} {env : Env} {σ : V → Option B} {ow : V → Option Addr} {str : Bool}

theorem st_ext {s s' : Shared} (S : StO nm prog w h₀ os env ow σ s) {I : Addr} (hI : h₀.get? I = none) (hIm : ¬ Mu env ow I) (hc : ∀ o, s.heap.get? I = some o → ¬ IsData o.cls) (hx : ∀ b o, b ≠ I → s.heap.get? b = some o → s'.heap.get? b = some o)
    (hg : s'.gens = s.gens) (ho : s'.os = s.os) : StO nm prog w h₀ os env ow σ s' := by
  have mv : ∀ q o, ¬ Mu env ow q → s.heap.get? q = some o → IsData o.cls → s'.heap.get? q = some o ∧ ¬ Mu env ow q := fun q o hq e c => ⟨hx q o (fun h => by subst h; exact hc o e c) e, hq⟩
  have slot : ∀ q, Mu env ow q → q ≠ I := fun q hq h => hIm (h ▸ hq)
  have rdn : ∀ n v, RdN env s.heap n v → RdN env s'.heap n v := by
    intro n v r
    rcases r with ⟨e, m, ⟨o, es, ep, hm, r⟩, hu⟩ | ⟨e, c, hc', o, ho', hd⟩
    · exact .inl ⟨e, m, ⟨o, es, ep, hx _ _ (slot _ (.inl rfl)) hm, r⟩, hu⟩
    · exact .inr ⟨e, c, hc', o, hx _ _ (slot _ (.inr (.inl ⟨_, mem_of_lookup' hc', rfl⟩))) ho', hd⟩
  refine ⟨fun b o e c => hx b o (fun h => by subst h; rw [hI] at e; cases e) (S.up b o e c), oldk_ext S.old hI hx, fun x d h => ?_, fun x b h hb => ?_, S.inj, fun x a h => ?_, ?_, fun c hc' => ?_, by rw [hg]; exact S.bare, by rw [ho]; exact S.os⟩
  · obtain ⟨v, r, q⟩ := S.im x d h
    exact ⟨v, rdn _ _ r, Rd.move mv _ _ q⟩
  · obtain ⟨a, e, r, q⟩ := S.own x b h hb
    exact ⟨a, e, rdn _ _ r, q.move (fun o e' => hx a o (slot a (.inr (.inr ⟨x, e⟩))) e') mv⟩
  · have z := S.sep x a h
    obtain ⟨o, e⟩ := z.2.2.2
    exact ⟨z.1, z.2.1, z.2.2.1, o, hx a o (slot a (.inr (.inr ⟨x, h⟩))) e⟩
  · obtain ⟨m, o, es, ep, hm, r⟩ := S.ns
    exact ⟨m, o, es, ep, hx _ _ (slot _ (.inl rfl)) hm, r⟩
  · obtain ⟨v, o, e, hd⟩ := S.cells c hc'
    exact ⟨v, o, hx _ _ (slot _ (.inr (.inl ⟨c, hc', rfl⟩))) e, hd⟩

theorem step_ext {s s' : Shared} {I : Addr} (hx : ∀ b o, b ≠ I → s.heap.get? b = some o → s'.heap.get? b = some o) (ht : ∃ o, s'.heap.get? I = some o) (hsm : ∃ h tk, s' = { s with heap := h, toks := tk }) : Step str (MuI env ow I) (MuI env ow I) s s' := by
  refine ⟨fun b o h e _ => hx b o (fun h' => h (.inr h')) e, fun _ => hsm, fun b o e => ?_, fun b h => .inl h⟩
  by_cases h : b = I
  · subst h; exact ht
  · exact ⟨o, hx b o h e⟩

theorem mu_upd_none {x : V} {q : Addr} (h : Mu env (upd ow x none) q) : Mu env ow q := by
  rcases h with h | h | ⟨y, h⟩
  · exact .inl h
  · exact .inr (.inl h)
  · by_cases hyx : y = x
    · subst hyx; rw [upd_same] at h; cases h
    · rw [upd_ne _ _ hyx] at h; exact .inr (.inr ⟨y, h⟩)

/-- the loop behind its iterator -/
theorem for_core (K : EnvOk h₀ env) (hnm : ∀ x y, nm x = nm y → x = y) {I : Addr} {fp : List Addr} {n : Nat} {P : Nat → Value → Prop} {St : Nat → Heap → Prop} (W : Walks prog w A I fp [I] n P St)
    {ds : List D} (hlen : ds.length = n) {x : V} {p : Addr} (hp : Slot' env (nm x) p) {px : Pos} {body orelse : List Stmt} {Inv : Nat → (V → Option B) → Prop} {Post : FD → (V → Option B) → Prop}
    (turn : ∀ i d σ, ds[i]? = some d → Inv i σ → Tr nm prog w h₀ os A env str body (upd σ x (some (.im d))) fun fd σ' => match fd with | .next => Inv (i + 1) σ' | .cont => Inv (i + 1) σ' | .brk => Post .next σ' | .ret d => Post (.ret d) σ')
    (fin : ∀ σ, Inv n σ → Tr nm prog w h₀ os A env str orelse σ Post)
    {s s₂ : Shared} (k : Keeps s s₂) (S₂ : StO nm prog w h₀ os env ow σ s₂) (h0 : Inv 0 σ) (hIs : s.heap.get? I = none) (hI0 : h₀.get? I = none) (hIm : ¬ Mu env ow I)
    (hSt : ∀ i h, St i h → ∃ o, h.get? I = some o ∧ ¬ IsData o.cls ∧ o.cls ≠ .none)
    (hfp : ∀ b ∈ fp, b ≠ I → ¬ Mu env ow b ∧ ∃ o, s₂.heap.get? b = some o ∧ o.cls ≠ .none)
    (hP : ∀ i v d, P i v → ds[i]? = some d → Rd s₂.heap (Mu env ow) d v) (st0 : St 0 s₂.heap) {E : Value → Shared → Prop} :
    codeAny (model prog w) A (.forLoop (.Name (nm x) px) (.ref I) body orelse env) (fun r s' => match r with | .ok f => Res nm prog w h₀ os env str ow s Post f s' | .error e => cameBackBy (model prog w) A env E e s') s₂ := by
  -- the state between the turns
  with_reducible refine codeAny_forLoop (fun m s' => ∃ i ow' σ', m = n + 1 - i ∧ i ≤ n ∧ Inv i σ' ∧ StO nm prog w h₀ os env ow' σ' s' ∧ Step str (MuI env ow I) (MuI env ow' I) s₂ s' ∧ St i s'.heap ∧ ¬ Mu env ow' I) ?_ (n + 1) ⟨0, ow, σ, rfl, Nat.zero_le _, h0, S₂, Step.refl _ _, st0, hIm⟩ (fun _ => rfl)
  rintro m s' ⟨i, ow', σ', rfl, hi, hinv, S', t', st', hIm'⟩
  obtain ⟨oI, heI, hnd, hcn⟩ := hSt i _ st'
  by_cases hlt : i < n
  · with_reducible refine W.item i s' _ _ hlt st' fun v h₁ tk hPv st₁ hk₁ => ?_
    obtain ⟨oI₁, heI₁, hnd₁, hcn₁⟩ := hSt _ _ st₁
    have hx₁ : ∀ b o, b ≠ I → s'.heap.get? b = some o → h₁.get? b = some o := fun b o hb e => hk₁ b o (fun h => hb (List.mem_singleton.mp h)) e
    have z := st_ext (s' := { s' with heap := h₁, toks := tk }) S' hI0 hIm' (fun o e => by rw [heI] at e; cases e; exact hnd) hx₁ rfl rfl
    have t₁ := t'.trans (step_ext (str := str) (s' := { s' with heap := h₁, toks := tk }) (ow := ow') (env := env) hx₁ ⟨_, heI₁⟩ ⟨_, _, rfl⟩)
    obtain ⟨d, hd⟩ : ∃ d, ds[i]? = some d := ⟨ds[i]'(by omega), List.getElem?_eq_getElem _⟩
    have hv : Rd h₁ (Mu env ow') d v := by
      refine Rd.move (fun b o hb e c => ?_) _ _ (hP i v d hPv hd)
      have hbI : b ≠ I := fun h => by
        subst h
        obtain ⟨o₂, e₂, hn₂, _⟩ := hSt 0 _ st0
        rw [e₂] at e; cases e; exact hn₂ c
      refine ⟨t₁.keep b o (fun h => h.elim hb hbI) e (.inr c.ne), fun h => ?_⟩
      rcases t₁.new b (.inl h) with q | q
      · exact q.elim hb hbI
      · rw [q] at e; cases e
    show wpAny _ _ (assign (.Name (nm x) px) env v) _ _ _
    with_reducible refine wpAny_assign_Name (wp_store (str := str) K hnm (b := .im d) z (kp_refl _) (newb_im hv) hp fun s₃ S₃ t₃ _ => ?_)
    have hI₃ : ¬ Mu env (upd ow' x (adrOf (.im d) v)) I := fun h => hIm' (mu_upd_none (x := x) h)
    have heI₃ : s₃.heap.get? I = some oI₁ := t₃.keep I oI₁ hIm' heI₁ (.inr hcn₁)
    -- the frame of the loop's own objects, up to s₃
    have fr : ∀ q (ow'' : V → Option Addr) (s'' : Shared), Step str (MuI env ow I) (MuI env ow'' I) s₂ s'' → q ∈ fp → q ≠ I → ∀ o, s₂.heap.get? q = some o → s''.heap.get? q = some o := by
      intro q ow'' s'' tt hq hqI o e
      obtain ⟨h1, o', e', h2⟩ := hfp q hq hqI
      rw [e] at e'; cases e'
      exact tt.keep q o (fun h => h.elim h1 hqI) e (.inr h2)
    have there₂ : ∀ q ∈ fp, q ≠ I → ∃ o, s₂.heap.get? q = some o := fun q hq hqI => let ⟨_, o, e, _⟩ := hfp q hq hqI; ⟨o, e⟩
    have t₃' := t₁.trans (t₃.lift I)
    have b := turn i d σ' hd hinv
    with_reducible refine ev_mono (b.run _ s₃ S₃) ?_
    rintro f s₄ ⟨fd, ow₄, σ₄, S₄, t₄, hf, hp₄⟩
    have t₄' := t₃'.trans (t₄.lift I)
    have hI₄ : ¬ Mu env ow₄ I := fun h => by
      rcases t₄.new I h with q | q
      · exact hI₃ q
      · rw [heI₃] at q; cases q
    have heI₄ : s₄.heap.get? I = some oI₁ := t₄.keep I oI₁ hI₃ heI₃ (.inr hcn₁)
    have st₄ : St (i + 1) s₄.heap := by
      refine W.frame _ _ _ st₁ fun q hq o e => ?_
      by_cases hqI : q = I
      · subst hqI; rw [heI₁] at e; cases e; exact heI₄
      · obtain ⟨o₂, e₂⟩ := there₂ q hq hqI
        have e₁ := fr q _ _ t₁ hq hqI o₂ e₂
        rw [show (some o : Option Obj) = some o₂ from e.symm.trans e₁]
        exact fr q _ _ t₄' hq hqI o₂ e₂
    have nextTurn : Inv (i + 1) σ₄ → ∃ m, m < n + 1 - i ∧ ∃ i' ow' σ', m = n + 1 - i' ∧ i' ≤ n ∧ Inv i' σ' ∧ StO nm prog w h₀ os env ow' σ' s₄ ∧ Step str (MuI env ow I) (MuI env ow' I) s₂ s₄ ∧ St i' s₄.heap ∧ ¬ Mu env ow' I := fun h =>
      ⟨n + 1 - (i + 1), by omega, i + 1, ow₄, σ₄, rfl, hlt, h, S₄, t₄', st₄, hI₄⟩
    cases fd with
    | next => cases hf; exact nextTurn hp₄
    | cont => cases hf; exact nextTurn hp₄
    | brk => cases hf; exact ⟨.next, ow₄, σ₄, S₄, Step.unlift k hIs t₄', rfl, hp₄⟩
    | ret d' => obtain ⟨v', rfl, hv'⟩ := hf; exact ⟨.ret d', ow₄, σ₄, S₄, Step.unlift k hIs t₄', ⟨v', rfl, hv'⟩, hp₄⟩
  · have hin : i = n := by omega
    subst hin
    with_reducible refine W.done s' _ _ st' fun h₁ tk hk₁ => ?_
    have hx₁ : ∀ b o, b ≠ I → s'.heap.get? b = some o → h₁.get? b = some o := fun b o hb e => hk₁ b o (fun h => hb (List.mem_singleton.mp h)) e
    have z := st_ext (s' := { s' with heap := h₁, toks := tk }) S' hI0 hIm' (fun o e => by rw [heI] at e; cases e; exact hnd) hx₁ rfl rfl
    have t₁ := Step.unlift k hIs t'
    have t₂ : Step str (Mu env ow) (Mu env ow') s { s' with heap := h₁, toks := tk } := by
      refine ⟨fun b o h e c => hx₁ b o (fun h' => by subst h'; rw [hIs] at e; cases e) (t₁.keep b o h e c), fun hs => ?_, fun b o e => ?_, t₁.new⟩
      · obtain ⟨h, tk', e⟩ := t₁.same hs
        exact ⟨h₁, tk, by subst e; rfl⟩
      obtain ⟨o', e'⟩ := t₁.there b o e
      exact ⟨o', hx₁ b o' (fun h' => by subst h'; rw [hIs] at e; cases e) e'⟩
    show wpAny _ _ (execs orelse env) _ _ _
    with_reducible refine ev_mono ((fin σ' hinv).run _ _ z) ?_
    intro f s'' q
    exact q.after t₂

theorem fresh_none {s : Shared} : s.heap.get? s.heap.objs.size = none := by
  cases e : s.heap.get? s.heap.objs.size with
  | none => rfl
  | some o => exact absurd (Heap.lt_size e) (Nat.lt_irrefl _)

end
end Mine

-- M8
namespace Mine
open PySem PySem.Calls PyProof.Rows PySem.W

def FlatD : D → Prop
  | .int _ => True
  | .str _ => True
  | .bool _ => True
  | .none => True
  | _ => False
theorem FlatD.rd {d : D} (f : FlatD d) {h h' : Heap} {mu mu' : Addr → Prop} {v : Value} (x : Rd h mu d v) : Rd h' mu' d v := by
  cases d with
  | int i => exact rd_int.mpr (rd_int.mp x)
  | str i => exact rd_str.mpr (rd_str.mp x)
  | bool i => exact rd_bool.mpr (rd_bool.mp x)
  | none => exact rd_none.mpr (rd_none.mp x)
  | list _ => exact f.elim
  | tup _ => exact f.elim
  | ws _ _ _ _ => exact f.elim
  | inst _ _ _ _ _ => exact f.elim
theorem flat_rdl : ∀ {ds : List D} {vs : List Value}, (∀ d ∈ ds, FlatD d) → ∀ {h h' : Heap} {mu mu' : Addr → Prop}, RdL h mu ds vs → RdL h' mu' ds vs
  | [], _, _, _, _, _, _, x => rdl_nil.mpr (rdl_nil.mp x)
  | d :: ds, _, f, _, _, _, _, x => by
    obtain ⟨v, vs', e, hd, hl⟩ := rdl_cons.mp x
    exact rdl_cons.mpr ⟨v, vs', e, (f d (.head _)).rd hd, flat_rdl (fun d hd => f d (.tail _ hd)) hl⟩

section
variable {V : Type} [DecidableEq V] {nm : V → Str} {prog : Program} {w : World} {h₀ : Heap} {os : OsState} {A : Around} {env : Env} {σ : V → Option B} {ow : V → Option Addr} {str : Bool}

theorem wf {α : Type} {t : Sem α} {s : Shared} {Q : α → Shared → Prop} {E : Value → Shared → Prop} (h : wpAny (model prog w) A t Q (fun _ _ => False) s) : wpAny (model prog w) A t Q E s := by
  with_reducible exact wpAny_mono h (fun _ _ q => q) fun _ _ f => f.elim

def testsOf (ifs : List Expr) (env : Env) : Sem Bool := forIn ifs true fun c r => if r = true then do let ok ← isTrue c env (eval c env); pure (ForInStep.yield ok) else pure (ForInStep.yield r)
/-- a comprehension's turns, whatever its target -/
theorem comp_loop {elt target iter : Expr} {ifs : List Expr} {scope : Scope} {pos : Pos} {it acc : Value} {R : Result → Shared → Prop} (I : Nat → Shared → Prop)
    (turn : ∀ n s, I n s → wpAny (model prog w) A (pyNext it) (fun r s₁ => match r with
      | none => R (.ok .next) s₁
      | some v => wpAny (model prog w) A (letOwnedTupleGo target it v) (fun _ s₀ => wpAny (model prog w) A (assign target env v) (fun _ s₂ => wpAny (model prog w) A (testsOf ifs env) (fun ok s₃ =>
          if ok = true then wpAny (model prog w) A (eval elt env) (fun x s₄ => wpAny (model prog w) A (call (.builtin "list.append") [acc, x]) (fun _ s₅ => ∃ m, m < n ∧ I m s₅) (fun _ _ => False) s₄) (fun _ _ => False) s₃
          else ∃ m, m < n ∧ I m s₃) (fun _ _ => False) s₂) (fun _ _ => False) s₀) (fun _ _ => False) s₁) (fun _ _ => False) s)
    (n : Nat) {s : Shared} (h : I n s) : codeAny (model prog w) A (.compLoop (.ListComp elt [⟨target, iter, ifs, 0⟩] scope pos) 0 it acc env) R s := by
  refine codeAny_loop rfl I (fun n s hI => ?_) n h
  show wpAny _ A ((compTurn (.ListComp elt [⟨target, iter, ifs, 0⟩] scope pos) 0 it acc env).onRaise (fun x => do noteFrame x env; theTreesLotGoes x)) _ _ s
  refine wpAny_noted ?_
  rw [compTurn_list]
  refine wpAny_bind (wpAny_standAt (wpAny_bind (ev_mono (turn n s hI) fun r s₁ h₁ => ?_)))
  cases r with
  | none => exact wpAny_pure h₁
  | some v =>
    refine wpAny_bind (ev_mono h₁ fun _ s₂ h₂ => wpAny_bind (ev_mono h₂ fun _ s₃ h₃ => wpAny_bind (ev_mono h₃ fun ok s₄ h₄ => ?_)))
    cases ok with
    | true => 
      exact wpAny_bind (wpAny_bind (ev_mono h₄ fun x s₅ h₅ => wpAny_bind (ev_mono h₅ fun _ s₆ h₆ => wpAny_pure (wpAny_pure ⟨rfl, h₆⟩))))
    | false => exact wpAny_bind (wpAny_pure (wpAny_pure ⟨rfl, h₄⟩))

theorem st_off {s s₂ : Shared} {x : V} {a : Addr} (S : StO nm prog w h₀ os env ow σ s) (ha : ow x = some a) (hx : σ x = none) (hs : Heap.SameBut a s.heap s₂.heap) (ht : ∃ o, s₂.heap.get? a = some o) (hsm : ∃ h tk, s₂ = { s with heap := h, toks := tk }) :
    StO nm prog w h₀ os env ow σ s₂ ∧ Step str (Mu env ow) (Mu env ow) s s₂ := by
  have ham : Mu env ow a := .inr (.inr ⟨x, ha⟩)
  have sx := S.sep x a ha
  have at' : ∀ q o, q ≠ a → s.heap.get? q = some o → s₂.heap.get? q = some o := fun q o hq e => (hs.2 q hq).trans e
  have mv : ∀ q o, ¬ Mu env ow q → s.heap.get? q = some o → IsData o.cls → s₂.heap.get? q = some o ∧ ¬ Mu env ow q := fun q o hq e _ => ⟨at' q o (fun h => hq (h ▸ ham)) e, hq⟩
  have there : ∀ q o, s.heap.get? q = some o → ∃ o', s₂.heap.get? q = some o' := by
    intro q o e
    by_cases hq : q = a
    · subst hq; exact ht
    · exact ⟨o, at' q o hq e⟩
  have nm' : ∀ y u, RdN env s.heap (nm y) u → RdN env s₂.heap (nm y) u := by
    intro y u r
    rcases r with ⟨e, m, hm, hu⟩ | ⟨e, c, hc, ho⟩
    · exact .inl ⟨e, m, hm.sameBut hs (fun h => sx.1 h.symm), hu⟩
    · exact .inr ⟨e, c, hc, ho.sameBut hs (fun h => sx.2.1 _ (mem_of_lookup' hc) h.symm)⟩
  refine ⟨⟨?_, ?_, ?_, ?_, S.inj, ?_, ?_, ?_, by obtain ⟨h, tk, e⟩ := hsm; rw [e]; exact S.bare, by obtain ⟨h, tk, e⟩ := hsm; rw [e]; exact S.os⟩, ⟨fun q o hq e c => at' q o (fun h => hq (h ▸ ham)) e, fun _ => hsm, there, fun q h => .inl h⟩⟩
  · intro q o e c
    exact at' q o (fun h => by subst h; rw [sx.2.2.1] at e; cases e) (S.up q o e c)
  · exact oldk_step S.old sx.2.2.1 hs
  · intro y d hy
    obtain ⟨u, hu, hd⟩ := S.im y d hy
    exact ⟨u, nm' y u hu, Rd.move mv _ _ hd⟩
  · intro y b hy ho'
    obtain ⟨a', ha', hu, hO⟩ := S.own y b hy ho'
    exact ⟨a', ha', nm' _ _ hu, hO.move (fun o e => at' a' o (fun h => by
      have := S.inj y x a (h ▸ ha') ha
      subst this; rw [hx] at hy; cases hy) e) mv⟩
  · intro y a' hy
    have q := S.sep y a' hy
    obtain ⟨o, e⟩ := q.2.2.2
    exact ⟨q.1, q.2.1, q.2.2.1, there a' o e⟩
  · obtain ⟨m, hn⟩ := S.ns
    exact ⟨m, hn.sameBut hs (fun h => sx.1 h.symm)⟩
  · intro c hc
    obtain ⟨v, e⟩ := S.cells c hc
    exact ⟨v, e.sameBut hs (fun h => sx.2.1 c hc h.symm)⟩

structure TstL (nm : V → Str) (prog : Program) (w : World) (h₀ : Heap) (A : Around) (env : Env) (σ : V → Option B) (ifs : List Expr) (b : Bool) : Prop where
  run : ∀ s mu, Stt nm prog w h₀ env σ mu s → wpAny (model prog w) A (testsOf ifs env) (fun r s' => Keeps s s' ∧ r = b) (fun _ _ => False) s
theorem tstl_nil : TstL nm prog w h₀ A env σ [] true := ⟨fun s mu _ => by
  show wpAny _ _ (pure true) _ _ _
  with_reducible exact wpAny_pure (And.intro (kp_refl s) rfl)⟩
theorem tstl_one {c : Expr} {b : Bool} (h : Tst nm prog w h₀ A env σ c b) : TstL nm prog w h₀ A env σ [c] b := ⟨fun s mu S => by
  unfold testsOf
  with_reducible exact wpAny_tests_one (h.run s mu S)⟩

/-- the turns of a comprehension whose items are flat; env is the comprehension's own -/
theorem comp_core {elt target iter : Expr} {ifs : List Expr} {scope : Scope} {pos : Pos} {R : Result → Shared → Prop} {I D₁ : Addr} {fp : List Addr} {n : Nat} {P : Nat → Value → Prop} {St : Nat → Heap → Prop} (W : Walks prog w A I fp [I] n P St)
    {ds : List D} (hlen : ds.length = n) (hn : n ≤ 100000) {Y : Addr → Prop} (hYI : ¬ Y I) (hYD : ¬ Y D₁) (hID : I ≠ D₁) {x0 : V} (Bs : (V → Option B) → Prop) (Tg : D → (V → Option B) → Prop) (pz : D → Bool) (f : D → D)
    (hTB : ∀ d σ, Tg d σ → Bs σ) (hff : ∀ d, FlatD (f d))
    (asg : ∀ i d v ow' σ' s' (Q : Unit → Shared → Prop), ds[i]? = some d → P i v → St (i + 1) s'.heap → Bs σ' → ow' x0 = some D₁ → σ' x0 = none → StO nm prog w h₀ os env ow' σ' s' → Rd s'.heap (Mu env ow') d v →
      (∀ s'' ow'' σ'', StO nm prog w h₀ os env ow'' σ'' s'' → Step str (Mu env ow') (Mu env ow'') s' s'' → KeepsX Y s' s'' → ow'' x0 = some D₁ → σ'' x0 = none → Tg d σ'' → Q () s'') →
      wpAny (model prog w) A (letOwnedTupleGo target (.ref I) v) (fun _ s₀ => wpAny (model prog w) A (assign target env v) Q (fun _ _ => False) s₀) (fun _ _ => False) s')
    (tst : ∀ (i : Nat) d σ', ds[i]? = some d → Tg d σ' → TstL nm prog w h₀ A env σ' ifs (pz d)) (hel : ∀ (i : Nat) d σ', ds[i]? = some d → Tg d σ' → pz d = true → Ev nm prog w h₀ A env σ' elt (f d))
    {s₄ : Shared} (S₄ : StO nm prog w h₀ os env ow σ s₄) (hBs : Bs σ) (how : ow x0 = some D₁) (hx0 : σ x0 = none) (hI0 : h₀.get? I = none) (hIm : ¬ Mu env ow I)
    (hSt : ∀ i h, St i h → ∃ o, h.get? I = some o ∧ ¬ IsData o.cls ∧ o.cls ≠ .none)
    (hfp : ∀ b ∈ fp, b ≠ I → ¬ Mu env ow b ∧ ∃ o, s₄.heap.get? b = some o ∧ o.cls ≠ .none)
    (hP : ∀ i v d, P i v → ds[i]? = some d → Rd s₄.heap (Mu env ow) d v) (st0 : St 0 s₄.heap) (hD0 : s₄.heap.PlainList D₁ #[])
    (hR : ∀ s' ow' σ' ys, StO nm prog w h₀ os env ow' σ' s' → KeepsX (fun q => Y q ∨ q = D₁ ∨ q = I) s₄ s' → s'.heap.PlainList D₁ (List.toArray ys) → (∀ mu, RdL s'.heap mu ((ds.filter pz).map f) ys) → R (.ok .next) s') :
    codeAny (model prog w) A (.compLoop (.ListComp elt [⟨target, iter, ifs, 0⟩] scope pos) 0 (.ref I) (.ref D₁) env) R s₄ := by
  have flatAll : ∀ l : List D, ∀ d ∈ l.map f, FlatD d := fun l d hd => by obtain ⟨e, _, rfl⟩ := List.mem_map.mp hd; exact hff e
  with_reducible refine comp_loop (fun m s' => ∃ i ow' σ' ys, m = n + 1 - i ∧ i ≤ n ∧ Bs σ' ∧ StO nm prog w h₀ os env ow' σ' s' ∧ ow' x0 = some D₁ ∧ σ' x0 = none ∧ Step str (MuI env ow I) (MuI env ow' I) s₄ s' ∧ St i s'.heap ∧ ¬ Mu env ow' I ∧ KeepsX (fun q => Y q ∨ q = D₁ ∨ q = I) s₄ s' ∧ s'.heap.PlainList D₁ (List.toArray ys) ∧ ∀ mu, RdL s'.heap mu (((ds.take i).filter pz).map f) ys) ?_ (n + 1) ⟨0, ow, σ, [], rfl, Nat.zero_le _, hBs, S₄, how, hx0, Step.refl _ _, st0, hIm, kx_refl _ _, hD0, fun _ => by simpa using rdl_nil'⟩
  rintro m s' ⟨i, ow', σ', ys, rfl, hi, hinv, S', how', hx0', t', st', hIm', kx', hD', hr'⟩
  obtain ⟨oI, heI, hnd, hcn⟩ := hSt i _ st'
  by_cases hlt : i < n
  · with_reducible refine W.item i s' _ _ hlt st' fun v h₁ tk hPv st₁ hk₁ => ?_
    obtain ⟨oI₁, heI₁, hnd₁, hcn₁⟩ := hSt _ _ st₁
    have hx₁ : ∀ b o, b ≠ I → s'.heap.get? b = some o → h₁.get? b = some o := fun b o hb e => hk₁ b o (fun h => hb (List.mem_singleton.mp h)) e
    have z := st_ext (s' := { s' with heap := h₁, toks := tk }) S' hI0 hIm' (fun o e => by rw [heI] at e; cases e; exact hnd) hx₁ rfl rfl
    have t₁ := t'.trans (step_ext (str := str) (s' := { s' with heap := h₁, toks := tk }) (ow := ow') (env := env) hx₁ ⟨_, heI₁⟩ ⟨_, _, rfl⟩)
    have kx₁ : KeepsX (fun q => Y q ∨ q = D₁ ∨ q = I) s₄ { s' with heap := h₁, toks := tk } := kx_trans kx' ⟨h₁, tk, rfl, fun b o hb e => hx₁ b o (fun h => hb (.inr (.inr h))) e⟩
    obtain ⟨d, hd⟩ : ∃ d, ds[i]? = some d := ⟨ds[i]'(by omega), List.getElem?_eq_getElem _⟩
    have hv : Rd h₁ (Mu env ow') d v := by
      refine Rd.move (fun b o hb e c => ?_) _ _ (hP i v d hPv hd)
      have hbI : b ≠ I := fun h => by
        subst h
        obtain ⟨o₂, e₂, hn₂, _⟩ := hSt 0 _ st0
        rw [e₂] at e; cases e; exact hn₂ c
      refine ⟨t₁.keep b o (fun h => h.elim hb hbI) e (.inr c.ne), fun h => ?_⟩
      rcases t₁.new b (.inl h) with q | q
      · exact q.elim hb hbI
      · rw [q] at e; cases e
    have hD₁' : h₁.PlainList D₁ (List.toArray ys) := hD'.at fun o e => hx₁ _ o (Ne.symm hID) e
    refine asg i d v ow' σ' { s' with heap := h₁, toks := tk } _ hd hPv st₁ hinv how' hx0' z hv fun s₃ ow₃ σ₃ S₃ t₃ k₃ how₃ hx₃ tg₃ => ?_
    have hI₃ : ¬ Mu env ow₃ I := fun h => by
      rcases t₃.new I h with q | q
      · exact hIm' q
      · rw [show h₁.get? I = none from q] at heI₁; cases heI₁
    have heI₃ : s₃.heap.get? I = some oI₁ := t₃.keep I oI₁ hIm' heI₁ (.inr hcn₁)
    have hD₃ : s₃.heap.PlainList D₁ (List.toArray ys) := hD₁'.at fun o e => kx_heap k₃ _ o hYD e
    have t₃' := t₁.trans (t₃.lift I)
    have kx₃ := kx_trans kx₁ (kx_mono k₃ fun q h => .inl h)
    with_reducible refine ev_mono ((tst i d σ₃ hd tg₃).run s₃ _ S₃.stt) ?_
    rintro ok s₄' ⟨k₄, rfl⟩
    have z₄ := st_keeps (str := str) S₃ k₄
    have t₄' := t₃'.trans (z₄.2.lift I)
    have kx₄ := kx_trans kx₃ (kx_of (X := fun q => Y q ∨ q = D₁ ∨ q = I) k₄)
    have stF : ∀ (s'' : Shared) (ow'' : V → Option Addr), Step str (MuI env ow I) (MuI env ow'' I) s₄ s'' → s''.heap.get? I = some oI₁ → St (i + 1) s''.heap := by
      intro s'' ow'' tt eI
      refine W.frame _ _ _ st₁ fun q hq o e => ?_
      by_cases hqI : q = I
      · subst hqI; rw [heI₁] at e; cases e; exact eI
      · obtain ⟨h1, o₂, e₂, h2⟩ := hfp q hq hqI
        have e₁ := t₁.keep q o₂ (fun h => h.elim h1 hqI) e₂ (.inr h2)
        rw [show (some o : Option Obj) = some o₂ from e.symm.trans e₁]
        exact tt.keep q o₂ (fun h => h.elim h1 hqI) e₂ (.inr h2)
    have tk1 : (ds.take (i + 1)).filter pz = (ds.take i).filter pz ++ (if pz d then [d] else []) := by
      rw [List.take_add_one, hd, List.filter_append]
      congr 1
      cases h : pz d <;> simp [h]
    cases hpz : pz d with
    | false =>
      show ∃ m, _
      refine ⟨n + 1 - (i + 1), by omega, i + 1, ow₃, σ₃, ys, rfl, hlt, hTB d _ tg₃, z₄.1, how₃, hx₃, t₄', stF _ _ t₄' (kp_heap k₄ _ _ heI₃), hI₃, kx₄, hD₃.at fun o e => kp_heap k₄ _ o e, fun mu => ?_⟩
      rw [tk1, hpz]
      simp only [Bool.false_eq_true, if_false, List.append_nil]
      exact flat_rdl (flatAll _) (hr' mu)
    | true =>
      show wpAny _ _ (eval elt env) _ _ _
      with_reducible refine ev_then (hel i d σ₃ hd tg₃ hpz) z₄.1.stt fun y s₅ k₅ _ r₅ => ?_
      have z₅ := st_keeps (str := str) z₄.1 k₅
      have hD₅ : s₅.heap.PlainList D₁ (List.toArray ys) := hD₃.at fun o e => kp_heap k₅ _ o (kp_heap k₄ _ o e)
      have hlenys : ys.length ≤ n := by
        have h1 := (hr' (fun _ => False)).length
        rw [h1, List.length_map]
        exact Nat.le_trans (List.length_filter_le _ _) (by rw [List.length_take]; omega)
      with_reducible refine wpAny_list_append_plain hD₅ (fun h₆ hl₆ hs₆ => ?_) (by rw [List.size_toArray, sizeLine_eq]; omega)
      have z₆ := st_off (str := str) (s₂ := { s₅ with heap := h₆ }) z₅.1 how₃ hx₃ hs₆ (let ⟨n, e⟩ := hl₆; ⟨_, e⟩) ⟨_, _, rfl⟩
      have t₆' := (t₄'.trans (z₅.2.lift I)).trans (z₆.2.lift I)
      have kx₆ : KeepsX (fun q => Y q ∨ q = D₁ ∨ q = I) s₄ { s₅ with heap := h₆ } := kx_trans (kx_trans kx₄ (kx_of k₅)) ⟨h₆, s₅.toks, rfl, fun b o hb e => (hs₆.2 b fun h => hb (.inr (.inl h))).trans e⟩
      have heI₆ : h₆.get? I = some oI₁ := (hs₆.2 I hID).trans (kp_heap k₅ _ _ (kp_heap k₄ _ _ heI₃))
      refine ⟨n + 1 - (i + 1), by omega, i + 1, ow₃, σ₃, ys ++ [y], rfl, hlt, hTB d _ tg₃, z₆.1, how₃, hx₃, t₆', stF _ _ t₆' heI₆, hI₃, kx₆, by simpa using hl₆, fun mu => ?_⟩
      rw [tk1, hpz]
      simp only [if_true, List.map_append, List.map_cons, List.map_nil]
      exact (flat_rdl (flatAll _) (hr' mu)).snoc ((hff d).rd r₅)
  · have hin : i = n := by omega
    subst hin
    with_reducible refine W.done s' _ _ st' fun h₁ tk hk₁ => ?_
    have hx₁ : ∀ b o, b ≠ I → s'.heap.get? b = some o → h₁.get? b = some o := fun b o hb e => hk₁ b o (fun h => hb (List.mem_singleton.mp h)) e
    have z := st_ext (s' := { s' with heap := h₁, toks := tk }) S' hI0 hIm' (fun o e => by rw [heI] at e; cases e; exact hnd) hx₁ rfl rfl
    refine hR _ ow' σ' ys z (kx_trans kx' ⟨h₁, tk, rfl, fun b o hb e => hx₁ b o (fun h => hb (.inr (.inr h))) e⟩) (hD'.at fun o e => hx₁ _ o (Ne.symm hID) e) fun mu => ?_
    have := hr' mu
    rw [List.take_of_length_le (by omega)] at this
    exact flat_rdl (flatAll _) this
end
end Mine

-- M9
namespace Mine
open PySem PySem.Calls PyProof.Rows PySem.W

theorem notData_ri : ¬ IsData (.type "range_iterator") := by
  rintro (q | q | q | ⟨_, q⟩)
  · revert q; decide
  · revert q; decide
  · revert q; decide
  · exact nomatch q
theorem notData_li : ¬ IsData (.type "list_iterator") := by
  rintro (q | q | q | ⟨_, q⟩)
  · revert q; decide
  · revert q; decide
  · revert q; decide
  · exact nomatch q
/-- an iterator at I over ds, made on the way from s to s₂ -/
def SrcP (prog : Program) (w : World) (A : Around) (s : Shared) (mu : Addr → Prop) (tl : Bool) (ds : List D) (it : Value) (s₂ : Shared) : Prop :=
  ∃ I fp n P St, it = .ref I ∧ Keeps s s₂ ∧ Walks prog w A I fp [I] n P St ∧ ds.length = n ∧ n ≤ 100000 ∧ s.heap.get? I = none ∧ (∀ i h, St i h → ∃ o, h.get? I = some o ∧ ¬ IsData o.cls ∧ o.cls ≠ .none) ∧
    (∀ b ∈ fp, b ≠ I → ¬ mu b ∧ ∃ o, s₂.heap.get? b = some o ∧ o.cls ≠ .none) ∧ (∀ i v d, P i v → ds[i]? = some d → Rd s₂.heap mu d v) ∧ St 0 s₂.heap ∧
    (tl = true → ∀ i (s : Shared), St i s.heap → ∀ (x1 : Nat) (elts : List Expr) (pos : Pos) (T : Addr) (Q : Unit → Shared → Prop), Q () s → wpAny (model prog w) A (letOwnedTupleGo (.Tuple elts x1 pos) (.ref I) (.ref T)) Q (fun _ _ => False) s)

section
variable {V : Type} [DecidableEq V] (nm : V → Str) (prog : Program) (w : World) (h₀ : Heap) (A : Around) (env : Env) (σ : V → Option B)
structure Src (tl : Bool) (it : Expr) (ds : List D) : Prop where
  run : ∀ s mu, Stt nm prog w h₀ env σ mu s → wpAny (model prog w) A (eval it env) (fun xv s₁ => wpAny (model prog w) A (pyIter xv) (fun i s₂ => SrcP prog w A s mu tl ds i s₂) (fun _ _ => False) s₁) (fun _ _ => False) s
end
section
variable {V : Type} [DecidableEq V] {nm : V → Str} {prog : Program} {w : World} {h₀ : Heap} {os : OsState} {A : Around} {env : Env} {σ : V → Option B} {ow : V → Option Addr} {str : Bool}

theorem fresh_old {s s₁ : Shared} (k : Keeps s s₁) : s.heap.get? s₁.heap.objs.size = none := by
  cases e : s.heap.get? s₁.heap.objs.size with
  | none => rfl
  | some o => exact absurd (Heap.lt_size (kp_heap k _ _ e)) (Nat.lt_irrefl _)

theorem src_list {it : Expr} {ds : List D} (hA : A.handled = none) (hit : Ev nm prog w h₀ A env σ it (.list ds)) (hn : ds.length ≤ 100000) : Src nm prog w h₀ A env σ true it ds := ⟨fun s mu S => by
  with_reducible refine ev_then hit S fun v s₁ k S₁ r => ?_
  obtain ⟨a, vs, rfl, ham, hl, hr⟩ := rd_list.mp r
  with_reducible refine wpAny_pyIter_list hl ?_
  have hlen := hr.length
  obtain ⟨oa, hoa, hca, hda⟩ := id hl
  have hne : a ≠ s₁.heap.objs.size := Nat.ne_of_lt (Heap.lt_size hoa)
  have hl₂ : (s₁.heap.push { cls := .type "list_iterator", data := .fields #[.ref a, .int 0 0] }).IsList a (List.toArray vs) := hl.push _
  refine ⟨s₁.heap.objs.size, _, _, _, _, rfl, kp_trans k (kp_push s₁ _), Walks.list hA s₁.heap.objs.size a hne (List.toArray vs), by rw [List.size_toArray, hlen], by rw [List.size_toArray, hlen]; exact hn, fresh_old k, ?_, ?_, ?_, ⟨⟨_, Heap.get?_push_size _ rfl, rfl, rfl⟩, hl₂⟩, ?_⟩
  · rintro i h ⟨⟨o, e, hc, _⟩, _⟩
    refine ⟨o, e, ?_, by rw [hc]; exact fun q => nomatch q⟩
    rw [hc]; exact notData_li
  · intro b hb hbI
    have hba : b = a := by
      rcases List.mem_cons.mp hb with h | h
      · exact absurd h hbI
      · exact List.mem_singleton.mp h
    subst hba
    exact ⟨ham, oa, Heap.get?_push_of_some _ hoa, by rw [hca]; exact fun q => nomatch q⟩
  · intro i v d hv hd
    obtain ⟨u, hu, ru⟩ := rd_get (hr.keeps fun b o e => Heap.get?_push_of_some _ e) hd
    rw [hv] at hu; cases hu
    exact ru
  · intro _ i s' st x1 elts pos T Q hq
    with_reducible exact wpAny_letOwnedTupleGo_listiter st.1 hq⟩

/-- the ints from a on -/
def upFrom (a : Int) (n : Nat) : List D := (List.range n).map fun (i : Nat) => D.int (a + i)
theorem upFrom_len (a : Int) (n : Nat) : (upFrom a n).length = n := by simp [upFrom]
theorem upFrom_get {a : Int} {n i : Nat} {d : D} (h : (upFrom a n)[i]? = some d) : i < n ∧ d = .int (a + i) := by
  unfold upFrom at h
  rw [List.getElem?_map] at h
  cases e : (List.range n)[i]? with
  | none => rw [e] at h; cases h
  | some j =>
    rw [e] at h
    obtain ⟨h1, h2⟩ := List.getElem?_eq_some_iff.mp e
    rw [List.getElem_range] at h2
    subst h2
    simp at h1
    cases h
    exact ⟨h1, rfl⟩
theorem src_rangeP {it : Expr} {a b : Int} {n : Nat} (hA : A.handled = none) (hit : EvP nm prog w h₀ A env σ it fun h _ v => ∃ r t u z, v = .ref r ∧ IsRange h r a b 1 t u z) (ha : -(2 ^ 62) ≤ a) (ha' : a < 2 ^ 62) (hb : -(2 ^ 62) ≤ b) (hb' : b < 2 ^ 62)
    (hn : (n : Int) = if a < b then b - a else 0) (hn' : n ≤ 100000) : Src nm prog w h₀ A env σ false it (upFrom a n) := ⟨fun s mu S => by
  with_reducible refine ev_then hit S fun v s₁ k S₁ r => ?_
  obtain ⟨r, t, u, z, rfl, hr⟩ := r
  with_reducible refine wpAny_pyIter_range hr (small_one ha ha' hb hb') ?_
  have hsz : Builtin.Range.rangeSize a b 1 = (n : Int) := by rw [rangeSize_one, hn]
  refine ⟨s₁.heap.objs.size, _, n, _, _, rfl, kp_trans k (kp_push s₁ _), LCg.range_walks hA a n, upFrom_len a n, hn', fresh_old k, ?_, ?_, ?_, ?_, ?_⟩
  · intro i h st
    exact ⟨_, st, notData_ri, fun q => nomatch q⟩
  · intro b hb hbI
    exact absurd (List.mem_singleton.mp hb) hbI
  · rintro i v d ⟨t, rfl⟩ hd
    rw [(upFrom_get hd).2]
    exact rd_int.mpr ⟨_, rfl⟩
  · show IsRangeIter _ _ _ _ _
    rw [hsz]
    simpa using Heap.get?_push_size _ rfl
  · intro h
    cases h⟩

/-- for x in e -/
theorem trs_for (K : EnvOk h₀ env) (hnm : ∀ x y, nm x = nm y → x = y) {x : V} {p : Addr} {tl : Bool} {it : Expr} {ds : List D} {px pos : Pos} {body orelse : List Stmt} {Post : FD → (V → Option B) → Prop} (hp : Slot' env (nm x) p) (hit : Src nm prog w h₀ A env σ tl it ds)
    (Inv : Nat → (V → Option B) → Prop) (h0 : Inv 0 σ)
    (turn : ∀ i d σ, ds[i]? = some d → Inv i σ → Tr nm prog w h₀ os A env str body (upd σ x (some (.im d))) fun fd σ' => match fd with | .next => Inv (i + 1) σ' | .cont => Inv (i + 1) σ' | .brk => Post .next σ' | .ret d => Post (.ret d) σ')
    (fin : ∀ σ, Inv ds.length σ → Tr nm prog w h₀ os A env str orelse σ Post) (hs : ∀ x, foldedSetIterable it env x = pure x := by intro _; rfl) : TrS nm prog w h₀ os A env str (.For (.Name (nm x) px) it body orelse pos) σ Post := ⟨fun ow s S => by
  with_reducible refine wpAny_For (ev_mono (hit.run s _ S.stt) fun v s₁ h₁ => wf (ev_mono h₁ ?_)) hs
  rintro it' s₂ ⟨I, fp, n, P, St, rfl, k₂, W, hlen, hn, hIs, hSt, hfp, hP, st0, _⟩
  subst hlen
  have S₂ := (st_keeps (str := str) S k₂).1
  refine for_core K hnm W rfl hp (turn := turn) fin k₂ S₂ h0 hIs ?_ ?_ hSt hfp hP st0
  · cases e : h₀.get? I with
    | none => rfl
    | some o => obtain ⟨o', e'⟩ := S.old.there _ _ e; rw [hIs] at e'; cases e'
  · intro h
    obtain ⟨o, e⟩ := S.stt.lt I h
    rw [hIs] at e; cases e⟩
end
end Mine

-- M10
namespace Mine
open PySem PySem.Calls PyProof.Rows PySem.W

section
variable {V : Type} [DecidableEq V] {nm : V → Str} {prog : Program} {w : World} {h₀ : Heap} {A : Around} {env : Env} {σ : V → Option B}

theorem Stt.sub {σ' : V → Option B} {mu : Addr → Prop} {s : Shared} (S : Stt nm prog w h₀ env σ' mu s) (h : ∀ y b, σ y = some b → σ' y = some b) : Stt nm prog w h₀ env σ mu s :=
  ⟨S.up, S.lt, fun y b hy => S.vw y b (h y b hy), S.old, S.cells, S.bare⟩
theorem EvP.sub {σ' : V → Option B} {e : Expr} {P : Heap → (Addr → Prop) → Value → Prop} (x : EvP nm prog w h₀ A env σ e P) (h : ∀ y b, σ y = some b → σ' y = some b) : EvP nm prog w h₀ A env σ' e P := ⟨fun s mu S => x.run s mu (S.sub h)⟩
theorem TstL.sub {σ' : V → Option B} {ifs : List Expr} {b : Bool} (x : TstL nm prog w h₀ A env σ ifs b) (h : ∀ y b, σ y = some b → σ' y = some b) : TstL nm prog w h₀ A env σ' ifs b := ⟨fun s mu S => x.run s mu (S.sub h)⟩

/-- what a comprehension's frame sees of the frame around it: cl its cells, σ₀ their data -/
structure Cap (nm : V → Str) (env : Env) (σ : V → Option B) (scope : Scope) (cl : List (Str × Addr)) (σ₀ : V → Option B) : Prop where
  kind : scope.kind = .function
  names : ∀ x ∈ scope.names, x.2 = .local → scope.names.lookup x.1 = some .local
  nocell : ∀ x ∈ scope.names, x.2 ≠ .cell
  clos : closureFor scope env = pure cl
  sub : ∀ c ∈ cl, c ∈ env.cells
  look : ∀ n c, cl.lookup n = some c → env.cells.lookup n = some c
  cap : ∀ y b, σ₀ y = some b → ∃ d, b = .im d ∧ σ y = some (.im d) ∧ env.kindOf (nm y) = some .cell ∧ (compEnvC scope cl 0 env).kindOf (nm y) = some .cell ∧ ∃ c, cl.lookup (nm y) = some c

theorem Cap.envok {scope : Scope} {cl : List (Str × Addr)} {σ₀ : V → Option B} (c : Cap nm env σ scope cl σ₀) (K : EnvOk h₀ env) {C : Addr} (hC0 : h₀.get? C = none) (hCc : ∀ c ∈ env.cells, c.2 ≠ C) : EnvOk h₀ (compEnvC scope cl C env) where
  kind := c.kind
  globals := K.globals
  builtins := K.builtins
  locNew := hC0
  cellNew := fun q hq => K.cellNew q (c.sub q hq)
  cellNe := fun q hq => hCc q (c.sub q hq)
  cellInj := fun x y a hx hy => K.cellInj x y a (c.look x a hx) (c.look y a hy)

theorem none_of_old {s : Shared} {a : Addr} (h : OldK h₀ s.heap) (e : s.heap.get? a = none) : h₀.get? a = none := by
  cases e' : h₀.get? a with
  | none => rfl
  | some o => obtain ⟨o', e''⟩ := h.there _ _ e'; rw [e] at e''; cases e''

theorem comp_run (hA : A.handled = none) (K : EnvOk h₀ env) {elt target iter : Expr} {ifs : List Expr} {scope : Scope} {pos : Pos} {cl : List (Str × Addr)} {σ₀ : V → Option B} (c : Cap nm env σ scope cl σ₀) {tl : Bool} {ds : List D} {x0 : V} (hx0 : σ₀ x0 = none)
    (Bs : (V → Option B) → Prop) (Tg : D → (V → Option B) → Prop) (pz : D → Bool) (f : D → D) (hTB : ∀ d σ, Tg d σ → Bs σ) (hff : ∀ d, FlatD (f d)) (hBs : Bs σ₀)
    (asg : ∀ C I D₁, EnvOk h₀ (compEnvC scope cl C env) → ∀ d v (ow' : V → Option Addr) σ' s' (Q : Unit → Shared → Prop), d ∈ ds → (tl = true → ∀ (x1 : Nat) (elts : List Expr) (pos : Pos) (T : Addr) (Q : Unit → Shared → Prop), Q () s' → wpAny (model prog w) A (letOwnedTupleGo (.Tuple elts x1 pos) (.ref I) (.ref T)) Q (fun _ _ => False) s') → Bs σ' → ow' x0 = some D₁ → σ' x0 = none →
      StO nm prog w h₀ s'.os (compEnvC scope cl C env) ow' σ' s' → Rd s'.heap (Mu (compEnvC scope cl C env) ow') d v →
      (∀ s'' ow'' σ'', StO nm prog w h₀ s'.os (compEnvC scope cl C env) ow'' σ'' s'' → Step true (Mu (compEnvC scope cl C env) ow') (Mu (compEnvC scope cl C env) ow'') s' s'' → KeepsX (fun q => q = C) s' s'' → ow'' x0 = some D₁ → σ'' x0 = none → Tg d σ'' → Q () s'') →
      wpAny (model prog w) A (letOwnedTupleGo target (.ref I) v) (fun _ s₀ => wpAny (model prog w) A (assign target (compEnvC scope cl C env) v) Q (fun _ _ => False) s₀) (fun _ _ => False) s')
    (tst : ∀ C d σ', d ∈ ds → EnvOk h₀ (compEnvC scope cl C env) → Tg d σ' → TstL nm prog w h₀ A (compEnvC scope cl C env) σ' ifs (pz d))
    (hel : ∀ C d σ', d ∈ ds → EnvOk h₀ (compEnvC scope cl C env) → Tg d σ' → pz d = true → Ev nm prog w h₀ A (compEnvC scope cl C env) σ' elt (f d))
    {s s₂ : Shared} {mu : Addr → Prop} (S : Stt nm prog w h₀ env σ mu s) {it : Value} (hs : SrcP prog w A s mu tl ds it s₂) {RR : Value → Addr → Result → Shared → Prop} {E : Value → Shared → Prop}
    (hRR : ∀ D₁ C s' ys m, Keeps s s' → s.heap.get? D₁ = none → s.heap.get? C = none → D₁ ≠ C → s'.heap.Ns C m → s'.heap.PlainList D₁ (List.toArray ys) → (∀ mu, RdL s'.heap mu ((ds.filter pz).map f) ys) → RR (.ref D₁) C (.ok .next) s') :
    wpAny (model prog w) A (newList []) (fun acc s₃ => wpAny (model prog w) A (newFunctionEnv scope env.globals cl [] env.qual none .none (some env)) (fun cenv s₄ =>
      codeAny (model prog w) A (.compStart (.ListComp elt [⟨target, iter, ifs, 0⟩] scope pos) 0 it acc { cenv with scope := relabel scope env }) (RR acc cenv.locals) s₄) E s₃) E s₂ := by
  obtain ⟨I, fp, n, P, St, rfl, k₂, W, hlen, hn, hIs, hSt, hfp, hP, st0, htl⟩ := hs
  have S₂ := S.keeps k₂
  refine wpAny_newObj_type (wpAny_newFunctionEnv c.nocell (by intro y hy; simp at hy) (fun h₁ hns₁ hsb₁ => ?_) c.kind)
  dsimp only at hns₁ hsb₁ ⊢
  generalize hH2 : s₂.heap.push { cls := .type "list", dict := none, data := .seq ([] : List Value).toArray } = H2 at hns₁ hsb₁ ⊢
  have hC : H2.objs.size = s₂.heap.objs.size + 1 := by rw [← hH2, Heap.size_push]
  have hDC : s₂.heap.objs.size ≠ H2.objs.size := by rw [hC]; exact Nat.ne_of_lt (Nat.lt_succ_self _)
  have below : ∀ b o, s₂.heap.get? b = some o → b ≠ H2.objs.size ∧ b ≠ s₂.heap.objs.size := fun b o e => by
    have hb := Heap.lt_size e
    exact ⟨by rw [hC]; exact Nat.ne_of_lt (Nat.lt_succ_of_lt hb), Nat.ne_of_lt hb⟩
  have old : ∀ b o, s₂.heap.get? b = some o → h₁.get? b = some o := fun b o e => hsb₁.extBut b o (below b o e).1 (Heap.get?_push_of_some _ (hH2 ▸ Heap.get?_push_of_some _ e))
  have hacc : h₁.PlainList s₂.heap.objs.size #[] := ⟨_, hsb₁.extBut _ _ hDC (Heap.get?_push_of_some _ (hH2 ▸ Heap.get?_push_size _ rfl))⟩
  have hst₁ : St 0 h₁ := W.frame _ _ _ st0 fun b _ o e => old b o e
  have none₂ : ∀ a, s₂.heap.objs.size ≤ a → s₂.heap.get? a = none := fun a ha => by
    cases e : s₂.heap.get? a with
    | none => rfl
    | some o' => exact absurd (Heap.lt_size e) (Nat.not_lt.mpr ha)
  have noneS : ∀ a, s₂.heap.get? a = none → s.heap.get? a = none := fun a ha => by
    cases e : s.heap.get? a with
    | none => rfl
    | some o' => rw [kp_heap k₂ a o' e] at ha; cases ha
  have hD2 := none₂ _ (Nat.le_refl _)
  have hC2 : s₂.heap.get? H2.objs.size = none := none₂ _ (by rw [hC]; exact Nat.le_succ _)
  have hCc : ∀ q ∈ env.cells, q.2 ≠ H2.objs.size := fun q hq => by
    obtain ⟨v, o, e, _⟩ := (S₂.cells q hq).2
    exact (below _ _ e).1
  have Kc : EnvOk h₀ (compEnvC scope cl H2.objs.size env) := c.envok K (none_of_old S₂.old hC2) hCc
  -- the comprehension's own state
  have k₄ : Keeps s₂ { s₂ with heap := h₁, toks := s₂.toks + ([] : List (Str × Value)).length } := ⟨h₁, _, rfl, old⟩
  have muc : ∀ q o, ¬ mu q → s₂.heap.get? q = some o → ¬ Mu (compEnvC scope cl H2.objs.size env) (fun y : V => if y = x0 then some s₂.heap.objs.size else none) q := by
    rintro q o hq e (h | ⟨c', hc', h⟩ | ⟨y, h⟩)
    · exact (below q o e).1 h
    · exact hq (h ▸ (S.cells c' (c.sub c' hc')).1)
    · by_cases hy : y = x0
      · dsimp only at h; rw [if_pos hy] at h; cases h; exact (below _ o e).2 rfl
      · dsimp only at h; rw [if_neg hy] at h; cases h
  have S₄ : StO nm prog w h₀ s₂.os (compEnvC scope cl H2.objs.size env) (fun y : V => if y = x0 then some s₂.heap.objs.size else none) σ₀ { s₂ with heap := h₁, toks := s₂.toks + ([] : List (Str × Value)).length } := by
    have S₄' := S₂.keeps k₄
    refine ⟨S₄'.up, S₄'.old, fun y d hy => ?_, fun y b hy hb => ?_, fun y z a hy hz => ?_, fun y a hy => ?_, ⟨_, hns₁⟩, fun q hq => (S₄'.cells q (c.sub q hq)).2, S₄'.bare, rfl⟩
    · obtain ⟨d', e', hσ, hk, hk', cc, hcc⟩ := c.cap y _ hy
      cases e'
      obtain ⟨v, r, hv⟩ := S₂.vw y _ hσ
      refine ⟨v, ?_, Rd.move (fun b o hb e _ => ⟨old b o e, muc b o hb e⟩) _ _ hv⟩
      rcases r with ⟨e, _⟩ | ⟨_, c', hc', ho⟩
      · rw [hk] at e; cases e
      · have := c.look _ _ hcc
        rw [hc'] at this; cases this
        exact .inr ⟨hk', _, hcc, ho.keeps old⟩
    · obtain ⟨d', e', _⟩ := c.cap y _ hy
      subst e'; cases hb
    · by_cases h1 : y = x0 <;> by_cases h2 : z = x0
      · rw [h1, h2]
      · simp only [if_neg h2] at hz; cases hz
      · simp only [if_neg h1] at hy; cases hy
      · simp only [if_neg h1] at hy; cases hy
    · by_cases h1 : y = x0
      · simp only [if_pos h1] at hy; cases hy
        refine ⟨hDC, fun q hq h => ?_, none_of_old S₂.old hD2, ⟨_, hacc.choose_spec⟩⟩
        obtain ⟨v, o, e, _⟩ := (S₂.cells q (c.sub q hq)).2
        rw [← h, hD2] at e; cases e
      · simp only [if_neg h1] at hy; cases hy
  have hI2 : ∃ o, s₂.heap.get? I = some o := let ⟨o, e, _⟩ := hSt _ _ st0; ⟨o, e⟩
  obtain ⟨oI, eI⟩ := hI2
  have hIm : ¬ Mu (compEnvC scope cl H2.objs.size env) (fun y : V => if y = x0 then some s₂.heap.objs.size else none) I := by
    rintro (h | ⟨c', hc', h⟩ | ⟨y, h⟩)
    · exact (below I oI eI).1 h
    · obtain ⟨v, o, e, _⟩ := (S.cells c' (c.sub c' hc')).2
      rw [← h, hIs] at e; cases e
    · by_cases hy : y = x0
      · dsimp only at h; rw [if_pos hy] at h; cases h; exact (below _ oI eI).2 rfl
      · dsimp only at h; rw [if_neg hy] at h; cases h
  have hID : I ≠ s₂.heap.objs.size := (below I oI eI).2
  have loop : codeAny (model prog w) A (.compLoop (.ListComp elt [⟨target, iter, ifs, 0⟩] scope pos) 0 (.ref I) (.ref s₂.heap.objs.size) (compEnvC scope cl H2.objs.size env)) (RR (.ref s₂.heap.objs.size) H2.objs.size)
      { s₂ with heap := h₁, toks := s₂.toks + ([] : List (Str × Value)).length } := by
    refine comp_core (str := true) W hlen hn (Y := fun q => q = H2.objs.size) (x0 := x0) (fun h => (below I oI eI).1 h) (fun h => hDC h) hID Bs Tg pz f hTB hff (fun i d v ow' σ' s' Q hd hPv hsti hB how hx S' hr hQ => ?_) (fun i d σ' hd ht => tst _ d σ' (List.mem_of_getElem? hd) Kc ht) (fun i d σ' hd ht hp => hel _ d σ' (List.mem_of_getElem? hd) Kc ht hp) S₄ hBs (by simp) hx0 (none_of_old S.old hIs) hIm hSt (fun b hb hbI => ?_) (fun i v d hv hd => ?_) hst₁ hacc fun s' ow' σ' ys S' kx hl hr => ?_
    · have hos := S'.os
      refine asg _ I _ Kc d v ow' σ' s' Q (List.mem_of_getElem? hd) (fun ht x1 elts pos T Q' hq => htl ht _ s' hsti x1 elts pos T Q' hq) hB how hx (by rw [hos]; exact S') hr fun s'' ow'' σ'' S'' t'' k'' h1 h2 h3 => hQ s'' ow'' σ'' (by rw [← hos]; exact S'') t'' k'' h1 h2 h3
    · obtain ⟨h1, o, e, h2⟩ := hfp b hb hbI
      exact ⟨muc b o h1 e, o, old b o e, h2⟩
    · exact Rd.move (fun b o hb e _ => ⟨old b o e, muc b o hb e⟩) _ _ (hP i v d hv hd)
    · obtain ⟨m, hm⟩ := S'.ns
      refine hRR _ _ s' ys m (kx_new (kp_trans k₂ k₄) kx ?_) (noneS _ hD2) (noneS _ hC2) hDC hm hl hr
      rintro q (h | h | h)
      · rw [h]; exact noneS _ hC2
      · rw [h]; exact noneS _ hD2
      · rw [h]; exact hIs
  exact codeAny_compStart_list loop (W.self 0 _ _ _ hst₁ loop)
end
end Mine

-- M11
namespace Mine
open PySem PySem.Calls PyProof.Rows PySem.W

section
variable {V : Type} [DecidableEq V] {nm : V → Str} {prog : Program} {w : World} {h₀ : Heap} {os : OsState} {A : Around} {env : Env} {σ : V → Option B} {ow : V → Option Addr} {str : Bool}

theorem rd_step {ow' : V → Option Addr} {s s' : Shared} (t : Step str (Mu env ow) (Mu env ow') s s') {d : D} {v : Value} (h : Rd s.heap (Mu env ow) d v) : Rd s'.heap (Mu env ow') d v :=
  Rd.move (fun b o hb e c => ⟨t.keep b o hb e (.inr c.ne), fun h' => (t.new b h').elim hb fun q => by rw [q] at e; cases e⟩) _ _ h
theorem rdl_step {ow' : V → Option Addr} {s s' : Shared} (t : Step str (Mu env ow) (Mu env ow') s s') {ds : List D} {vs : List Value} (h : RdL s.heap (Mu env ow) ds vs) : RdL s'.heap (Mu env ow') ds vs :=
  RdL.move (fun b o hb e c => ⟨t.keep b o hb e (.inr c.ne), fun h' => (t.new b h').elim hb fun q => by rw [q] at e; cases e⟩) _ _ h

def updL (σ : V → Option B) : List V → List D → V → Option B
  | x :: xs, d :: ds => updL (upd σ x (some (.im d))) xs ds
  | _, _ => σ
def targetsOf (nm : V → Str) (env : Env) (xs : List (V × Pos)) : List (Value → Sem Unit) := xs.map fun x => assign (.Name (nm x.1) x.2) env

theorem wp_inorder (K : EnvOk h₀ env) (hnm : ∀ x y, nm x = nm y → x = y) (Y : Addr → Prop) : ∀ (xs : List (V × Pos)) (ds : List D) (vs : List Value) (ow : V → Option Addr) (σ : V → Option B) (s : Shared) (Q : Unit → Shared → Prop) (E : Value → Shared → Prop), (∀ x ∈ xs, ∃ p, Slot' env (nm x.1) p ∧ Y p) →
    StO nm prog w h₀ os env ow σ s → RdL s.heap (Mu env ow) ds vs → ds.length = xs.length →
    (∀ s' ow', StO nm prog w h₀ os env ow' (updL σ (xs.map (·.1)) ds) s' → Step str (Mu env ow) (Mu env ow') s s' → KeepsX Y s s' → (∀ y, y ∉ xs.map (·.1) → ow' y = ow y) → Q () s') → wpAny (model prog w) A (assignInOrder (targetsOf nm env xs) vs) Q E s
  | [], [], vs, ow, σ, s, Q, E, _, S, hr, _, hQ => by
    have e := rdl_nil.mp hr
    subst e
    show wpAny _ _ (assignInOrder [] []) _ _ _
    have h := hQ s ow S (Step.refl _ _) (kx_refl _ _) fun _ _ => rfl
    with_reducible exact wpAny_assignInOrder_none h
  | [], _ :: _, _, _, _, _, _, _, _, _, _, h, _ => by cases h
  | _ :: _, [], _, _, _, _, _, _, _, _, _, h, _ => by cases h
  | (x, px) :: xs, d :: ds, vs, ow, σ, s, Q, E, hs, S, hr, hl, hQ => by
    obtain ⟨v, vs', rfl, hd, hr'⟩ := rdl_cons.mp hr
    obtain ⟨p, hp, hY⟩ := hs (x, px) (.head _)
    show wpAny _ _ (assignInOrder (assign (.Name (nm x) px) env :: targetsOf nm env xs) (v :: vs')) _ _ _
    with_reducible refine wpAny_assignInOrder_more (wpAny_assign_Name (wp_store (str := str) K hnm (b := .im d) S (kp_refl _) (newb_im hd) hp fun s₂ S₂ t₂ k₂ => ?_))
    refine wp_inorder K hnm Y xs ds vs' _ _ s₂ Q E (fun y hy => hs y (.tail _ hy)) S₂ (rdl_step t₂ hr') (by simpa using hl) fun s' ow' S' t' k' ho => ?_
    refine hQ s' ow' S' (t₂.trans t') (kx_trans (kx_mono k₂ fun q h => by subst h; exact hY) k') fun y hy => ?_
    have h1 : y ≠ x := fun e => hy (by rw [e]; exact List.mem_map.mpr ⟨(x, px), .head _, rfl⟩)
    rw [ho y (fun h => hy (by rw [List.map_cons]; exact .tail _ h)), upd_ne _ _ h1]

/-- a, b, c = v: a tuple that stands -/
theorem wp_unpack (K : EnvOk h₀ env) (hnm : ∀ x y, nm x = nm y → x = y) (hA : A.handled = none) (Y : Addr → Prop) {xs : List (V × Pos)} {elts : List Expr} {x1 : Nat} {pos : Pos} {ds : List D} {v : Value} {s : Shared} {Q : Unit → Shared → Prop} {E : Value → Shared → Prop}
    (hs : ∀ x ∈ xs, ∃ p, Slot' env (nm x.1) p ∧ Y p) (S : StO nm prog w h₀ os env ow σ s) (hr : Rd s.heap (Mu env ow) (.tup ds) v) (hl : ds.length = xs.length) (he : (assignEach elts env).map (·.2) = targetsOf nm env xs) (hlen : (assignEach elts env).length = xs.length) (hstar : (assignEach elts env).findIdx? (·.1) = none)
    (hQ : ∀ s' ow', StO nm prog w h₀ os env ow' (updL σ (xs.map (·.1)) ds) s' → Step str (Mu env ow) (Mu env ow') s s' → KeepsX Y s s' → (∀ y, y ∉ xs.map (·.1) → ow' y = ow y) → Q () s') : wpAny (model prog w) A (assign (.Tuple elts x1 pos) env v) Q E s := by
  obtain ⟨a, vs, rfl, ham, ht, hr'⟩ := rd_tup.mp hr
  have ht' : s.heap.IsTuple a (List.toArray vs) := ht
  with_reducible refine wpAny_assign_Tuple hA ht' (by rw [hlen, List.size_toArray, hr'.length, hl]) hstar fun h' hx => ?_
  rw [he]
  have k : Keeps s { s with heap := h' } := ⟨h', s.toks, rfl, fun b o e => hx b o (Nat.ne_of_lt (Heap.lt_size e)) e⟩
  have z := st_keeps (str := str) S k
  exact wp_inorder (str := str) K hnm Y xs ds vs ow σ _ Q E hs z.1 (hr'.keeps (kp_heap k)) hl fun s' ow' S' t' k' ho => hQ s' ow' S' (z.2.trans t') (kx_trans (kx_of k) k') ho

theorem trs_unpack (K : EnvOk h₀ env) (hnm : ∀ x y, nm x = nm y → x = y) (hA : A.handled = none) {xs : List (V × Pos)} {elts : List Expr} {x1 : Nat} {e : Expr} {tpos pos : Pos} {ds : List D} {Post : FD → (V → Option B) → Prop}
    (hs : ∀ x ∈ xs, ∃ p, Slot' env (nm x.1) p) (h : Ev nm prog w h₀ A env σ e (.tup ds)) (hl : ds.length = xs.length) (he : (assignEach elts env).map (·.2) = targetsOf nm env xs) (hlen : (assignEach elts env).length = xs.length) (hstar : (assignEach elts env).findIdx? (·.1) = none)
    (hsw : swapsWithSole [.Tuple elts x1 tpos] e pos.line env = pure false) (hw : swappedStores [.Tuple elts x1 tpos] e env = pure none) (hq : Post .next (updL σ (xs.map (·.1)) ds)) : TrS nm prog w h₀ os A env str (.Assign [.Tuple elts x1 tpos] e pos) σ Post := ⟨fun ow s S => by
  with_reducible refine wpAny_Assign_stores (ev_then h S.stt fun v s₁ k _ r => ?_) hsw hw
  show wpAny _ _ (assign (.Tuple elts x1 tpos) env v) _ _ _
  have z := st_keeps (str := str) S k
  refine wp_unpack (str := str) K hnm hA (fun _ => True) (fun x hx => let ⟨p, hp⟩ := hs x hx; ⟨p, hp, trivial⟩) z.1 r hl he hlen hstar fun s' ow' S' t' _ _ => ?_
  exact Res.next S' (z.2.trans t') hq⟩
end

section
variable {V : Type} [DecidableEq V] {nm : V → Str} {prog : Program} {w : World} {h₀ : Heap} {os : OsState} {A : Around} {env : Env} {σ : V → Option B} {ow : V → Option Addr} {str : Bool}

theorem evo_ev {e : Expr} {ds : List D} (h : EvO nm prog w h₀ A env e σ (.ol ds)) : Ev nm prog w h₀ A env σ e (.list ds) := ⟨fun s mu S => by
  with_reducible refine ev_mono (h.run s mu S) ?_
  rintro v s' ⟨k, _, a, rfl, hf, vs, hl, hr⟩
  refine ⟨k, rd_list.mpr ⟨a, vs, rfl, fun hm => ?_, hl.isList, RdL.move (fun b o hb e _ => ⟨e, fun h => hb (.inl h)⟩) _ _ hr⟩⟩
  obtain ⟨o, e⟩ := S.lt a hm
  rw [hf] at e; cases e⟩

/-- the parts of a comprehension [elt for target in iter if ..] that its value hangs on: f of those that pass pz -/
structure CompOk (nm : V → Str) (prog : Program) (w : World) (h₀ : Heap) (A : Around) (env : Env) (σ : V → Option B) (elt target iter : Expr) (ifs : List Expr) (scope : Scope) (tl : Bool) (ds : List D) (pz : D → Bool) (f : D → D) (cl : List (Str × Addr)) (σ₀ : V → Option B) (x0 : V) (Bs : (V → Option B) → Prop) (Tg : D → (V → Option B) → Prop) : Prop where
  handled : A.handled = none
  envok : EnvOk h₀ env
  cap : Cap nm env σ scope cl σ₀
  src : Src nm prog w h₀ A env σ tl iter ds
  hx0 : σ₀ x0 = none
  hTB : ∀ d σ, Tg d σ → Bs σ
  flat : ∀ d, FlatD (f d)
  bs : Bs σ₀
  asg : ∀ C I D₁, EnvOk h₀ (compEnvC scope cl C env) → ∀ d v (ow' : V → Option Addr) σ' s' (Q : Unit → Shared → Prop), d ∈ ds → (tl = true → ∀ (x1 : Nat) (elts : List Expr) (pos : Pos) (T : Addr) (Q : Unit → Shared → Prop), Q () s' → wpAny (model prog w) A (letOwnedTupleGo (.Tuple elts x1 pos) (.ref I) (.ref T)) Q (fun _ _ => False) s') → Bs σ' → ow' x0 = some D₁ → σ' x0 = none →
      StO nm prog w h₀ s'.os (compEnvC scope cl C env) ow' σ' s' → Rd s'.heap (Mu (compEnvC scope cl C env) ow') d v →
      (∀ s'' ow'' σ'', StO nm prog w h₀ s'.os (compEnvC scope cl C env) ow'' σ'' s'' → Step true (Mu (compEnvC scope cl C env) ow') (Mu (compEnvC scope cl C env) ow'') s' s'' → KeepsX (fun q => q = C) s' s'' → ow'' x0 = some D₁ → σ'' x0 = none → Tg d σ'' → Q () s'') →
      wpAny (model prog w) A (letOwnedTupleGo target (.ref I) v) (fun _ s₀ => wpAny (model prog w) A (assign target (compEnvC scope cl C env) v) Q (fun _ _ => False) s₀) (fun _ _ => False) s'
  tst : ∀ C d σ', d ∈ ds → EnvOk h₀ (compEnvC scope cl C env) → Tg d σ' → TstL nm prog w h₀ A (compEnvC scope cl C env) σ' ifs (pz d)
  hel : ∀ C d σ', d ∈ ds → EnvOk h₀ (compEnvC scope cl C env) → Tg d σ' → pz d = true → Ev nm prog w h₀ A (compEnvC scope cl C env) σ' elt (f d)
  fold : ∀ x, foldedSetIterable iter env x = pure x

theorem evo_comp {elt target iter : Expr} {ifs : List Expr} {scope : Scope} {pos : Pos} {tl : Bool} {ds : List D} {pz : D → Bool} {f : D → D} {cl : List (Str × Addr)} {σ₀ : V → Option B} {x0 : V} {Bs : (V → Option B) → Prop} {Tg : D → (V → Option B) → Prop}
    (c : CompOk nm prog w h₀ A env σ elt target iter ifs scope tl ds pz f cl σ₀ x0 Bs Tg) : EvO nm prog w h₀ A env (.ListComp elt [⟨target, iter, ifs, 0⟩] scope pos) σ (.ol ((ds.filter pz).map f)) := ⟨fun s mu S => by
  rw [eval_ListComp]
  refine wpAny_comprehension_free (use := none) rfl c.fold c.cap.clos c.cap.kind c.cap.names (ev_mono (c.src.run s mu S) fun xv s₁ h₁ => wf (ev_mono h₁ fun it s₂ h₂ => ?_))
  refine comp_run (RR := fun acc C => compPost (model prog w) A (fun _ _ => False) none _ acc C) c.handled c.envok c.cap c.hx0 Bs Tg pz f c.hTB c.flat c.bs c.asg c.tst c.hel S h₂ fun D₁ C s' ys m k hD hC hDC hn hl hr => ?_
  refine ⟨m, hn, fun h' hs' => ?_⟩
  have k' : Keeps s { s' with heap := h' } := by
    obtain ⟨h2, tk, e, kk⟩ := k
    subst e
    exact ⟨h', tk, rfl, fun b o e => (hs'.2 b (fun h => by subst h; rw [hC] at e; cases e)).trans (kk b o e)⟩
  refine ⟨k', rfl, D₁, rfl, hD, ys, ?_, flat_rdl (fun d hd => ?_) (hr (fun _ => False))⟩
  · exact hl.at fun o e => (hs'.2 D₁ hDC).trans e
  · obtain ⟨e, _, rfl⟩ := List.mem_map.mp hd
    exact c.flat e⟩
theorem ev_comp {elt target iter : Expr} {ifs : List Expr} {scope : Scope} {pos : Pos} {tl : Bool} {ds : List D} {pz : D → Bool} {f : D → D} {cl : List (Str × Addr)} {σ₀ : V → Option B} {x0 : V} {Bs : (V → Option B) → Prop} {Tg : D → (V → Option B) → Prop}
    (c : CompOk nm prog w h₀ A env σ elt target iter ifs scope tl ds pz f cl σ₀ x0 Bs Tg) : Ev nm prog w h₀ A env σ (.ListComp elt [⟨target, iter, ifs, 0⟩] scope pos) (.list ((ds.filter pz).map f)) := evo_ev (evo_comp c)

/-- y = [..], y a local of the frame's (the stores are exchanged) -/
theorem trs_asg_comp (hnm : ∀ x y, nm x = nm y → x = y) {elt target iter : Expr} {ifs : List Expr} {scope : Scope} {pos spos py : Pos} {tl : Bool} {ds : List D} {pz : D → Bool} {f : D → D} {cl : List (Str × Addr)} {σ₀ : V → Option B} {x0 y : V} {Bs : (V → Option B) → Prop} {Tg : D → (V → Option B) → Prop}
    (c : CompOk nm prog w h₀ A env σ elt target iter ifs scope tl ds pz f cl σ₀ x0 Bs Tg) (hy : env.kindOf (nm y) = some .local) {Post : FD → (V → Option B) → Prop} (hq : Post .next (upd σ y (some (.ol ((ds.filter pz).map f)))))
    (hsw : swapsWith (.ListComp elt [⟨target, iter, ifs, 0⟩] scope pos) (some (.Name (nm y) py)) spos.line env = pure true := by rfl) :
    TrS nm prog w h₀ os A env str (.Assign [.Name (nm y) py] (.ListComp elt [⟨target, iter, ifs, 0⟩] scope pos) spos) σ Post := ⟨fun ow s S => by
  rw [exec_Assign_Name_used _ _ _ _ hsw]
  refine wpAny_bind (wpAny_standAt (wpAny_bind ?_))
  show wpAny _ A (do let _ ← comprehension (.ListComp elt [⟨target, iter, ifs, 0⟩] scope pos) scope env _ (newList []) false (eval iter env) (some (assign (.Name (nm y) py) env))) _ _ s
  refine wpAny_bind (ev_mono (wpAny_comprehension_free (use := some (assign (.Name (nm y) py) env)) (Q := fun _ s' => Res nm prog w h₀ os env str ow s Post .next s') rfl c.fold c.cap.clos c.cap.kind c.cap.names
    (ev_mono (c.src.run s _ S.stt) fun xv s₁ h₁ => wf (ev_mono h₁ fun it s₂ h₂ => ?_))) (fun _ s' hq => wpAny_pure (wpAny_pure hq)))
  refine comp_run (RR := fun acc C => compPost (model prog w) A (fun _ _ => False) (some (assign (.Name (nm y) py) env)) (fun _ s' => Res nm prog w h₀ os env str ow s Post .next s') acc C) c.handled c.envok c.cap c.hx0 Bs Tg pz f c.hTB c.flat c.bs c.asg c.tst c.hel S.stt h₂ fun D₁ C s' ys m k hD hC hDC hn hl hr => ?_
  show wpAny _ A (assign (.Name (nm y) py) env (.ref D₁)) _ _ _
  have flatAll : ∀ d ∈ (ds.filter pz).map f, FlatD d := fun d hd => by obtain ⟨e, _, rfl⟩ := List.mem_map.mp hd; exact c.flat e
  have K := c.envok
  have hk := K.kind
  obtain ⟨mL, hnL⟩ := S.ns
  have hLC : C ≠ env.locals := fun h => by
    obtain ⟨o, _, _, e, _⟩ := hnL
    rw [← h, hC] at e; cases e
  have hcl : (env.scope.kind == .class || (env.scope.kind == .module && env.locals != env.globals)) = false := by rw [hk]; rfl
  with_reducible refine wpAny_assign_Name (wpAny_storeName_local hy (hnL.keeps (kp_heap k)) (fun h₂ hn₂ hs₂ => ?_) hcl)
  refine ⟨m, hn.sameBut hs₂ hLC, fun h' hs' => ?_⟩
  have hn' := hn₂.sameBut hs' (Ne.symm hLC)
  have hother : ∀ q, q ≠ env.locals → q ≠ C → h'.get? q = s'.heap.get? q := fun q h1 h2 => (hs'.2 q h2).trans (hs₂.2 q h1)
  have cellC : ∀ c ∈ env.cells, c.2 ≠ C := fun c' hc' h => by
    obtain ⟨v, o, e, _⟩ := S.cells c' hc'
    rw [h, hC] at e; cases e
  have hcell : ∀ q o, s.heap.get? q = some o → q ≠ env.locals → h'.get? q = some o := fun q o e h1 => (hother q h1 (fun h => by subst h; rw [hC] at e; cases e)).trans (kp_heap k q o e)
  have hDL : D₁ ≠ env.locals := fun h => by
    obtain ⟨o, _, _, e, _⟩ := hnL
    rw [← h, hD] at e; cases e
  have hgo : ∃ h tk, ({ s' with heap := h', toks := s'.toks + 1 } : Shared) = { s with heap := h, toks := tk } := by obtain ⟨h2, tk, e, _⟩ := k; subst e; exact ⟨_, _, rfl⟩
  have z := st_stored2 (str := str) K (x := y) (b := .ol ((ds.filter pz).map f)) (v := .ref D₁) (s₂ := { s' with heap := h', toks := s'.toks + 1 }) S (.inr ⟨rfl, D₁, rfl, hD, ys, hl.at fun o e => (hother D₁ hDL hDC).trans e, flat_rdl flatAll (hr (fun _ => False))⟩) (.loc hy)
    (fun q o hq e => hcell q o e hq) (.inl ⟨hy, _, hn', by simp⟩) (fun z u hz r => ?_) ⟨_, hn'⟩ (fun c' hc' => ?_) hgo
  · exact Res.next z.1 z.2 hq
  · rcases r with ⟨a, m₁, hm₁, e⟩ | ⟨a, c', hc', o, ho, hd⟩
    · refine .inl ⟨a, _, hn', ?_⟩
      rw [if_neg (fun e' => hz (hnm z y e')), ns_unique hnL hm₁, e]
    · exact .inr ⟨a, c', hc', o, hcell _ o ho (K.cellNe _ (mem_of_lookup' hc')), hd⟩
  · obtain ⟨v, o, e, hd⟩ := S.cells c' hc'
    exact ⟨v, o, hcell _ o e (K.cellNe c' hc'), hd⟩⟩
end
end Mine

-- F1
namespace Mine
open PySem PySem.Calls PyProof.Rows PySem.W

/-- a plain def of the base: its parameters, its scope, its body -/
structure FnAt {V : Type} (nm : V → Str) (h₀ : Heap) (a : Addr) (ps : List V) (scope : Scope) (body : List Stmt) : Prop where
  ex : ∃ o fd c oc vs t, h₀.get? a = some o ∧ o.cls ≠ .none ∧ o.data = .func fd ∧ fd.scope = scope ∧ fd.body = .stmts body ∧ fd.closure = [] ∧ fd.globals = mainGlobals ∧ fd.builtins = builtinsNs ∧
    fd.code = .ref c ∧ h₀.get? c = some oc ∧ oc.cls ≠ .none ∧ oc.data = .fields vs ∧ vs[1]? = some (.str fd.qualname t) ∧ (∀ vs : List Value, vs.length = ps.length → bindArgs fd ⟨vs, []⟩ = pure ((ps.map nm).zip vs))
  kind : scope.kind = .function
  gen : scope.isGenerator = false
  co : scope.isCoroutine = false
  nocell : ∀ x ∈ scope.names, x.2 ≠ .cell
  loc : ∀ x ∈ ps, scope.names.lookup (nm x) = some .local

/-- the frame of a call -/
structure FEnv (h₀ : Heap) (scope : Scope) (env : Env) : Prop where
  ok : EnvOk h₀ env
  scope : env.scope = scope
  cells : env.cells = []

section
variable {V : Type} [DecidableEq V] {nm : V → Str} {prog : Program} {w : World} {h₀ : Heap} {A : Around} {mg mb : Str → Option Value}

theorem reverse_lookup_zip (hnm : ∀ x y, nm x = nm y → x = y) : ∀ (ps : List V) (vs : List Value) (i : Nat) (x : V) (v : Value), ps.Nodup → ps[i]? = some x → vs[i]? = some v → vs.length = ps.length → ((ps.map nm).zip vs).reverse.lookup (nm x) = some v := by
  intro ps
  induction ps with
  | nil => intro vs i x v _ h; simp at h
  | cons p ps ih =>
    intro vs i x v hn hi hv hl
    cases vs with
    | nil => simp at hl
    | cons u us =>
      simp only [List.map_cons, List.zip_cons_cons, List.reverse_cons, List.lookup_append]
      cases i with
      | zero =>
        simp only [List.getElem?_cons_zero, Option.some.injEq] at hi hv
        subst hi; subst hv
        have : ((ps.map nm).zip us).reverse.lookup (nm p) = none := by
          rw [List.lookup_eq_none_iff]
          intro q hq
          have hq' := List.of_mem_zip (List.mem_reverse.mp hq)
          obtain ⟨y, hy, e⟩ := List.mem_map.mp hq'.1
          have hne : p ≠ y := fun h => (List.nodup_cons.mp hn).1 (h ▸ hy)
          have : nm p ≠ q.1 := fun h => hne (hnm _ _ (h.trans e.symm))
          simpa using this
        rw [this]; simp
      | succ i =>
        rw [List.getElem?_cons_succ] at hi hv
        rw [ih us i x v (List.nodup_cons.mp hn).2 hi hv (by simpa using hl)]
        rfl

/-- the names of a call's frame at its start -/
def argsσ (ps : List V) (ds : List D) (x : V) : Option B := ((ps.zip ds).lookup x).map B.im

theorem lookup_zip_get : ∀ (ps : List V) (ds : List D) (x : V) (d : D), (ps.zip ds).lookup x = some d → ∃ i : Nat, ps[i]? = some x ∧ ds[i]? = some d
  | [], _, _, _, h => by simp at h
  | _ :: _, [], _, _, h => by simp at h
  | p :: ps, e :: ds, x, d, h => by
    rw [List.zip_cons_cons, List.lookup_cons] at h
    by_cases hx : x = p
    · subst hx; simp at h; subst h; exact ⟨0, rfl, rfl⟩
    · have hb : (x == p) = false := by simpa using hx
      rw [hb] at h
      obtain ⟨i, h1, h2⟩ := lookup_zip_get ps ds x d h
      exact ⟨i + 1, h1, h2⟩

theorem wp_fcall (hnm : ∀ x y, nm x = nm y → x = y) (G : Glo h₀ mg mb) {n : Nat} (hA : Ok (n + 1) A) {a : Addr} {ps : List V} {scope : Scope} {body : List Stmt} (F : FnAt nm h₀ a ps scope body) (hps : ps.Nodup) {ds : List D} (hl : ds.length = ps.length) {d : D} {Post : FD → (V → Option B) → Prop}
    (hb : ∀ env os, FEnv h₀ scope env → Tr nm prog w h₀ os (A.deeper env) env true body (argsσ ps ds) Post) (hPost : ∀ fd σ, Post fd σ → fd = .ret d ∨ (fd = .next ∧ d = .none)) (hfl : FlatD d)
    {s : Shared} {mu : Addr → Prop} {vs : List Value} (up : Up h₀ s.heap) (old : OldK h₀ s.heap) (bare : AllBare s.gens) (hmu : ∀ q, mu q → ∃ o, s.heap.get? q = some o) (hr : RdL s.heap mu ds vs) {Q : Value → Shared → Prop} {E : Value → Shared → Prop}
    (hQ : ∀ v s', Keeps s s' → Rd s'.heap mu d v → Q v s') : wpAny (model prog w) A (call (.ref a) vs) Q E s := by
  obtain ⟨o, fd, c, oc, cvs, t, ho, hoc, hd, hsc, hbd, hclo, hgl, hbt, hcd, hc, hcc, hcf, hcq, hbind⟩ := F.ex
  subst hsc
  have hlen : vs.length = ps.length := hr.length.trans hl
  refine wpAny_call (codeAny_call_function (by have := hA.depth; omega) (up a o ho (.inl hoc)) hd F.co F.gen hbd ⟨c, oc, cvs, t, hcd, up c oc hc (.inl hcc), hcf, hcq⟩ ?_)
  rw [hbind vs hlen, hclo]
  refine wpAny_pure (wpAny_newFunctionEnv F.nocell (fun x hx => ?_) (fun h₁ hns hsb => ⟨(up.lim G.lim).fresh _ hsb, ?_⟩) F.kind)
  · have h1 := List.of_mem_zip (show (x.1, x.2) ∈ _ from hx)
    obtain ⟨y, hy, e⟩ := List.mem_map.mp h1.1
    rw [← e]; exact F.loc y hy
  · have keep : ∀ b o, s.heap.get? b = some o → h₁.get? b = some o := fun b o e => hsb.extBut b o (Nat.ne_of_lt (Heap.lt_size e)) (Heap.get?_push_of_some _ e)
    have k₁ : Keeps s { s with heap := h₁, toks := s.toks + ((ps.map nm).zip vs).length } := ⟨h₁, _, rfl, keep⟩
    have hLn : s.heap.get? s.heap.objs.size = none := fresh_old (kp_refl s)
    generalize henv : newEnv fd.scope s.heap.objs.size fd.globals [] (fd.qualname ++ ".<locals>.") (some a) fd.code none fd.builtins = env
    have eL : env.locals = s.heap.objs.size := by rw [← henv]; rfl
    have eC : env.cells = [] := by rw [← henv]; rfl
    have eS : env.scope = fd.scope := by rw [← henv]; rfl
    have FE : FEnv h₀ fd.scope env := by
      refine ⟨⟨⟨by rw [eS]; exact F.kind, by rw [← henv]; exact hgl, by rw [← henv]; exact hbt⟩, ?_, ?_, ?_, ?_⟩, eS, eC⟩
      · rw [eL]; exact none_of_old old hLn
      · intro c hc; rw [eC] at hc; cases hc
      · intro c hc; rw [eC] at hc; cases hc
      · intro x y c hx; rw [eC] at hx; cases hx
    have mu0 : ∀ q, Mu env (fun _ : V => none) q → q = s.heap.objs.size := by
      rintro q (h | ⟨c, hc, _⟩ | ⟨y, h⟩)
      · exact h.trans eL
      · rw [eC] at hc; cases hc
      · cases h
    have S₀ : StO nm prog w h₀ s.os env (fun _ : V => none) (argsσ ps ds) { s with heap := h₁, toks := s.toks + ((ps.map nm).zip vs).length } := by
      refine ⟨up.keeps keep, old.step_keeps keep, fun x d hx => ?_, fun x b hx hb => ?_, fun x y a h => (nomatch h), fun x a h => (nomatch h), ⟨_, by rw [eL]; exact hns⟩, fun c hc => (by rw [eC] at hc; exact nomatch hc), bare, rfl⟩
      · unfold argsσ at hx
        cases e : (ps.zip ds).lookup x with
        | none => rw [e] at hx; cases hx
        | some d' =>
          rw [e] at hx; cases hx
          obtain ⟨i, h1, h2⟩ := lookup_zip_get ps ds x d e
          obtain ⟨v, hv, rv⟩ := hr.get h2
          refine ⟨v, .inl ⟨?_, _, by rw [eL]; exact hns, reverse_lookup_zip hnm ps vs i x v hps h1 hv hlen⟩, Rd.move (fun b o hb e _ => ⟨keep b o e, fun h => ?_⟩) _ _ rv⟩
          · show env.scope.names.lookup (nm x) = _
            rw [eS]; exact F.loc x (List.mem_of_getElem? h1)
          · rw [mu0 b h, hLn] at e; cases e
      · unfold argsσ at hx
        cases e : (ps.zip ds).lookup x with
        | none => rw [e] at hx; cases hx
        | some d' => rw [e] at hx; cases hx; cases hb
    have B := hb env s.os FE
    refine codeAny_func (wf (ev_mono (B.run _ _ S₀) ?_))
    rintro f s' ⟨fd', ow', σ', S', t', hf, hp⟩
    obtain ⟨h2, tk2, e2⟩ := t'.same rfl
    have kk : Keeps s s' := by
      refine ⟨h2, tk2, by rw [e2], fun b o e => ?_⟩
      have := t'.keep b o (fun h => by rw [mu0 b h, hLn] at e; cases e) (keep b o e) (.inl rfl)
      rw [e2] at this; exact this
    rcases hPost _ _ hp with rfl | ⟨rfl, rfl⟩
    · obtain ⟨v, rfl, hv⟩ := hf
      exact hQ v s' kk (hfl.rd hv)
    · cases hf
      exact hQ .none s' kk (rd_none.mpr rfl)
end
end Mine

-- M12
namespace Mine
open PySem PySem.Calls PyProof.Rows PySem.W

section
variable {V : Type} [DecidableEq V] {nm : V → Str} {prog : Program} {w : World} {h₀ : Heap} {os : OsState} {A : Around} {env : Env} {σ : V → Option B} {ow : V → Option Addr} {str : Bool}

theorem trs_while {test : Expr} {body orelse : List Stmt} {pos : Pos} {Post : FD → (V → Option B) → Prop} (Inv : (V → Option B) → Prop) (meas : (V → Option B) → Nat) (h0 : Inv σ)
    (turn : ∀ σ', Inv σ' → ∃ r, Tst nm prog w h₀ A env σ' test r ∧ (r = true → Tr nm prog w h₀ os A env str body σ' fun fd σ'' => match fd with | .next => Inv σ'' ∧ meas σ'' < meas σ' | .cont => Inv σ'' ∧ meas σ'' < meas σ' | .brk => Post .next σ'' | .ret d => Post (.ret d) σ'') ∧ (r = false → Tr nm prog w h₀ os A env str orelse σ' Post)) :
    TrS nm prog w h₀ os A env str (.While test body orelse pos) σ Post := ⟨fun ow s S => by
  with_reducible refine wpAny_While (codeAny_whileLoop (fun n s' => ∃ ow' σ', n = meas σ' ∧ Inv σ' ∧ StO nm prog w h₀ os env ow' σ' s' ∧ Step str (Mu env ow) (Mu env ow') s s') ?_ (meas σ) ⟨ow, σ, rfl, h0, S, Step.refl _ _⟩)
  rintro n s' ⟨ow', σ', rfl, hi, S', t'⟩
  obtain ⟨r, ht, h1, h2⟩ := turn σ' hi
  with_reducible refine tst_then ht S'.stt fun s₁ k _ => ?_
  have z := st_keeps (str := str) S' k
  have t₁ := t'.trans z.2
  cases r with
  | true =>
    show wpAny _ _ (execs body env) _ _ _
    with_reducible refine ev_mono ((h1 rfl).run ow' s₁ z.1) ?_
    rintro f s₂ ⟨fd, ow₂, σ₂, S₂, t₂, hf, hp⟩
    have tt := t₁.trans t₂
    cases fd with
    | next => cases hf; exact ⟨meas σ₂, hp.2, ow₂, σ₂, rfl, hp.1, S₂, tt⟩
    | cont => cases hf; exact ⟨meas σ₂, hp.2, ow₂, σ₂, rfl, hp.1, S₂, tt⟩
    | brk => cases hf; exact ⟨.next, ow₂, σ₂, S₂, tt, rfl, hp⟩
    | ret d => obtain ⟨v, rfl, hv⟩ := hf; exact ⟨.ret d, ow₂, σ₂, S₂, tt, ⟨v, rfl, hv⟩, hp⟩
  | false =>
    show wpAny _ _ (execs orelse env) _ _ _
    with_reducible refine ev_mono ((h2 rfl).run ow' s₁ z.1) ?_
    intro f s₂ q
    exact q.after t₁⟩

/-- x, y = e, f with the stores exchanged (two locals) -/
theorem trs_swap2 (K : EnvOk h₀ env) (hnm : ∀ x y, nm x = nm y → x = y) (hA : A.handled = none) {x y : V} {p q : Addr} {px py tp pos tp' : Pos} {k k' : Nat} {e f : Expr} {d d' : D} {Post : FD → (V → Option B) → Prop} (hp : Slot' env (nm x) p) (hq : Slot' env (nm y) q)
    (h : EvS nm prog w h₀ A env σ [e, f] [d, d']) (hsw : swapsWithSole [.Tuple [.Name (nm x) px, .Name (nm y) py] k tp] (.Tuple [e, f] k' tp') pos.line env = pure false)
    (hw : swappedStores [.Tuple [.Name (nm x) px, .Name (nm y) py] k tp] (.Tuple [e, f] k' tp') env = pure (some [nm x, nm y])) (hP : Post .next (upd (upd σ y (some (.im d'))) x (some (.im d)))) :
    TrS nm prog w h₀ os A env str (.Assign [.Tuple [.Name (nm x) px, .Name (nm y) py] k tp] (.Tuple [e, f] k' tp') pos) σ Post := ⟨fun ow s S => by
  rw [exec_Assign_arm]
  with_reducible refine wpAny_bind (wpAny_standAt ?_)
  rw [hsw]
  with_reducible refine wpAny_bind (wpAny_pure ?_)
  rw [if_neg (by decide)]
  have ht := ev_tup (k := k') (pos := tp') h (by simp)
  with_reducible refine wpAny_bind (ev_then ht S.stt fun v s₁ k₁ _ r => ?_)
  rw [hw]
  with_reducible refine wpAny_bind (wpAny_pure ?_)
  obtain ⟨a, vs, rfl, ham, htup, hr⟩ := rd_tup.mp r
  obtain ⟨v1, vs1, rfl, r1, hr1⟩ := rdl_cons.mp hr
  obtain ⟨v2, vs2, rfl, r2, hr2⟩ := rdl_cons.mp hr1
  have e2 := rdl_nil.mp hr2
  subst e2
  have htup' : s₁.heap.IsTuple a (List.toArray [v1, v2]) := htup
  show wpAny _ _ (rule "assign.swapped-stores" >>= fun _ => unpackItems (.ref a) (List.toArray [v1, v2]).size none >>= fun items => assignInOrder ([nm x, nm y].reverse.map fun n => bindName env n) items.reverse >>= fun _ => pure Flow.next) _ _ _
  with_reducible refine wpAny_bind (wpAny_rule (wpAny_bind (wpAny_unpackItems_tuple hA htup' fun h' hx => wpAny_bind ?_)))
  have kk : Keeps s₁ { s₁ with heap := h' } := ⟨h', s₁.toks, rfl, fun b o e => hx b o (Nat.ne_of_lt (Heap.lt_size e)) e⟩
  have z := st_keeps (str := str) S (kp_trans k₁ kk)
  show wpAny _ _ (assignInOrder [bindName env (nm y), bindName env (nm x)] [v2, v1]) _ _ _
  with_reducible refine wpAny_assignInOrder_more (wpAny_bindName (wp_store (str := str) K hnm (b := .im d') z.1 (kp_refl _) (newb_im (r2.keeps (kp_heap kk))) hq fun s₂ S₂ t₂ _ => ?_))
  have r1' := rd_step t₂ (r1.keeps (kp_heap kk))
  with_reducible refine wpAny_assignInOrder_more (wpAny_bindName (wp_store (str := str) K hnm (b := .im d) S₂ (kp_refl _) (newb_im r1') hp fun s₃ S₃ t₃ _ => ?_))
  have R := Res.next (Post := Post) S₃ (z.2.trans (t₂.trans t₃)) hP
  with_reducible exact wpAny_assignInOrder_none (wpAny_pure R)⟩
end
end Mine

-- M13
namespace Mine
open PySem PySem.Calls PyProof.Rows PySem.W

/-- a function of the base as it is called: what it gives for ds -/
structure FnSpec {V : Type} [DecidableEq V] (nm : V → Str) (prog : Program) (w : World) (h₀ : Heap) (n : Nat) (a : Addr) (ps : List V) (scope : Scope) (body : List Stmt) (ds : List D) (d : D) : Prop where
  fn : FnAt nm h₀ a ps scope body
  inj : ∀ x y, nm x = nm y → x = y
  nodup : ps.Nodup
  len : ds.length = ps.length
  flat : FlatD d
  run : ∀ A env os, Ok n A → FEnv h₀ scope env → Tr nm prog w h₀ os A env true body (argsσ ps ds) fun fd _ => fd = .ret d

section
variable {V V' : Type} [DecidableEq V] [DecidableEq V'] {nm : V → Str} {nm' : V' → Str} {prog : Program} {w : World} {h₀ : Heap} {os : OsState} {A : Around} {env : Env} {σ : V → Option B} {mg mb : Str → Option Value}

theorem ev_fcall (G : Glo h₀ mg mb) (K : EnvG env) {n : Nat} (hA : Ok (n + 1) A) {a : Addr} {ps : List V'} {scope : Scope} {body : List Stmt} {ds : List D} {d : D} (F : FnSpec nm' prog w h₀ n a ps scope body ds d)
    (hd : ∀ env', Ok n (A.deeper env')) {x : Str} {e : Expr} {es : List Expr} {np pos : Pos} (hx : env.kindOf x = some .globalImplicit) (hv : mg x = some (.ref a)) (hdb : (x == ("__debug__" : Str)) = false) (h : EvS nm prog w h₀ A env σ (e :: es) ds) (he : starEach (e :: es) env = (false, eval e env) :: starEach es env := by rfl) : Ev nm prog w h₀ A env σ (.Call (.Name x np) (e :: es) [] pos) d := ⟨fun s mu S => by
  with_reducible refine wpAny_Call_NameR (wp_gname G K S.up hx hv ?_ hdb)
  obtain ⟨o, fd, c, oc, cvs, t, ho, hoc, hdt, _⟩ := F.fn.ex
  refine callWith_def (o := o) hdt (ev_mono (h.run pos s mu S) ?_) he
  rintro vs s₁ ⟨k, r⟩
  have S₁ := S.keeps k
  refine ⟨S₁.up a o ho (.inl hoc), ?_⟩
  refine wp_fcall F.inj G hA F.fn F.nodup F.len (fun env' os' FE => F.run _ env' os' (hd env') FE) (fun fd σ h => .inl h) F.flat S₁.up S₁.old S₁.bare S₁.lt r fun v s' k' rv => ?_
  exact ⟨kp_trans k k', rv⟩⟩
end
end Mine

-- M14
namespace Mine
open PySem PySem.Calls PyProof.Rows PySem.W
theorem Ok.deeper {n : Nat} {A : Around} (h : Ok (n + 1) A) (env : Env) : Ok n (A.deeper env) where
  handled := h.handled
  depth := by have := h.depth; show A.depth + 1 + n < _; omega
  units := by have := h.units; show A.units + _ + _ + _ < _; omega
section
variable {V : Type} [DecidableEq V] {nm : V → Str} {prog : Program} {w : World} {h₀ : Heap} {os : OsState} {A : Around} {env : Env} {σ : V → Option B} {mg mb : Str → Option Value}

theorem evo_nil {pos : Pos} : EvO nm prog w h₀ A env (.List [] pos) σ (.ol []) := ⟨fun s mu S => by
  have h := (evs_nil (nm := nm) (prog := prog) (w := w) (h₀ := h₀) (A := A) (env := env) (σ := σ)).run pos s mu S
  with_reducible refine wpAny_List (ev_mono h ?_)
  rintro vs s' ⟨k, r⟩
  have e := rdl_nil.mp r
  subst e
  refine ⟨by simp, kp_trans k (kp_push s' _), rfl, _, rfl, fresh_old k, [], ⟨0, Heap.get?_push_size _ rfl⟩, rdl_nil'⟩⟩
theorem tst_not {e : Expr} {b : Bool} {pos : Pos} (h : Tst nm prog w h₀ A env σ e b) : Tst nm prog w h₀ A env σ (.UnaryOp .Not e pos) (!b) := ⟨fun s mu S => by
  with_reducible refine wpAny_isTrue_Not (tst_then h S fun s' k _ => ?_)
  exact ⟨k, rfl⟩⟩

theorem RdL.strs {h : Heap} {mu : Addr → Prop} : ∀ {ys : List Str} {vs : List Value}, RdL h mu (ys.map D.str) vs → StrsAre vs ys
  | [], _, x => by rw [rdl_nil.mp x]; exact .nil
  | n :: ns, _, x => by
    obtain ⟨v, vs', e, hd, hl⟩ := rdl_cons.mp x
    obtain ⟨t, ht⟩ := rd_str.mp hd
    subst e; subst ht; exact .cons _ _ (RdL.strs hl)

theorem ev_join {sep : Str} {n : Nat} {e : Expr} {cp apos pos : Pos} {ys : List Str} (h : EvL nm prog w h₀ A env σ e (ys.map D.str)) (hsep : sep.length ≤ 16) (hw : (ys.map (·.length)).sum + ys.length ≤ 1048576)
    (hbase : attributeBase (.Constant (.str sep) n cp) "join" env (eval (.Constant (.str sep) n cp) env) = eval (.Constant (.str sep) n cp) env := by rfl)
    (hline : (apos.endLine == pos.line) = true := by rfl) (htrees : backTo pos (starEach [e] env) = [(false, eval e env)] := by rfl) :
    Ev nm prog w h₀ A env σ (.Call (.Attribute (.Constant (.str sep) n cp) "join" apos) [e] [] pos) (.str (Txt.join sep ys)) := ⟨fun s mu S => by
  have hc := ev_str (nm := nm) (prog := prog) (w := w) (h₀ := h₀) (A := A) (env := env) (σ := σ) (x := sep) (k := n) (pos := cp)
  refine wpAny_Call_method (T := "str") hbase (by rw [htrees]; rfl) hline F.plainAttrs_str F.slot_str_join F.type_str_join (ev_then hc S fun v s₁ k₁ S₁ r₁ => ?_)
  obtain ⟨t, rfl⟩ := rd_str.mp r₁
  refine ⟨typeIs_str _ _ _, fun a ha => (nomatch ha), ?_⟩
  rw [htrees]
  refine Calls.callWith_builtin rfl (evalArgs_plain (spliced_cons (ev_then h S₁ fun v s₂ k₂ S₂ r₂ => spliced_nil ?_)))
  obtain ⟨a, vs, rfl, hl, hr⟩ := r₂
  have hs := hr.strs
  refine join_listW (ys := ys) hl (by simpa using hs) hsep hw fun t' k => ?_
  exact ⟨kp_trans k₁ (kp_trans k₂ (kp_tok s₂ _)), rd_str.mpr ⟨_, rfl⟩⟩⟩

/-- D.get(key, other) upon a table of strs of the base -/
theorem ev_get2 {T : Addr} {g : Int → Option Str} (G : Glo h₀ mg mb) (K : EnvG env) (hT : ∃ f, h₀.MapOf (intKind prog w) T f ∧ ∀ k, (g k = none → f k = none) ∧ ∀ d, g k = some d → ∃ t, f k = some (.str d t)) (hTc : ∀ o, h₀.get? T = some o → o.cls ≠ .none ∧ o.dict = none) (hts : (T == sysModules) = false)
    {x : Str} {e f : Expr} {i : Int} {y : Str} {np apos pos : Pos} (hx : env.kindOf x = some .globalImplicit) (hv : mg x = some (.ref T)) (hdb : (x == ("__debug__" : Str)) = false) (he : Ev nm prog w h₀ A env σ e (.int i)) (hf : Ev nm prog w h₀ A env σ f (.str y))
    (hbase : attributeBase (.Name x np) "get" env (eval (.Name x np) env) = eval (.Name x np) env := by rfl)
    (hline : (apos.endLine == pos.line) = true := by rfl) (htrees : backTo pos (starEach [e, f] env) = [(false, eval e env), (false, eval f env)] := by rfl) :
    Ev nm prog w h₀ A env σ (.Call (.Attribute (.Name x np) "get" apos) [e, f] [] pos) (.str ((g i).getD y)) := ⟨fun s mu S => by
  obtain ⟨fn, hm, hg⟩ := hT
  have up : ∀ {s' : Shared}, Up h₀ s'.heap → s'.heap.MapOf (intKind prog w) T fn := by
    intro s' u
    obtain ⟨o, es, ep, ho, r⟩ := hm
    exact ⟨o, es, ep, u T o ho (.inl (hTc o ho).1), r⟩
  refine wpAny_Call_method (T := "dict") hbase (by rw [htrees]; rfl) hline F.plainAttrs_dict F.slot_dict_get F.type_dict_get (wp_gname G K S.up hx hv ?_ hdb)
  obtain ⟨o, es, ep, ho, hcl, _⟩ := id hm
  have ho' := S.up T o ho (.inl (hTc o ho).1)
  refine ⟨(up S.up).typeIs, fun a ha => ?_, ?_⟩
  · cases ha; exact ⟨o, ho', (hTc o ho).2⟩
  rw [htrees]
  refine wpAny_dict_get2 (knd := intKind prog w) hts (ev_then he S fun v s₁ k₁ S₁ r₁ => ev_then hf S₁ fun u s₂ k₂ S₂ r₂ => ?_)
  obtain ⟨t, rfl⟩ := rd_int.mp r₁
  obtain ⟨t', rfl⟩ := rd_str.mp r₂
  refine ⟨i, fn, intKind_is prog w i t, up S₂.up, kp_trans k₁ (kp_trans k₂ (kp_tok s₂ _)), ?_⟩
  cases hgi : g i with
  | none => rw [(hg i).1 hgi]; exact rd_str.mpr ⟨_, rfl⟩
  | some d => obtain ⟨t, ht⟩ := (hg i).2 d hgi; rw [ht]; exact rd_str.mpr ⟨_, rfl⟩⟩
end
end Mine

-- M15
namespace Mine
open PySem PySem.Calls PyProof.Rows PySem.W
def repS (x : Str) (n : Int) : Str := ⟨(List.replicate n.toNat x.cps).foldl (· ++ ·) #[]⟩
theorem str_len0 {x : Str} (h : x.length = 0) : x = Str.empty := by
  obtain ⟨c⟩ := x
  have : c.size = 0 := h
  rw [Array.size_eq_zero_iff.mp this]; rfl
theorem empty_append (y : Str) : Str.empty ++ y = y := by
  obtain ⟨c⟩ := y
  show (⟨#[] ++ c⟩ : Str) = _
  simp
theorem append_empty (y : Str) : y ++ Str.empty = y := by
  obtain ⟨c⟩ := y
  show (⟨c ++ #[]⟩ : Str) = _
  simp
section
variable {V : Type} [DecidableEq V] {nm : V → Str} {prog : Program} {w : World} {h₀ : Heap} {os : OsState} {A : Around} {env : Env} {σ : V → Option B} {mg mb : Str → Option Value}

theorem ev_sitem {e i : Expr} {pos : Pos} {x : Str} {k : Int} {c : Nat} (h : Ev nm prog w h₀ A env σ e (.str x)) (hi : Ev nm prog w h₀ A env σ i (.int k)) (h0 : 0 ≤ k) (hk : k < 2 ^ 63) (hc : x.cps[k.toNat]? = some c)
    (hs : ∀ t u, subscripted i false (.str x t) (.int k u) = operate [.str x t, .int k u] (getItem (.str x t) (.int k u)) := by intro _ _; rfl) : Ev nm prog w h₀ A env σ (.Subscript e i pos) (.str ⟨#[c]⟩) := ⟨fun s mu S => by
  with_reducible refine Subscript_ (ev_then h S fun v s₁ k₁ S₁ r₁ => ev_then hi S₁ fun u s₂ k₂ S₂ r₂ => ?_)
  obtain ⟨t, rfl⟩ := rd_str.mp r₁
  obtain ⟨t', rfl⟩ := rd_int.mp r₂
  have hlt : k.toNat < x.cps.size := (Array.getElem?_eq_some_iff.mp hc).1
  have hlen : x.length = x.cps.size := rfl
  with_reducible refine tail_any (typeIs_str s₂ x t) F.slot_str_getitem.lookup (P.getItem_str (c := c) ?_ ?_ ⟨kp_trans k₁ (kp_trans k₂ (kp_tok s₂ _)), rd_str.mpr ⟨_, rfl⟩⟩) (hs t t')
  · rw [decide_eq_false (by omega), decide_eq_false (by omega)]; rfl
  · unfold seqIndex?
    simp only [show ¬ k < 0 from by omega, if_false]
    rw [if_pos (by rw [Bool.and_eq_true, decide_eq_true_eq, decide_eq_true_eq]; omega)]
    exact hc⟩

theorem ev_sadd {a b : Expr} {pos : Pos} {x y : Str} (ha : Ev nm prog w h₀ A env σ a (.str x)) (hb : Ev nm prog w h₀ A env σ b (.str y)) (hl : x.length + y.length ≤ 100000) : Ev nm prog w h₀ A env σ (.BinOp a .Add b pos) (.str (x ++ y)) :=
  ev_bin ha hb fun s mu u v _ e e' => by
    obtain ⟨t, rfl⟩ := rd_str.mp e
    obtain ⟨t', rfl⟩ := rd_str.mp e'
    with_reducible refine P.add_str ?_
    by_cases hx : x.length = 0
    · rw [if_pos (by simpa using hx), str_len0 hx, empty_append]
      exact ⟨kp_refl s, rd_str.mpr ⟨_, rfl⟩⟩
    · rw [if_neg (by simpa using hx)]
      by_cases hy : y.length = 0
      · rw [if_pos (by simpa using hy), str_len0 hy, append_empty]
        exact ⟨kp_refl s, rd_str.mpr ⟨_, rfl⟩⟩
      · rw [if_neg (by simpa using hy)]
        refine ⟨by rw [Str.length_append, sizeLine_eq]; omega, kp_tok s _, rd_str.mpr ⟨_, rfl⟩⟩

theorem repS_len (x : Str) (n : Int) : (repS x n).length = x.length * n.toNat := by
  unfold repS
  show Array.size _ = x.cps.size * _
  have : ∀ (m : Nat) (acc : Array Nat), ((List.replicate m x.cps).foldl (· ++ ·) acc).size = acc.size + x.cps.size * m := by
    intro m
    induction m with
    | zero => intro acc; simp
    | succ m ih =>
      intro acc
      rw [List.replicate_succ, List.foldl_cons, ih, Array.size_append, Nat.mul_succ]
      omega
  rw [this]; simp
theorem repS_low {x : Str} {n : Int} (h : n < 1) : repS x n = Str.empty := by
  unfold repS
  have : n.toNat = 0 := by omega
  rw [this]; rfl
theorem repS_same {x : Str} {n : Int} (h0 : ¬ n < 1) (h : (n == 1 || x.length == 0) = true) : repS x n = x := by
  rcases Bool.or_eq_true _ _ ▸ h with h | h
  · have : n = 1 := by simpa using h
    subst this
    obtain ⟨c⟩ := x
    show (⟨(List.replicate 1 c).foldl (· ++ ·) #[]⟩ : Str) = _
    simp
  · have hx : x.length = 0 := by simpa using h
    have := repS_len x n
    rw [hx, Nat.zero_mul] at this
    rw [str_len0 this, str_len0 hx]

theorem ev_smul {a b : Expr} {pos : Pos} {x : Str} {n : Int} (ha : Ev nm prog w h₀ A env σ a (.str x)) (hb : Ev nm prog w h₀ A env σ b (.int n)) (h0 : -1000 ≤ n) (hn : n ≤ 1000) (hl : x.length ≤ 100) : Ev nm prog w h₀ A env σ (.BinOp a .Mult b pos) (.str (repS x n)) :=
  ev_bin ha hb fun s mu u v _ e e' => by
    obtain ⟨t, rfl⟩ := rd_str.mp e
    obtain ⟨t', rfl⟩ := rd_int.mp e'
    have hbig : x.length * n.toNat ≤ 100 * 1000 := Nat.mul_le_mul hl (by omega)
    with_reducible refine P.mul_str ?_ (fun h1 _ => ?_) (fun h1 _ => ?_) ?_
    · rw [decide_eq_false (by omega), decide_eq_false (by omega)]; rfl
    · have : (1000 : Int) ≤ (2 ^ 63 - 1) / n := by
        refine Int.le_ediv_of_mul_le (by omega) ?_
        have : 1000 * n ≤ 1000 * 1000 := by omega
        omega
      omega
    · unfold Builtin.Str.tooLong
      rw [decide_eq_false_iff_not, sizeLine_eq]
      omega
    · by_cases h1 : n < 1
      · rw [if_pos h1]
        refine ⟨by decide, kp_tok s _, rd_str.mpr ⟨_, by rw [repS_low h1]⟩⟩
      · rw [if_neg h1]
        by_cases h2 : (n == 1 || x.length == 0) = true
        · rw [if_pos h2]
          exact ⟨kp_refl s, rd_str.mpr ⟨_, by rw [repS_same h1 h2]⟩⟩
        · rw [if_neg h2]
          refine ⟨?_, kp_tok s _, rd_str.mpr ⟨_, rfl⟩⟩
          have := repS_len x n
          show (repS x n).length ≤ _
          rw [this, sizeLine_eq]; omega
end
end Mine

-- M16
namespace Mine
open PySem PySem.Calls PyProof.Rows PySem.W

/-- what stands of the base, as a table -/
structure KOf (K : Frag) (h₀ : Heap) : Prop where
  in_ : K.In h₀
  cls : ∀ a o, K.lookup a = some o → o.cls ≠ .none ∨ a = cStatics
theorem KOf.up {K : Frag} {h₀ h : Heap} (k : KOf K h₀) (u : Up h₀ h) : K.In h := fun a o e => u a o (k.in_ a o e) ((k.cls a o e).imp id .inl)

/-- the class's own looks -/
structure WsCls (K : Frag) (C fL : Addr) : Prop where
  get : plainGet K C "norm" = true
  dict : hasDictIn K C = true
  norm : findIn K (.ref C) "norm" = some none
  nt : findIn K (.ref C) "nt" = some none
  il : findIn K (.ref C) "indent_level" = some (some (.ref fL))
  fn : isFn K (.ref fL) = true
  keep : keepIn K (.ref fL) = true

section
variable {V : Type} [DecidableEq V] {nm : V → Str} {prog : Program} {w : World} {h₀ : Heap} {os : OsState} {A : Around} {env : Env} {σ : V → Option B} {mg mb : Str → Option Value}

theorem ev_norm {KK : Frag} {C fL : Addr} (k : KOf KK h₀) (c : WsCls KK C fL) {n : Str} {np pos : Pos} {cn : List Int} {tr nt : Int} (h : Ev nm prog w h₀ A env σ (.Name n np) (.ws C cn tr nt)) : Ev nm prog w h₀ A env σ (.Attribute (.Name n np) "norm" pos) (.tup [.tup (cn.map D.int), .int tr]) := ⟨fun s mu S => by
  with_reducible refine Attribute_name (ev_then h S fun v s₁ k₁ S₁ r₁ => ?_)
  obtain ⟨a, rfl, hm, dx, es, n', tN, tC, t1, t2, vs, h1, h2, h3, h4, h5, h5', h6, hN, h8, hC, h10⟩ := rd_ws.mp r₁
  have X := k.up S₁.up
  have I : InstAt s₁.heap a (instObj C dx) C (some (dictOf es n')) := ⟨h1, rfl, rfl, h3⟩
  refine get_value X I (plainGet_of c.get).1 (findObj_own c.dict c.norm rfl h4) rfl ?_
  refine ⟨kp_trans k₁ (kp_tok s₁ _), rd_tup.mpr ⟨tN, _, rfl, h6, hN, rdl_cons' (rd_tup.mpr ⟨tC, vs, rfl, h8, hC, RdL.ofInts h10⟩) (RdL.one (rd_int.mpr ⟨_, rfl⟩))⟩⟩⟩
theorem ev_nt {KK : Frag} {C fL : Addr} (k : KOf KK h₀) (c : WsCls KK C fL) {n : Str} {np pos : Pos} {cn : List Int} {tr nt : Int} (h : Ev nm prog w h₀ A env σ (.Name n np) (.ws C cn tr nt)) : Ev nm prog w h₀ A env σ (.Attribute (.Name n np) "nt" pos) (.int nt) := ⟨fun s mu S => by
  with_reducible refine Attribute_name (ev_then h S fun v s₁ k₁ S₁ r₁ => ?_)
  obtain ⟨a, rfl, hm, dx, es, n', tN, tC, t1, t2, vs, h1, h2, h3, h4, h5, h5', h6, hN, h8, hC, h10⟩ := rd_ws.mp r₁
  have X := k.up S₁.up
  have I : InstAt s₁.heap a (instObj C dx) C (some (dictOf es n')) := ⟨h1, rfl, rfl, h3⟩
  refine get_value X I (plainGet_of c.get).1 (findObj_own c.dict c.nt rfl h5) rfl ?_
  exact ⟨kp_trans k₁ (kp_tok s₁ _), rd_int.mpr ⟨_, rfl⟩⟩⟩

/-- a row of two -/
theorem evs_two {e f : Expr} {d d' : D} (h : EvS nm prog w h₀ A env σ [e, f] [d, d']) {pos : Pos} {s : Shared} {mu : Addr → Prop} (S : Stt nm prog w h₀ env σ mu s) :
    wpAny (model prog w) A (spliced (backTo pos (starEach [e, f] env))) (fun vs s' => Keeps s s' ∧ Stt nm prog w h₀ env σ mu s' ∧ ∃ v u, vs = [v, u] ∧ Rd s'.heap mu d v ∧ Rd s'.heap mu d' u) (fun _ _ => False) s := by
  with_reducible refine ev_mono (h.run pos s mu S) ?_
  rintro vs s' ⟨k, r⟩
  obtain ⟨v, vs', rfl, r1, r'⟩ := rdl_cons.mp r
  obtain ⟨u, vs'', rfl, r2, r''⟩ := rdl_cons.mp r'
  rw [rdl_nil.mp r'']
  exact ⟨k, S.keeps k, v, u, rfl, r1, r2⟩

theorem ev_range2 {a b : Expr} {np pos : Pos} {m n : Int} (G : Glo h₀ mg mb) (K : EnvG env) (hx : env.kindOf "range" = some .globalImplicit) (hg : mg "range" = none) (hv : mb "range" = some (.type "range")) (h : EvS nm prog w h₀ A env σ [a, b] [.int m, .int n])
    (he : backTo pos (starEach [a, b] env) = [(false, eval a env), (false, eval b env)] := by rfl) : EvP nm prog w h₀ A env σ (.Call (.Name "range" np) [a, b] [] pos) fun h _ v => ∃ r t u z, v = .ref r ∧ IsRange h r m n 1 t u z := ⟨fun s mu S => by
  with_reducible refine wpAny_Call_NameR (wp_bname G K S.up hx hg hv ?_ (by decide))
  have h2 := evs_two h (pos := pos) S
  rw [he] at h2 ⊢
  refine PyProof.Rows.callWith_type rfl (evalArgs_plain (ev_mono h2 ?_))
  rintro vs s₁ ⟨k, S₁, v, u, rfl, r1, r2⟩
  obtain ⟨t, rfl⟩ := rd_int.mp r1
  obtain ⟨t', rfl⟩ := rd_int.mp r2
  exact call_range_2 ⟨kp_trans k (kp_pushT s₁ _ _), _, _, _, _, rfl, IsRange.new ..⟩⟩

theorem ev_lent {a : Expr} {np pos : Pos} {ds : List D} (G : Glo h₀ mg mb) (K : EnvG env) (hx : env.kindOf "len" = some .globalImplicit) (hg : mg "len" = none) (hv : mb "len" = some (.builtin "len")) (ha : Ev nm prog w h₀ A env σ a (.tup ds)) (hn : ds.length < 2 ^ 63)
    (he : starEach [a] env = [(false, eval a env)] := by rfl) : Ev nm prog w h₀ A env σ (.Call (.Name "len" np) [a] [] pos) (.int ds.length) := ⟨fun s mu S => by
  with_reducible refine wp_bcall1 G K hx hg hv ha S he (by decide) fun v s' k S' r => ?_
  obtain ⟨l, vs, rfl, hm, hl, hr⟩ := rd_tup.mp r
  have hlen := hr.length
  with_reducible refine len_tuple hl (by rw [List.size_toArray, hlen]; omega) ?_
  rw [List.size_toArray, hlen]
  exact ⟨kp_trans k (kp_tok s' _), rd_int.mpr ⟨_, rfl⟩⟩⟩
end
end Mine

-- M17
namespace Mine
open PySem PySem.Calls PyProof.Rows PySem.W

theorem notData_type {T : String} (h1 : T ≠ "list") (h2 : T ≠ "tuple") (h3 : T ≠ "dict") : ¬ IsData (.type T) := by
  rintro (q | q | q | ⟨_, q⟩)
  · exact h1 (by simpa using q)
  · exact h2 (by simpa using q)
  · exact h3 (by simpa using q)
  · exact nomatch q

/-- the signs of a text -/
def signsOf (x : Str) : List D := x.cps.toList.map fun c => D.str ⟨#[c]⟩
theorem signsOf_get {x : Str} {i : Nat} {d : D} (h : (signsOf x)[i]? = some d) : ∃ c, x.cps[i]? = some c ∧ d = .str ⟨#[c]⟩ := by
  unfold signsOf at h
  rw [List.getElem?_map] at h
  cases e : x.cps.toList[i]? with
  | none => rw [e] at h; cases h
  | some c => rw [e] at h; cases h; exact ⟨c, by simpa using e, rfl⟩

section
variable {V : Type} [DecidableEq V] {nm : V → Str} {prog : Program} {w : World} {h₀ : Heap} {os : OsState} {A : Around} {env : Env} {σ : V → Option B} {mg mb : Str → Option Value} {str : Bool} {ow : V → Option Addr}

theorem src_str {it : Expr} {x : Str} (hA : A.handled = none) (hit : Ev nm prog w h₀ A env σ it (.str x)) (hn : x.length ≤ 100000) : Src nm prog w h₀ A env σ false it (signsOf x) := ⟨fun s mu S => by
  with_reducible refine ev_then hit S fun v s₁ k S₁ r => ?_
  obtain ⟨t, rfl⟩ := rd_str.mp r
  have hlen : (signsOf x).length = x.cps.size := by simp [signsOf]
  have fin : ∀ (ty : String) (W : Walks prog w A s₁.heap.objs.size [s₁.heap.objs.size] [s₁.heap.objs.size] x.cps.size (SignAt x) (fun i h => h.IsStrIter s₁.heap.objs.size ty x t i)), ty ≠ "list" → ty ≠ "tuple" → ty ≠ "dict" →
      SrcP prog w A s mu false (signsOf x) (.ref s₁.heap.objs.size) { s₁ with heap := s₁.heap.push { cls := .type ty, data := .fields #[.str x t, .int 0 0] } } := by
    intro ty W h1 h2 h3
    refine ⟨s₁.heap.objs.size, _, _, _, _, rfl, kp_trans k (kp_push s₁ _), W, hlen, hn, fresh_old k, ?_, ?_, ?_, ⟨_, Heap.get?_push_size _ rfl, rfl, rfl⟩, fun h => nomatch h⟩
    · rintro i h ⟨o, e, hc, _⟩
      exact ⟨o, e, by rw [hc]; exact notData_type h1 h2 h3, by rw [hc]; exact fun q => nomatch q⟩
    · intro b hb hbI
      exact absurd (List.mem_singleton.mp hb) hbI
    · rintro i v d ⟨c, u, hc, rfl⟩ hd
      obtain ⟨c', hc', rfl⟩ := signsOf_get hd
      rw [hc] at hc'; cases hc'
      exact rd_str.mpr ⟨_, rfl⟩
  cases ha : x.cps.all (· < 128)
  · exact wpAny_pyIter_wide ha (fin _ (Walks.strWide hA _ x t) (by decide) (by decide) (by decide))
  · exact wpAny_pyIter_ascii ha (fin _ (Walks.strAscii hA _ x t) (by decide) (by decide) (by decide))⟩

theorem cmp_eqs {x y : Str} : CmpI prog w A .Eq (.str x) (.str y) (x.cps.toList == y.cps.toList) := ⟨fun s mu u v e e' => by
  obtain ⟨t, rfl⟩ := rd_str.mp e; obtain ⟨t', rfl⟩ := rd_str.mp e'
  with_reducible exact P.eq_str ⟨kp_refl s, rfl⟩⟩
theorem cmp_nes {x y : Str} : CmpI prog w A .NotEq (.str x) (.str y) (x.cps.toList != y.cps.toList) := ⟨fun s mu u v e e' => by
  obtain ⟨t, rfl⟩ := rd_str.mp e; obtain ⟨t', rfl⟩ := rd_str.mp e'
  with_reducible exact P.ne_str ⟨kp_refl s, rfl⟩⟩

/-- tuple(e) of a list -/
theorem ev_tupleOf {a : Expr} {np pos : Pos} {ds : List D} (G : Glo h₀ mg mb) (K : EnvG env) (hx : env.kindOf "tuple" = some .globalImplicit) (hg : mg "tuple" = none) (hv : mb "tuple" = some (.type "tuple")) (ha : EvL nm prog w h₀ A env σ a ds) (hn : ds.length ≤ 100000)
    (he : starEach [a] env = [(false, eval a env)] := by rfl) : Ev nm prog w h₀ A env σ (.Call (.Name "tuple" np) [a] [] pos) (.tup ds) := ⟨fun s mu S => by
  with_reducible refine wp_tcall1 G K hx hg hv ha S he (by decide) fun v s' k S' r => ?_
  obtain ⟨l, vs, rfl, hl, hr⟩ := r
  have hlen := hr.length
  refine call_tuple_list hl (fun h' kk => ?_) (by rw [List.size_toArray, hlen, sizeLine_eq]; omega)
  have k' : Keeps s' { s' with heap := h' } := ⟨h', s'.toks, rfl, kk⟩
  refine ⟨kp_trans k (kp_trans k' (kp_push _ _)), rd_newtup (s := { s' with heap := h' }) (S'.keeps k').lt (hr.keeps kk)⟩⟩

theorem wp_add_lists {s : Shared} {l b : Addr} {vs ws : List Value} {Q : Value → Shared → Prop} {E : Value → Shared → Prop} (hl : s.heap.IsList l (List.toArray vs)) (hb : s.heap.IsList b (List.toArray ws)) (hn : vs.length + ws.length ≤ 200000)
    (h : Q (.ref s.heap.objs.size) { s with heap := s.heap.push { cls := .type "list", data := .seq (List.toArray (vs ++ ws)) } }) : wpAny (model prog w) A (binaryOp .Add (.ref l) (.ref b)) Q E s := by
  obtain ⟨⟨cls, dd, data, sl⟩, ho, hc, n, hd⟩ := id hl
  obtain ⟨⟨cls2, dd2, data2, sl2⟩, ho2, hc2, n2, hd2⟩ := id hb
  dsimp only at hc hd hc2 hd2
  subst hc hd hc2 hd2
  refine concat_meets ⟨_, ho, rfl⟩ ⟨_, ho2, rfl⟩ noFill_list_add seq_list_add PySem.F.slot_list_add PySem.F.entry_list_add (PySem.F.args_list_add_2 _ _) (list_addW l b (List.toArray vs) (List.toArray ws) n n2 dd dd2 sl sl2 (by simp; rw [sizeLine_eq]; omega)) ⟨ho, ho2, ?_⟩
  simpa using h
theorem foldl_one (v : Value) : ∀ (n : Nat) (acc : Array Value), (List.replicate n #[v]).foldl (· ++ ·) acc = acc ++ List.toArray (List.replicate n v)
  | 0, acc => by simp
  | n + 1, acc => by
    rw [List.replicate_succ, List.foldl_cons, foldl_one v n, List.replicate_succ]
    apply Array.ext'
    simp
theorem wp_mul_one {s : Shared} {l : Addr} {v : Value} {x : Int} {u : Tok} {Q : Value → Shared → Prop} {E : Value → Shared → Prop} (hl : s.heap.PlainList l #[v]) (h0 : -1000 ≤ x) (hx : x ≤ 1000)
    (h : Q (.ref s.heap.objs.size) { s with heap := s.heap.push { cls := .type "list", data := .seq (List.toArray (List.replicate x.toNat v)) } }) : wpAny (model prog w) A (binaryOp .Mult (.ref l) (.int x u)) Q E s := by
  obtain ⟨n, hl⟩ := hl
  have e : (List.replicate (if (#[v] : Array Value).isEmpty = true then 0 else x.toNat) #[v]).foldl (fun x1 x2 => x1 ++ x2) #[] = List.toArray (List.replicate x.toNat v) := by
    have := foldl_one v x.toNat #[]
    simpa using this
  have hfit : ¬ Builtin.List.listTooLong ((#[v] : Array Value).size * x.toNat) = true := by
    have h9 : (#[v] : Array Value).size = 1 := rfl
    rw [h9, Nat.one_mul]
    simp [Builtin.List.listTooLong, sizeLine]
    omega
  refine wpAny_binaryOp_repeat_ref (T := "list") (U := "int") (by decide) ⟨_, hl, rfl⟩ (fun s' => typeIs_int s' x u) noFill_list_mul F.fills_int_mul F.slot_int_rmul repeat_list F.slot_int_index.lookup
    (call_meets F.slot_int_rmul (typeIs_int s x u) F.entry_int_rmul (F.args_int_rmul_2 _ _) (int___rmul___int_list x u l #[v] n)
      ⟨hl, rfl, ⟨_, hl, rfl⟩, call_meets F.slot_list_mul ⟨_, hl, rfl⟩ F.entry_list_mul (F.args_list_mul_2 _ _)
        (AutoListH.list___mul___list_int_3 l #[v] n x u (by simp [Builtin.List.listFitsIndex]; omega) (by have h9 : (#[v] : Array Value).size = 1 := rfl; rw [h9]; omega) hfit) ⟨hl, ?_⟩⟩)
  rw [e]
  exact h
end
end Mine

-- M18
namespace Mine
open PySem PySem.Calls PyProof.Rows PySem.W
section
variable {V : Type} [DecidableEq V] {nm : V → Str} {prog : Program} {w : World} {h₀ : Heap} {os : OsState} {A : Around} {env : Env} {σ : V → Option B} {mg mb : Str → Option Value} {str : Bool} {ow : V → Option Addr}

theorem RdL.rep {h : Heap} {mu : Addr → Prop} {d : D} {v : Value} (x : Rd h mu d v) : ∀ n : Nat, RdL h mu (List.replicate n d) (List.replicate n v)
  | 0 => rdl_nil'
  | n + 1 => rdl_cons' x (RdL.rep x n)

/-- [e] * n -/
theorem ev_mul1 {e f : Expr} {p q : Pos} {d : D} {n : Int} (he : Ev nm prog w h₀ A env σ e d) (hf : Ev nm prog w h₀ A env σ f (.int n)) (h0 : -1000 ≤ n) (hn : n ≤ 1000)
    (hs : starEach [e] env = (false, eval e env) :: starEach [] env := by rfl) : Ev nm prog w h₀ A env σ (.BinOp (.List [e] p) .Mult f q) (.list (List.replicate n.toNat d)) := ⟨fun s mu S => by
  have h := (evs_cons (nm := nm) (prog := prog) (w := w) (h₀ := h₀) (A := A) (env := env) (σ := σ) he evs_nil hs).run p s mu S
  with_reducible refine wpAny_BinOp (wpAny_List (ev_mono h ?_))
  rintro vs s₁ ⟨k₁, r₁⟩
  obtain ⟨v, vs', rfl, rv, r'⟩ := rdl_cons.mp r₁
  have e' := rdl_nil.mp r'
  subst e'
  have k₂ : Keeps s { s₁ with heap := s₁.heap.push { cls := .type "list", data := .seq (List.toArray [v]) } } := kp_trans k₁ (kp_push s₁ _)
  refine ⟨by rw [sizeLine_eq]; simp, ?_⟩
  with_reducible refine ev_then hf (S.keeps k₂) fun u s₃ k₃ S₃ r₃ => ?_
  obtain ⟨t, rfl⟩ := rd_int.mp r₃
  have hpl : s₃.heap.PlainList s₁.heap.objs.size #[v] := ⟨0, kp_heap k₃ _ _ (Heap.get?_push_size _ rfl)⟩
  refine wp_mul_one hpl h0 hn ?_
  have rv' : Rd s₃.heap mu d v := (rv.keeps (kp_heap (kp_push s₁ _))).keeps (kp_heap k₃)
  exact ⟨kp_trans k₂ (kp_trans k₃ (kp_push s₃ _)), rd_newlist S₃.lt (RdL.rep rv' _)⟩⟩

/-- e + f, a new list -/
theorem evo_add {e f : Expr} {p : Pos} {ds ds' : List D} (he : EvL nm prog w h₀ A env σ e ds) (hf : EvL nm prog w h₀ A env σ f ds') (hn : ds.length + ds'.length ≤ 200000) : EvO nm prog w h₀ A env (.BinOp e .Add f p) σ (.ol (ds ++ ds')) := ⟨fun s mu S => by
  with_reducible refine wpAny_BinOp (ev_then he S fun v s₁ k₁ S₁ r₁ => ev_then hf S₁ fun u s₂ k₂ S₂ r₂ => ?_)
  obtain ⟨a, vs, rfl, hl, hr⟩ := r₁
  obtain ⟨b, ws, rfl, hl', hr'⟩ := r₂
  have hl₂ : s₂.heap.IsList a (List.toArray vs) := hl.at fun o e => kp_heap k₂ a o e
  have k := kp_trans k₁ (kp_trans k₂ (kp_push s₂ { cls := .type "list", data := .seq (List.toArray (vs ++ ws)) }))
  refine wp_add_lists hl₂ hl' (by rw [hr.length, hr'.length]; omega) ⟨k, rfl, _, rfl, ?_, vs ++ ws, ⟨0, Heap.get?_push_size _ rfl⟩, ?_⟩
  · exact fresh_old (kp_trans k₁ k₂)
  · exact RdL.move (fun b o hb e _ => ⟨Heap.get?_push_of_some _ e, fun h => h.elim hb fun h => Nat.ne_of_lt (Heap.lt_size e) h⟩) _ _ ((hr.keeps (kp_heap k₂)).append hr')⟩

theorem trs_assign3 (K : EnvOk h₀ env) (hnm : ∀ x y, nm x = nm y → x = y) {x y z : V} {p q r : Addr} {e : Expr} {px py pz pos : Pos} {i : Int} {Post : FD → (V → Option B) → Prop} (hp : Slot' env (nm x) p) (hq : Slot' env (nm y) q) (hr : Slot' env (nm z) r) (h : Ev nm prog w h₀ A env σ e (.int i))
    (hP : Post .next (upd (upd (upd σ x (some (.im (.int i)))) y (some (.im (.int i)))) z (some (.im (.int i))))) (he : (assignEach [.Name (nm x) px, .Name (nm y) py, .Name (nm z) pz] env).map (·.2) = [assign (.Name (nm x) px) env, assign (.Name (nm y) py) env, assign (.Name (nm z) pz) env] := by rfl)
    (hw : swappedStores [.Name (nm x) px, .Name (nm y) py, .Name (nm z) pz] e env = pure none := by rfl) : TrS nm prog w h₀ os A env str (.Assign [.Name (nm x) px, .Name (nm y) py, .Name (nm z) pz] e pos) σ Post := ⟨fun ow s S => by
  with_reducible refine wpAny_Assign_three (ev_then h S.stt fun v s₁ k _ r => ?_) he hw
  have hi : ∀ {s' : Shared} {mu : Addr → Prop}, Rd s'.heap mu (.int i) v := by obtain ⟨t, rfl⟩ := rd_int.mp r; exact rd_int.mpr ⟨_, rfl⟩
  with_reducible refine wpAny_assign_Name (wp_store (str := str) K hnm (b := .im (.int i)) S k (newb_im hi) hp fun s₂ S₂ t₂ _ => ?_)
  with_reducible refine wpAny_assign_Name (wp_store (str := str) K hnm (b := .im (.int i)) S₂ (kp_refl _) (newb_im hi) hq fun s₃ S₃ t₃ _ => ?_)
  with_reducible refine wpAny_assign_Name (wp_store (str := str) K hnm (b := .im (.int i)) S₃ (kp_refl _) (newb_im hi) hr fun s₄ S₄ t₄ _ => ?_)
  exact Res.next S₄ (t₂.trans (t₃.trans t₄)) hP⟩

theorem setitem_plain {s : Shared} {l : Addr} {items : Array Value} {k : Int} {t : Tok} {v : Value} {Q : Unit → Shared → Prop} {E : Value → Shared → Prop} (hl : s.heap.PlainList l items) (h0 : 0 ≤ k) (hfit : k < 2 ^ 63) (hn : k < items.size)
    (hQ : ∀ h', h'.PlainList l (items.setIfInBounds k.toNat v) → Heap.SameBut l s.heap h' → Q () { s with heap := h' }) : wpAny (model prog w) A (setItem (.ref l) (.int k t) v) Q E s := by
  obtain ⟨n, hl⟩ := hl
  have il : s.heap.IsList l items := ⟨_, hl, rfl, n, rfl⟩
  unfold setItem
  try with_reducible refine wpAny_holding ?_
  first | refine wpAny_bind (wpAny_pure ?_) | skip
  refine wpAny_bind (wpAny_sequenceKey il.typeIs (by decide) (wpAny_bind (wpAny_callSpecial?_slot (name := Str.ofString "__setitem__") il.typeIs slot_list_setitem (wpAny_call_entry slot_list_setitem il.typeIs entry_list_setitem ?_ (args_list_setitem _ _ _)))))
  show wpAny _ _ (Builtin.List.listSubscript? (.int k t) >>= _) _ _ s
  refine wpAny_bind (wpAny_listSubscript_int (fitsIndex_of h0 hfit) ?_)
  clear hfit
  obtain ⟨j, rfl⟩ := Int.eq_ofNat_of_zero_le h0
  have hj : j < items.size := by omega
  show wpAny _ _ ((seqItemAt l j >>= fun r => pure (r.map (j, ·))) >>= _) _ _ s
  refine wpAny_bind (wpAny_bind (wpAny_seqItemAt hl rfl (wpAny_pure ?_)))
  rw [Array.getElem?_eq_getElem hj]
  show wpAny _ _ (setSeqItemAt l j v >>= _) _ _ s
  have fin : (s.heap.update l (Obj.mapSeq (·.setIfInBounds j v))).PlainList l (items.setIfInBounds j v) := ⟨_, Heap.get?_update_self _ hl rfl⟩
  refine wpAny_bind (wpAny_setSeqItemAt hl rfl ?_)
  first
    | exact wpAny_bind (wpAny_pure (wpAny_pure ⟨.none, rfl, wpAny_pure (hQ _ fin (Heap.SameBut.update ..))⟩))
    | exact wpAny_pure ⟨.none, rfl, wpAny_pure (hQ _ fin (Heap.SameBut.update ..))⟩
end
end Mine

-- M19
namespace Mine
open PySem PySem.Calls PyProof.Rows PySem.W
theorem RdL.set {h : Heap} {mu : Addr → Prop} {d : D} {v : Value} (x : Rd h mu d v) : ∀ {ds : List D} {vs : List Value} (j : Nat), RdL h mu ds vs → RdL h mu (ds.set j d) (vs.set j v)
  | [], _, j, y => by rw [rdl_nil.mp y]; exact rdl_nil'
  | e :: ds, _, 0, y => by
    obtain ⟨v', vs', rfl, hd, hl⟩ := rdl_cons.mp y
    exact rdl_cons' x hl
  | e :: ds, _, j + 1, y => by
    obtain ⟨v', vs', rfl, hd, hl⟩ := rdl_cons.mp y
    exact rdl_cons' hd (RdL.set x j hl)
section
variable {V : Type} [DecidableEq V] {nm : V → Str} {prog : Program} {w : World} {h₀ : Heap} {os : OsState} {A : Around} {env : Env} {σ : V → Option B} {mg mb : Str → Option Value} {str : Bool} {ow : V → Option Addr}

theorem trs_setitem (K : EnvOk h₀ env) {x : V} {i e : Expr} {np tp pos : Pos} {ds : List D} {d : D} {j : Int} {Post : FD → (V → Option B) → Prop} (hx : σ x = some (.ol ds)) (h : Ev nm prog w h₀ A env σ e d) (hi : Ev nm prog w h₀ A env σ i (.int j)) (h0 : 0 ≤ j) (hj : j < ds.length) (hn : ds.length ≤ 100000)
    (hq : Post .next (upd σ x (some (.ol (ds.set j.toNat d))))) (hd : (nm x == ("__debug__" : Str)) = false := by decide)
    (hs : swapsWith e (some (.Subscript (.Name (nm x) np) i tp)) pos.line env = pure false := by rfl) : TrS nm prog w h₀ os A env str (.Assign [.Subscript (.Name (nm x) np) i tp] e pos) σ Post := ⟨fun ow s S => by
  with_reducible refine wpAny_Assign_Subscript (ev_then h S.stt fun v s₁ k₁ S₁ r₁ => ?_) hs
  obtain ⟨a, ha, hr, vs, hl, hrl⟩ := S.own x _ hx rfl
  with_reducible refine wp_name K.kind (hr.keeps (kp_heap k₁)) (ev_then hi S₁ fun u s₂ k₂ S₂ r₂ => ?_) hd
  obtain ⟨t, rfl⟩ := rd_int.mp r₂
  have k := kp_trans k₁ k₂
  have hl₂ : s₂.heap.PlainList a (List.toArray vs) := hl.at fun o e => kp_heap k a o e
  have hlen := hrl.length
  refine setitem_plain hl₂ h0 (by omega) (by rw [List.size_toArray, hlen]; exact hj) fun h' hl' hs' => ?_
  have ham : Mu env ow a := .inr (.inr ⟨x, ha⟩)
  have mv : ∀ q o, ¬ Mu env ow q → s₂.heap.get? q = some o → IsData o.cls → h'.get? q = some o ∧ ¬ Mu env ow q := fun q o hq e _ => ⟨(hs'.2 q (fun e' => hq (e' ▸ ham))).trans e, hq⟩
  have z := st_changed (str := str) K (s₂ := { s₂ with heap := h' }) (b' := .ol (ds.set j.toNat d)) S k hx rfl rfl ha hs' ⟨vs.set j.toNat v, by simpa using hl', RdL.move mv _ _ (RdL.set (r₁.keeps (kp_heap k₂)) _ (hrl.keeps (kp_heap k)))⟩ ⟨_, _, rfl⟩
  exact Res.next z.1 z.2 hq⟩

/-- an attribute of a class that stands: a text -/
theorem ev_clsattr {KK : Frag} {C : Addr} {x attr y : Str} {t : Tok} {np pos : Pos} (k : KOf KK h₀) (G : Glo h₀ mg mb) (K : EnvG env) (hx : env.kindOf x = some .globalImplicit) (hv : mg x = some (.ref C)) (hdb : (x == ("__debug__" : Str)) = false)
    {mc : Value} (hr : readsIn KK C mc = true) (e : findCls KK (.ref C) mc attr = some (.val (.str y t))) : Ev nm prog w h₀ A env σ (.Attribute (.Name x np) attr pos) (.str y) := ⟨fun s mu S => by
  with_reducible refine Attribute_name (wp_gname G K S.up hx hv ?_ hdb)
  exact cls_value (k.up S.up) hr e rfl ⟨kp_tok s _, rd_str.mpr ⟨_, rfl⟩⟩⟩
/-- an attribute of an object with its own dict: a text -/
theorem ev_instattr {KK : Frag} {C a dx : Addr} {es : List DictEntry} {n : Nat} {x attr y : Str} {t : Tok} {np pos : Pos} (k : KOf KK h₀) (hg : plainGet KK C attr = true) (hd : hasDictIn KK C = true) (hf : findIn KK (.ref C) attr = some none)
    (h : Ev nm prog w h₀ A env σ (.Name x np) (.inst a dx C es n)) (e : getL attr es = some (some (.str y t))) : Ev nm prog w h₀ A env σ (.Attribute (.Name x np) attr pos) (.str y) := ⟨fun s mu S => by
  with_reducible refine Attribute_name (ev_then h S fun v s₁ k₁ S₁ r₁ => ?_)
  obtain ⟨rfl, h1, h2, h3, h4⟩ := rd_inst.mp r₁
  have I : InstAt s₁.heap a (instObj C dx) C (some (dictOf es n)) := ⟨h3, rfl, rfl, h4⟩
  refine get_value (k.up S₁.up) I (plainGet_of hg).1 (findObj_own hd hf rfl e) rfl ?_
  exact ⟨kp_trans k₁ (kp_tok s₁ _), rd_str.mpr ⟨_, rfl⟩⟩⟩
end
end Mine

-- M20
namespace Mine
open PySem PySem.Calls PyProof.Rows PySem.W
def FlatB : B → Prop
  | .im d => FlatD d
  | .ol ds => ∀ d ∈ ds, FlatD d
  | .od _ _ => False
/-- the class takes plain stores -/
structure SetCls (K : Frag) (C : Addr) : Prop where
  set : findIn K (.ref C) "__setattr__" = some (some (.builtin "object.__setattr__"))
  over : plainOver K C = true
  dict : hasDictIn K C = true
section
variable {V : Type} [DecidableEq V] {nm : V → Str} {prog : Program} {w : World} {h₀ : Heap} {os : OsState} {A : Around} {env : Env} {σ : V → Option B} {mg mb : Str → Option Value} {str : Bool} {ow : V → Option Addr}

theorem wp_osa {KK : Frag} {s : Shared} {x C dx : Addr} {es : List DictEntry} {n : Nat} {name : Str} {tk : Tok} {v : Value} {R : Result → Shared → Prop} (X : KK.In s.heap) (Cc : SetCls KK C) (hx : s.heap.get? x = some (instObj C dx)) (hdx : s.heap.get? dx = some (dictOf es n))
    (ht : takerIn KK C name = some none) (hl : (getL name es).isSome = true) (hz : (putL name (PyData.keyHash w.params name) (.str name s.toks) v es).length ≤ 1000)
    (h : ∀ h', h'.get? dx = some (dictOf (putL name (PyData.keyHash w.params name) (.str name s.toks) v es) (putN name es n)) → Heap.SameBut dx s.heap h' → R (.ok (.ret .none)) { s with heap := h', toks := s.toks + 1 }) :
    codeAny (model prog w) A (.call (.builtin "object.__setattr__") ⟨[.ref x, .str name tk, v], []⟩) R s := by
  have I : InstAt s.heap x (instObj C dx) C (some (dictOf es n)) := ⟨hx, rfl, rfl, hdx⟩
  refine osa_open X I Cc.over ht fun b => ?_
  obtain ⟨cd, hc, hd'⟩ := any_some Cc.dict
  refine wpAny_bind (wpAny_pure (wpAny_bind (wpAny_bind (wpAny_loadPart hx (wpAny_bind ((looks_clsIn X hc).here ?_))))))
  rw [hd']
  refine wpAny_pure (a := some dx) (wpAny_bind (wpAny_pure (wpAny_bind ?_)))
  unfold nsSet
  refine wpAny_bind (wpAny_bind (wpAny_askSetting (wpAny_pure (wpAny_bind (wpAny_mkText (wpAny_bind (wpAny_loadPart hdx ?_)))))))
  dsimp only [dictOf]
  have c : (!es.toArray.any (·.key.isStr name) && es.toArray.any (·.refKey)) = false := by
    rw [← Array.any_toList, ← Array.any_toList]
    show (!es.any _ && es.any _) = false
    unfold getL at hl
    split at hl
    · rename_i en he
      rw [List.any_eq_true.mpr ⟨en, List.mem_of_find?_eq_some he, List.find?_some he⟩]; rfl
    · split at hl
      · cases hl
      · rename_i z; rw [Bool.not_eq_true] at z; rw [z, Bool.and_false]
  rw [aRefKeyMayBeTheName_at, c]
  have hput := putName_dict name (PyData.keyHash w.params name) (.str name s.toks) v es n
  have hself : (s.heap.update dx (Obj.putName name (PyData.keyHash w.params name) (.str name s.toks) v)).get? dx = some (dictOf (putL name (PyData.keyHash w.params name) (.str name s.toks) v es) (putN name es n)) := by
    rw [Heap.get?_update_self _ hdx (by rw [hput]; rfl), hput]
  refine wpAny_updatePart hdx (wpAny_bind (wpAny_lookBehind hself (by exact pastItsLine_dict (by rw [List.size_toArray, sizeLine_eq]; omega)) ?_))
  exact wpAny_pure (h _ hself (Heap.SameBut.update ..))
theorem wp_setattr {KK : Frag} {s : Shared} {x C dx : Addr} {es : List DictEntry} {n : Nat} {name : Str} {v : Value} {Q : Unit → Shared → Prop} {E : Value → Shared → Prop} (X : KK.In s.heap) (Cc : SetCls KK C) (hx : s.heap.get? x = some (instObj C dx)) (hdx : s.heap.get? dx = some (dictOf es n))
    (ht : takerIn KK C name = some none) (hl : (getL name es).isSome = true) (hz : (putL name (PyData.keyHash w.params name) (.str name (s.toks + 1)) v es).length ≤ 1000)
    (h : ∀ h', h'.get? dx = some (dictOf (putL name (PyData.keyHash w.params name) (.str name (s.toks + 1)) v es) (putN name es n)) → Heap.SameBut dx s.heap h' → Q () { s with heap := h', toks := s.toks + 2 }) :
    wpAny (model prog w) A (setAttr (.ref x) name v) Q E s :=
  set_plain X (ox := instObj C dx) (od := some (dictOf es n)) ⟨hx, rfl, rfl, hdx⟩ Cc.set (wp_osa (s := { s with toks := s.toks + 1 }) X Cc hx hdx ht hl hz h)

theorem st_inst {s : Shared} {x : V} {a dx C : Addr} {es es' : List DictEntry} {n n' t : Nat} {h' : Heap} (S : StO nm prog w h₀ os env ow σ s) (hx : σ x = some (.im (.inst a dx C es n))) (hfl : ∀ y b, σ y = some b → y ≠ x → FlatB b) (h0 : h₀.get? dx = none) (hs : Heap.SameBut dx s.heap h')
    (hd : h'.get? dx = some (dictOf es' n')) : StO nm prog w h₀ os env ow (upd σ x (some (.im (.inst a dx C es' n')))) { s with heap := h', toks := t } := by
  obtain ⟨v, hr, hv⟩ := S.im x _ hx
  obtain ⟨rfl, ha, hdx, hga, hgd⟩ := rd_inst.mp hv
  have at' : ∀ q o, q ≠ dx → s.heap.get? q = some o → h'.get? q = some o := fun q o hq e => (hs.2 q hq).trans e
  have muN : ∀ q, Mu env ow q → q ≠ dx := fun q hq h => hdx (h ▸ hq)
  have rdn : ∀ z u, RdN env s.heap z u → RdN env h' z u := by
    intro z u r
    rcases r with ⟨e, m, hm, hu⟩ | ⟨e, c, hc, ho⟩
    · exact .inl ⟨e, m, hm.sameBut hs (muN _ (.inl rfl)), hu⟩
    · exact .inr ⟨e, c, hc, ho.sameBut hs (muN _ (.inr (.inl ⟨_, mem_of_lookup' hc, rfl⟩)))⟩
  have hadx : a ≠ dx := fun h => by subst h; rw [hga] at hgd; cases hgd
  refine ⟨fun b o e c => at' b o (fun h => by subst h; rw [h0] at e; cases e) (S.up b o e c), oldk_step S.old h0 hs, fun y d hy => ?_, fun y b hy hb => ?_, S.inj, fun y q hq => ?_, ?_, fun c hc => ?_, S.bare, S.os⟩
  · by_cases hyx : y = x
    · subst hyx; rw [upd_same] at hy; cases hy
      exact ⟨_, rdn _ _ hr, rd_inst.mpr ⟨rfl, ha, hdx, at' _ _ hadx hga, hd⟩⟩
    · rw [upd_ne _ _ hyx] at hy
      obtain ⟨u, hu, hd'⟩ := S.im y d hy
      exact ⟨u, rdn _ _ hu, FlatD.rd (hfl y _ hy hyx) hd'⟩
  · by_cases hyx : y = x
    · subst hyx; rw [upd_same] at hy; cases hy; cases hb
    · rw [upd_ne _ _ hyx] at hy
      obtain ⟨q, hq, hu, hO⟩ := S.own y b hy hb
      have fb := hfl y b hy hyx
      refine ⟨q, hq, rdn _ _ hu, ?_⟩
      cases b with
      | im d => cases hb
      | od _ _ => exact fb.elim
      | ol ds =>
        obtain ⟨vs, hl, hrl⟩ := hO
        exact ⟨vs, hl.at fun o e => at' q o (muN q (.inr (.inr ⟨y, hq⟩))) e, flat_rdl fb hrl⟩
  · have z := S.sep y q hq
    obtain ⟨o, e⟩ := z.2.2.2
    exact ⟨z.1, z.2.1, z.2.2.1, o, at' q o (muN q (.inr (.inr ⟨y, hq⟩))) e⟩
  · obtain ⟨m, hm⟩ := S.ns
    exact ⟨m, hm.sameBut hs (muN _ (.inl rfl))⟩
  · obtain ⟨v, e⟩ := S.cells c hc
    exact ⟨v, e.sameBut hs (muN _ (.inr (.inl ⟨c, hc, rfl⟩)))⟩

/-- x.attr = e, x an object with its own dict: one statement of a constructor -/
theorem wp_attrset {KK : Frag} {s : Shared} {x : V} {a dx C : Addr} {es : List DictEntry} {n : Nat} {attr : Str} {e : Expr} {np ap pos : Pos} {P : Heap → Value → Prop} {Q : Flow → Shared → Prop} {E : Value → Shared → Prop} (KF : KOf KK h₀) (Cc : SetCls KK C) (K : EnvG env)
    (S : StO nm prog w h₀ os env ow σ s) (hx : σ x = some (.im (.inst a dx C es n))) (hfl : ∀ y b, σ y = some b → y ≠ x → FlatB b) (h0 : h₀.get? dx = none) (h : wpAny (model prog w) A (eval e env) (fun v s₁ => Keeps s s₁ ∧ P s₁.heap v) (fun _ _ => False) s) (ht : takerIn KK C attr = some none) (hl : (getL attr es).isSome = true) (hz : ∀ t v, (putL attr (PyData.keyHash w.params attr) (.str attr t) v es).length ≤ 1000)
    (hQ : ∀ v s₁ h' t, Keeps s s₁ → P s₁.heap v → Heap.SameBut dx s₁.heap h' → StO nm prog w h₀ os env ow (upd σ x (some (.im (.inst a dx C (putL attr (PyData.keyHash w.params attr) (.str attr (s₁.toks + 1)) v es) (putN attr es n))))) { s₁ with heap := h', toks := t } → Q .next { s₁ with heap := h', toks := t })
    (hdb : (nm x == ("__debug__" : Str)) = false := by decide) (hs : swapsWith e (some (.Attribute (.Name (nm x) np) attr ap)) pos.line env = pure false := by rfl) :
    wpAny (model prog w) A (exec (.Assign [.Attribute (.Name (nm x) np) attr ap] e pos) env) Q E s := by
  with_reducible refine plainObj_wpAny_Assign_Attribute (ev_mono h ?_) hs
  rintro v s₁ ⟨k, r⟩
  have S₁ := (st_keeps (str := true) S k).1
  obtain ⟨u, hr, hv⟩ := S₁.im x _ hx
  obtain ⟨rfl, ha, hdx, hga, hgd⟩ := rd_inst.mp hv
  with_reducible refine wp_name K.kind hr ?_ hdb
  refine wp_setattr (KF.up S₁.up) Cc hga hgd ht hl (hz _ _) fun h' hd' hs' => ?_
  exact hQ v s₁ h' _ k r hs' (st_inst (t := s₁.toks + 2) S₁ hx hfl h0 hs' hd')

theorem execs_append (env : Env) (tail : List Stmt) : ∀ ss : List Stmt, execs (ss ++ tail) env = (execs ss env >>= fun f => match f with | .next => execs tail env | f => pure f)
  | [] => rfl
  | st :: ss => by
    rw [List.cons_append, execs_cons, execs_cons, execs_append env tail ss]
    conv => rhs; rw [Sem.bind_eq_wrap']; arg 5; rw [Sem.bind_eq_wrap']
    conv => rhs; rw [Sem.wrap_wrap]
    rw [Sem.bind_eq_wrap']
    refine Sem.wrap_congr _ _ _ (fun f => ?_) fun _ => rfl
    cases f with
    | next => exact Sem.bind_eq_wrap' _ _
    | _ => rfl
theorem wp_execs_append {ss tail : List Stmt} {s : Shared} {Q : Flow → Shared → Prop} {E : Value → Shared → Prop} (h : wpAny (model prog w) A (execs ss env) (fun f s' => match f with | .next => wpAny (model prog w) A (execs tail env) Q E s' | f => Q f s') E s) : wpAny (model prog w) A (execs (ss ++ tail) env) Q E s := by
  rw [execs_append]
  refine wpAny_bind (wpAny_mono h (fun f s' q => ?_) fun _ _ x => x)
  cases f with
  | next => exact q
  | _ => exact wpAny_pure q
end
end Mine

-- M21
namespace Mine
open PySem PySem.Calls PyProof.Rows PySem.W
section
variable {V : Type} [DecidableEq V] {nm : V → Str} {prog : Program} {w : World} {h₀ : Heap} {os : OsState} {A : Around} {env : Env} {σ : V → Option B} {mg mb : Str → Option Value} {str : Bool} {ow : V → Option Addr}

theorem code_enter (hnm : ∀ x y, nm x = nm y → x = y) (G : Glo h₀ mg mb) {n : Nat} (hA : Ok (n + 1) A) {a : Addr} {ps : List V} {scope : Scope} {body : List Stmt} (F : FnAt nm h₀ a ps scope body) (hps : ps.Nodup) {ds : List D} (hl : ds.length = ps.length)
    {s : Shared} {mu : Addr → Prop} {vs : List Value} (up : Up h₀ s.heap) (old : OldK h₀ s.heap) (bare : AllBare s.gens) (hr : RdL s.heap mu ds vs) {R : Result → Shared → Prop}
    (h : ∀ env s', FEnv h₀ scope env → StO nm prog w h₀ s.os env (fun _ => none) (argsσ ps ds) s' → Keeps s s' → (∀ q, Mu env (fun _ : V => none) q → s.heap.get? q = none) →
      wpAny (model prog w) (A.deeper env) (execs body env) (fun f s'' => R (.ok (.ret (match f with | .ret v => v | _ => .none))) s'') (fun _ _ => False) s') :
    codeAny (model prog w) A (.call (.ref a) ⟨vs, []⟩) R s := by
  obtain ⟨o, fd, c, oc, cvs, t, ho, hoc, hd, hsc, hbd, hclo, hgl, hbt, hcd, hc, hcc, hcf, hcq, hbind⟩ := F.ex
  subst hsc
  have hlen : vs.length = ps.length := hr.length.trans hl
  refine codeAny_call_function (by have := hA.depth; omega) (up a o ho (.inl hoc)) hd F.co F.gen hbd ⟨c, oc, cvs, t, hcd, up c oc hc (.inl hcc), hcf, hcq⟩ ?_
  rw [hbind vs hlen, hclo]
  refine wpAny_pure (wpAny_newFunctionEnv F.nocell (fun x hx => ?_) (fun h₁ hns hsb => ⟨(up.lim G.lim).fresh _ hsb, ?_⟩) F.kind)
  · have h1 := List.of_mem_zip (show (x.1, x.2) ∈ _ from hx)
    obtain ⟨y, hy, e⟩ := List.mem_map.mp h1.1
    rw [← e]; exact F.loc y hy
  · have keep : ∀ b o, s.heap.get? b = some o → h₁.get? b = some o := fun b o e => hsb.extBut b o (Nat.ne_of_lt (Heap.lt_size e)) (Heap.get?_push_of_some _ e)
    have k₁ : Keeps s { s with heap := h₁, toks := s.toks + ((ps.map nm).zip vs).length } := ⟨h₁, _, rfl, keep⟩
    have hLn : s.heap.get? s.heap.objs.size = none := fresh_old (kp_refl s)
    generalize henv : newEnv fd.scope s.heap.objs.size fd.globals [] (fd.qualname ++ ".<locals>.") (some a) fd.code none fd.builtins = env
    have eL : env.locals = s.heap.objs.size := by rw [← henv]; rfl
    have eC : env.cells = [] := by rw [← henv]; rfl
    have eS : env.scope = fd.scope := by rw [← henv]; rfl
    have FE : FEnv h₀ fd.scope env := by
      refine ⟨⟨⟨by rw [eS]; exact F.kind, by rw [← henv]; exact hgl, by rw [← henv]; exact hbt⟩, ?_, ?_, ?_, ?_⟩, eS, eC⟩
      · rw [eL]; exact none_of_old old hLn
      · intro c hc; rw [eC] at hc; cases hc
      · intro c hc; rw [eC] at hc; cases hc
      · intro x y c hx; rw [eC] at hx; cases hx
    have mu0 : ∀ q, Mu env (fun _ : V => none) q → q = s.heap.objs.size := by
      rintro q (h | ⟨c, hc, _⟩ | ⟨y, h⟩)
      · exact h.trans eL
      · rw [eC] at hc; cases hc
      · cases h
    have S₀ : StO nm prog w h₀ s.os env (fun _ : V => none) (argsσ ps ds) { s with heap := h₁, toks := s.toks + ((ps.map nm).zip vs).length } := by
      refine ⟨up.keeps keep, old.step_keeps keep, fun x d hx => ?_, fun x b hx hb => ?_, fun x y a h => (nomatch h), fun x a h => (nomatch h), ⟨_, by rw [eL]; exact hns⟩, fun c hc => (by rw [eC] at hc; exact nomatch hc), bare, rfl⟩
      · unfold argsσ at hx
        cases e : (ps.zip ds).lookup x with
        | none => rw [e] at hx; cases hx
        | some d' =>
          rw [e] at hx; cases hx
          obtain ⟨i, h1, h2⟩ := lookup_zip_get ps ds x d e
          obtain ⟨v, hv, rv⟩ := hr.get h2
          refine ⟨v, .inl ⟨?_, _, by rw [eL]; exact hns, reverse_lookup_zip hnm ps vs i x v hps h1 hv hlen⟩, Rd.move (fun b o hb e _ => ⟨keep b o e, fun h => ?_⟩) _ _ rv⟩
          · show env.scope.names.lookup (nm x) = _
            rw [eS]; exact F.loc x (List.mem_of_getElem? h1)
          · rw [mu0 b h, hLn] at e; cases e
      · unfold argsσ at hx
        cases e : (ps.zip ds).lookup x with
        | none => rw [e] at hx; cases hx
        | some d' => rw [e] at hx; cases hx; cases hb
    exact codeAny_func (wf (h env _ FE S₀ k₁ fun q hq => by rw [mu0 q hq]; exact hLn))
end
theorem made_weight (args : Args) : (Code.builtin "type.__call__" args).weight ≤ 1 := by
  have h1 : (Code.builtin "type.__call__" args).frames = (Code.builtin "type.__call__" ⟨[], []⟩).frames := rfl
  have h1' : (Code.builtin "type.__call__" ⟨[], []⟩).frames = 0 := by decide +kernel
  have h3 : (Code.builtin "type.__call__" args).isGuard = (Code.builtin "type.__call__" ⟨[], []⟩).isGuard := rfl
  have h3' : (Code.builtin "type.__call__" ⟨[], []⟩).isGuard = false := by decide +kernel
  have h4 : (Code.builtin "type.__call__" args).isCaller = (Code.builtin "type.__call__" ⟨[], []⟩).isCaller := rfl
  have h4' : (Code.builtin "type.__call__" ⟨[], []⟩).isCaller = false := by decide +kernel
  unfold Code.weight
  rw [h1, h1', h3, h3', h4, h4']
  simp only [Bool.false_eq_true, if_false]
  split <;> decide
theorem Ok.made {n : Nat} {A : Around} (h : Ok (n + 1) A) (args : Args) : Ok n (A.under (.builtin "type.__call__" args)) where
  handled := h.handled
  depth := by
    have := h.depth
    have := made_weight args
    show A.depth + Code.weight _ + n < _
    omega
  units := by
    have := h.units
    have e : Code.cUnits (.builtin "type.__call__" args) = 1 + 3 * (Code.builtin "type.__call__" args).frames := rfl
    have h1 : (Code.builtin "type.__call__" args).frames = (Code.builtin "type.__call__" ⟨[], []⟩).frames := rfl
    have h2 : (Code.builtin "type.__call__" ⟨[], []⟩).frames ≤ 2 := by decide +kernel
    show A.units + Code.cUnits (.builtin "type.__call__" args) + _ + _ < _
    rw [e, h1]
    omega
end Mine

-- M22
namespace Mine
open PySem PySem.Calls PyProof.Rows PySem.W

/-- a target, its stand-in, an expression and what it gives -/
structure TI (V : Type) where
  x : V
  px : Pos
  g : V
  e : Expr
  b : B

section
variable {V : Type} [DecidableEq V] {nm : V → Str} {prog : Program} {w : World} {h₀ : Heap} {os : OsState} {A : Around} {env : Env} {σ : V → Option B} {mg mb : Str → Option Value} {str : Bool} {ow : V → Option Addr}

theorem mu_upd_some {x : V} {a : Addr} {q : Addr} (h : Mu env (upd ow x (some a)) q) : Mu env ow q ∨ q = a := by
  rcases h with h | h | ⟨y, h⟩
  · exact .inl (.inl h)
  · exact .inl (.inr (.inl h))
  · by_cases hyx : y = x
    · subst hyx; rw [upd_same] at h; cases h; exact .inr rfl
    · rw [upd_ne _ _ hyx] at h; exact .inl (.inr (.inr ⟨y, h⟩))
/-- a new object is set aside -/
theorem st_adopt {s s₁ : Shared} {g : V} {a : Addr} (S : StO nm prog w h₀ os env ow σ s) (k : Keeps s s₁) (hg : σ g = none) (hog : ow g = none) (hf : s.heap.get? a = none) (ht : ∃ o, s₁.heap.get? a = some o) :
    StO nm prog w h₀ os env (upd ow g (some a)) σ s₁ ∧ Step str (Mu env ow) (Mu env (upd ow g (some a))) s s₁ := by
  have S₁ := (st_keeps (str := str) S k).1
  have ha0 : h₀.get? a = none := none_of_old S.old hf
  have hne : ∀ q, Mu env ow q → a ≠ q := fun q hq h => by
    obtain ⟨o, e⟩ := S.stt.lt q hq
    rw [← h, hf] at e; cases e
  have mv : ∀ q o, ¬ Mu env ow q → s.heap.get? q = some o → IsData o.cls → s₁.heap.get? q = some o ∧ ¬ Mu env (upd ow g (some a)) q := fun q o hq e _ => ⟨kp_heap k q o e, fun h => (mu_upd_some h).elim hq fun h => by subst h; rw [hf] at e; cases e⟩
  refine ⟨⟨S₁.up, S₁.old, fun y d hy => ?_, fun y b hy hb => ?_, fun y z q hy hz => ?_, fun y q hq => ?_, S₁.ns, S₁.cells, S₁.bare, S₁.os⟩, ⟨fun q o _ e _ => kp_heap k q o e, fun _ => let ⟨h, tk, e, _⟩ := k; ⟨h, tk, e⟩, fun q o e => ⟨o, kp_heap k q o e⟩, fun q h => (mu_upd_some h).elim .inl fun e => .inr (by rw [e]; exact hf)⟩⟩
  · obtain ⟨v, r, hv⟩ := S.im y d hy
    exact ⟨v, r.keeps (kp_heap k), Rd.move mv _ _ hv⟩
  · obtain ⟨q, hq, r, hO⟩ := S.own y b hy hb
    have hyg : y ≠ g := fun h => by subst h; rw [hg] at hy; cases hy
    exact ⟨q, by rw [upd_ne _ _ hyg]; exact hq, r.keeps (kp_heap k), hO.move (fun o e => kp_heap k q o e) mv⟩
  · by_cases h1 : y = g <;> by_cases h2 : z = g
    · rw [h1, h2]
    · subst h1; rw [upd_same] at hy; cases hy; rw [upd_ne _ _ h2] at hz; exact absurd rfl (hne _ (.inr (.inr ⟨z, hz⟩)))
    · subst h2; rw [upd_same] at hz; cases hz; rw [upd_ne _ _ h1] at hy; exact absurd rfl (hne _ (.inr (.inr ⟨y, hy⟩)))
    · rw [upd_ne _ _ h1] at hy; rw [upd_ne _ _ h2] at hz; exact S.inj y z q hy hz
  · by_cases h1 : y = g
    · subst h1; rw [upd_same] at hq; cases hq
      exact ⟨hne _ (.inl rfl), fun c hc => hne _ (.inr (.inl ⟨c, hc, rfl⟩)), ha0, ht⟩
    · rw [upd_ne _ _ h1] at hq
      have z := S.sep y q hq
      obtain ⟨o, e⟩ := z.2.2.2
      exact ⟨z.1, z.2.1, z.2.2.1, o, kp_heap k q o e⟩

/-- a name takes what was set aside -/
theorem st_taken (K : EnvOk h₀ env) {s s₂ : Shared} {x g : V} {b : B} {a p : Addr} (S : StO nm prog w h₀ os env ow σ s) (hg : σ g = none) (hog : ow g = some a) (hxg : x ≠ g) (hob : b.isOwn = true) (hO : OB prog w s.heap (Mu env ow) b a) (hp : Slot' env (nm x) p)
    (hs : Heap.SameBut p s.heap s₂.heap) (hr : RdN env s₂.heap (nm x) (.ref a)) (hother : ∀ y u, y ≠ x → RdN env s.heap (nm y) u → RdN env s₂.heap (nm y) u)
    (hns : ∃ m, s₂.heap.Ns env.locals m) (hcells : ∀ c ∈ env.cells, ∃ v, s₂.heap.IsCell c.2 v) (hsm : ∃ h tk, s₂ = { s with heap := h, toks := tk }) :
    StO nm prog w h₀ os env (upd (upd ow g none) x (some a)) (upd σ x (some b)) s₂ ∧ Step str (Mu env ow) (Mu env (upd (upd ow g none) x (some a))) s s₂ := by
  have hpm : Mu env ow p := hp.mu
  have hp0 : h₀.get? p = none := by
    cases hp with
    | loc h => exact K.locNew
    | cell h hc => exact K.cellNew _ (mem_of_lookup' hc)
  have ham : Mu env ow a := .inr (.inr ⟨g, hog⟩)
  have sub : ∀ q, Mu env (upd (upd ow g none) x (some a)) q → Mu env ow q := fun q h => (mu_upd_some h).elim mu_upd_none fun h => h ▸ ham
  have at' : ∀ q o, q ≠ p → s.heap.get? q = some o → s₂.heap.get? q = some o := fun q o hq e => (hs.2 q hq).trans e
  have mv : ∀ q o, ¬ Mu env ow q → s.heap.get? q = some o → IsData o.cls → s₂.heap.get? q = some o ∧ ¬ Mu env (upd (upd ow g none) x (some a)) q := fun q o hq e _ => ⟨at' q o (fun h => hq (h ▸ hpm)) e, fun h => hq (sub q h)⟩
  have there : ∀ q o, s.heap.get? q = some o → ∃ o', s₂.heap.get? q = some o' := by
    intro q o e
    by_cases hq : q = p
    · subst hq
      cases hp with
      | loc h => obtain ⟨m, o', _, _, ho', _⟩ := hns; exact ⟨o', ho'⟩
      | cell h hc => obtain ⟨v', o', ho', _⟩ := hcells _ (mem_of_lookup' hc); exact ⟨o', ho'⟩
    · exact ⟨o, at' q o hq e⟩
  have slotNe : ∀ y q, ow y = some q → q ≠ p := fun y q hq h => by
    subst h
    have z := S.sep y _ hq
    cases hp with
    | loc h => exact z.1 rfl
    | cell h hc => exact z.2.1 _ (mem_of_lookup' hc) rfl
  have gone : ∀ {y q}, upd ow g none y = some q → y ≠ g ∧ ow y = some q := by
    intro y q h
    by_cases hy : y = g
    · subst hy; rw [upd_same] at h; cases h
    · rw [upd_ne _ _ hy] at h; exact ⟨hy, h⟩
  refine ⟨⟨?_, ?_, ?_, ?_, ?_, ?_, hns, hcells, by obtain ⟨h, tk, e⟩ := hsm; rw [e]; exact S.bare, by obtain ⟨h, tk, e⟩ := hsm; rw [e]; exact S.os⟩, ⟨fun q o hq e c => at' q o (fun h => hq (h ▸ hpm)) e, fun _ => hsm, there, fun q h => .inl (sub q h)⟩⟩
  · intro q o e c
    exact at' q o (fun h => by subst h; rw [hp0] at e; cases e) (S.up q o e c)
  · exact oldk_step S.old hp0 hs
  · intro y d hy
    by_cases hyx : y = x
    · subst hyx; rw [upd_same] at hy; cases hy; cases hob
    · rw [upd_ne _ _ hyx] at hy
      obtain ⟨u, hu, hd⟩ := S.im y d hy
      exact ⟨u, hother y u hyx hu, Rd.move mv _ _ hd⟩
  · intro y b' hy hb'
    by_cases hyx : y = x
    · subst hyx; rw [upd_same] at hy; cases hy
      exact ⟨a, upd_same _ _ _, hr, hO.move (fun o e => at' a o (slotNe g a hog) e) mv⟩
    · rw [upd_ne _ _ hyx] at hy
      obtain ⟨q, hq, hu, hO'⟩ := S.own y b' hy hb'
      have hyg : y ≠ g := fun h => by subst h; rw [hg] at hy; cases hy
      exact ⟨q, by rw [upd_ne _ _ hyx, upd_ne _ _ hyg]; exact hq, hother y _ hyx hu, hO'.move (fun o e => at' q o (slotNe y q hq) e) mv⟩
  · intro y z q hy hz
    by_cases h1 : y = x <;> by_cases h2 : z = x
    · rw [h1, h2]
    · subst h1; rw [upd_same] at hy; cases hy; rw [upd_ne _ _ h2] at hz
      have := gone hz
      exact absurd (S.inj z g a this.2 hog) this.1
    · subst h2; rw [upd_same] at hz; cases hz; rw [upd_ne _ _ h1] at hy
      have := gone hy
      exact absurd (S.inj y g a this.2 hog) this.1
    · rw [upd_ne _ _ h1] at hy; rw [upd_ne _ _ h2] at hz; exact S.inj y z q (gone hy).2 (gone hz).2
  · intro y q hy
    have hq : ∃ z, ow z = some q := by
      by_cases h1 : y = x
      · subst h1; rw [upd_same] at hy; cases hy; exact ⟨g, hog⟩
      · rw [upd_ne _ _ h1] at hy; exact ⟨y, (gone hy).2⟩
    obtain ⟨z, hz⟩ := hq
    have t := S.sep z q hz
    obtain ⟨o, e⟩ := t.2.2.2
    exact ⟨t.1, t.2.1, t.2.2.1, there q o e⟩

theorem wp_take (K : EnvOk h₀ env) (hnm : ∀ x y, nm x = nm y → x = y) {s : Shared} {x g : V} {b : B} {a p : Addr} {Q : Unit → Shared → Prop} {E : Value → Shared → Prop} (S : StO nm prog w h₀ os env ow σ s) (hg : σ g = none) (hog : ow g = some a) (hxg : x ≠ g) (hob : b.isOwn = true) (hO : OB prog w s.heap (Mu env ow) b a)
    (hp : Slot' env (nm x) p) (h : ∀ s₂, StO nm prog w h₀ os env (upd (upd ow g none) x (some a)) (upd σ x (some b)) s₂ → Step str (Mu env ow) (Mu env (upd (upd ow g none) x (some a))) s s₂ → (∀ q o, q ≠ p → s.heap.get? q = some o → s₂.heap.get? q = some o) → Q () s₂) : wpAny (model prog w) A (storeName env (nm x) (.ref a)) Q E s := by
  have hne : ∀ y, y ≠ x → nm y ≠ nm x := fun y hy e => hy (hnm y x e)
  obtain ⟨m, hn⟩ := S.ns
  have hk := K.kind
  cases hp with
  | loc hl =>
    have hcl : (env.scope.kind == .class || (env.scope.kind == .module && env.locals != env.globals)) = false := by rw [hk]; rfl
    with_reducible refine wpAny_storeName_local hl hn (fun h' hn' hs' => ?_) hcl
    have z := st_taken (str := str) K (x := x) (s₂ := { s with heap := h', toks := s.toks + 1 }) S hg hog hxg hob hO (.loc hl) hs' (.inl ⟨hl, _, hn', by simp⟩) (fun y u hy r => ?_) ⟨_, hn'⟩ (fun c hc => ?_) ⟨_, _, rfl⟩
    · exact h _ z.1 z.2 fun q o hq e => (hs'.2 q hq).trans e
    · rcases r with ⟨a, m₁, hm₁, e⟩ | ⟨a, c, hc, ho⟩
      · refine .inl ⟨a, _, hn', ?_⟩
        rw [if_neg (hne y hy), ns_unique hn hm₁, e]
      · exact .inr ⟨a, c, hc, ho.sameBut hs' (K.cellNe _ (mem_of_lookup' hc))⟩
    · obtain ⟨v', e⟩ := S.cells c hc
      exact ⟨v', e.sameBut hs' (K.cellNe _ hc)⟩
  | cell hl hc =>
    obtain ⟨v₀, hv₀⟩ := S.cells _ (mem_of_lookup' hc)
    with_reducible refine wpAny_storeName_cell hk hl hc hv₀ (fun h' hv' hs' => ?_)
    have hloc : env.locals ≠ p := fun e => K.cellNe _ (mem_of_lookup' hc) e.symm
    have z := st_taken (str := str) K (x := x) (s₂ := { s with heap := h' }) S hg hog hxg hob hO (.cell hl hc) hs' (.inr ⟨hl, _, hc, hv'⟩) (fun y u hy r => ?_) ⟨_, hn.sameBut hs' hloc⟩ (fun c hc' => ?_) ⟨_, _, rfl⟩
    · exact h _ z.1 z.2 fun q o hq e => (hs'.2 q hq).trans e
    · rcases r with ⟨a, m₁, hm₁, e⟩ | ⟨a, c, hcy, ho⟩
      · exact .inl ⟨a, _, hm₁.sameBut hs' hloc, e⟩
      · refine .inr ⟨a, c, hcy, ho.sameBut hs' (fun e => ?_)⟩
        subst e
        exact hne y hy (K.cellInj _ _ _ hcy hc)
    · by_cases e : c.2 = p
      · exact ⟨_, e ▸ hv'⟩
      · obtain ⟨v', e'⟩ := S.cells c hc'
        exact ⟨v', e'.sameBut hs' e⟩

def EvB (nm : V → Str) (prog : Program) (w : World) (h₀ : Heap) (A : Around) (env : Env) (σ : V → Option B) (e : Expr) : B → Prop
  | .im d => Ev nm prog w h₀ A env σ e d
  | b => EvO nm prog w h₀ A env e σ b
def ItemOk (prog : Program) (w : World) (env : Env) (ow : V → Option Addr) (h : Heap) (g : V) : B → Value → Prop
  | .im d, v => Rd h (Mu env ow) d v
  | b, v => ∃ a, ow g = some a ∧ v = .ref a ∧ OB prog w h (Mu env ow) b a
theorem ItemOk.move {ow' : V → Option Addr} {h h' : Heap} {g : V} {b : B} {v : Value} (x : ItemOk prog w env ow h g b v) (k : ∀ q o, h.get? q = some o → h'.get? q = some o) (hm : ∀ q, Mu env ow' q → Mu env ow q ∨ h.get? q = none) (hg : ow' g = ow g) : ItemOk prog w env ow' h' g b v := by
  have mv : ∀ q o, ¬ Mu env ow q → h.get? q = some o → IsData o.cls → h'.get? q = some o ∧ ¬ Mu env ow' q := fun q o hq e _ => ⟨k q o e, fun h' => (hm q h').elim hq fun h'' => by rw [h''] at e; cases e⟩
  cases b with
  | im d => exact Rd.move mv _ _ x
  | ol ds => obtain ⟨a, ha, e, hO⟩ := x; exact ⟨a, hg.trans ha, e, hO.move (fun o e => k a o e) mv⟩
  | od n f => obtain ⟨a, ha, e, hO⟩ := x; exact ⟨a, hg.trans ha, e, hO.move (fun o e => k a o e) mv⟩
def ItemsOk (prog : Program) (w : World) (env : Env) (ow : V → Option Addr) (h : Heap) : List (TI V) → List Value → Prop
  | [], vs => vs = []
  | i :: is, vs => ∃ v vs', vs = v :: vs' ∧ ItemOk prog w env ow h i.g i.b v ∧ ItemsOk prog w env ow h is vs'
theorem ItemsOk.length {h : Heap} : ∀ {is : List (TI V)} {vs : List Value}, ItemsOk prog w env ow h is vs → vs.length = is.length
  | [], _, x => by rw [show _ = [] from x]; rfl
  | i :: is, _, x => by obtain ⟨v, vs', e, _, h⟩ := x; rw [e, List.length_cons, List.length_cons, ItemsOk.length h]
theorem ItemsOk.keeps {h h' : Heap} : ∀ {is : List (TI V)} {vs : List Value}, ItemsOk prog w env ow h is vs → (∀ q o, h.get? q = some o → h'.get? q = some o) → ItemsOk prog w env ow h' is vs
  | [], _, x, _ => x
  | i :: is, _, ⟨v, vs', e, x, y⟩, k => ⟨v, vs', e, x.move k (fun q hq => .inl hq) rfl, y.keeps k⟩

theorem wp_items : ∀ (is : List (TI V)) (ow : V → Option Addr) (s : Shared) (Q : List Value → Shared → Prop) (E : Value → Shared → Prop), StO nm prog w h₀ os env ow σ s → (∀ i ∈ is, EvB nm prog w h₀ A env σ i.e i.b) → (is.map (·.g)).Nodup → (∀ i ∈ is, σ i.g = none ∧ ow i.g = none) →
    (∀ vs s' ow', StO nm prog w h₀ os env ow' σ s' → Keeps s s' → (∀ q, Mu env ow' q → Mu env ow q ∨ s.heap.get? q = none) → ItemsOk prog w env ow' s'.heap is vs → (∀ y, y ∉ is.map (·.g) → ow' y = ow y) → Q vs s') →
    wpAny (model prog w) A (spliced (is.map fun i => (false, eval i.e env))) Q E s
  := by
  intro is
  induction is with
  | nil =>
    intro ow s Q E S _ _ _ hQ
    show wpAny _ _ (spliced []) _ _ _
    have := hQ [] s ow S (kp_refl s) (fun q h => .inl h) rfl fun _ _ => rfl
    with_reducible exact spliced_nil this
  | cons i is ih =>
    intro ow s Q E S he hnd hn hQ
    have hi := he i (.head _)
    have hgi := hn i (.head _)
    rw [List.map_cons, List.nodup_cons] at hnd
    rw [List.map_cons]
    -- the rest behind a state in which i's value is ready
    have rest : ∀ v s₁ ow₁, StO nm prog w h₀ os env ow₁ σ s₁ → Keeps s s₁ → (∀ q, Mu env ow₁ q → Mu env ow q ∨ s.heap.get? q = none) → ItemOk prog w env ow₁ s₁.heap i.g i.b v → (∀ y, y ≠ i.g → ow₁ y = ow y) →
        wpAny (model prog w) A (spliced (is.map fun i => (false, eval i.e env))) (fun vs s' => Q (v :: vs) s') E s₁ := by
      intro v s₁ ow₁ S₁ k₁ hm₁ hI ho₁
      refine ih ow₁ s₁ _ E S₁ (fun j hj => he j (.tail _ hj)) hnd.2 (fun j hj => ⟨(hn j (.tail _ hj)).1, ?_⟩) fun vs s' ow' S' k' hm' hIs ho' => ?_
      · rw [ho₁ j.g (fun h => hnd.1 (h ▸ List.mem_map.mpr ⟨j, hj, rfl⟩))]
        exact (hn j (.tail _ hj)).2
      · refine hQ (v :: vs) s' ow' S' (kp_trans k₁ k') (fun q hq => ?_) ⟨v, vs, rfl, hI.move (kp_heap k') hm' (ho' _ hnd.1), hIs⟩ fun y hy => ?_
        · rcases hm' q hq with h | h
          · exact hm₁ q h
          · right
            cases e : s.heap.get? q with
            | none => rfl
            | some o => rw [kp_heap k₁ q o e] at h; cases h
        · rw [List.map_cons, List.mem_cons, not_or] at hy
          rw [ho' y hy.2, ho₁ y hy.1]
    have own : EvO nm prog w h₀ A env i.e σ i.b → i.b.isOwn = true → wpAny (model prog w) A (spliced ((false, eval i.e env) :: is.map fun i => (false, eval i.e env))) Q E s := by
      intro ho hob
      with_reducible refine spliced_cons (ev_mono (ho.run s _ S.stt) ?_)
      rintro v s₁ ⟨k₁, _, a, rfl, hf, hO⟩
      have hex : ∃ o, s₁.heap.get? a = some o := by
        generalize i.b = b at hO hob
        cases b with
        | im d => cases hob
        | ol ds => obtain ⟨vs, ⟨n, e⟩, _⟩ := hO; exact ⟨_, e⟩
        | od n g => obtain ⟨f, ⟨o, es, ep, e, _⟩, _⟩ := hO; exact ⟨_, e⟩
      have z := st_adopt (str := true) S k₁ hgi.1 hgi.2 hf hex
      refine rest _ s₁ _ z.1 k₁ z.2.new ?_ (fun y hy => upd_ne _ _ hy)
      have hO' : OB prog w s₁.heap (Mu env (upd ow i.g (some a))) i.b a := hO.move (fun o e => e) fun q o hq e _ => ⟨e, fun h => hq (mu_upd_some h)⟩
      generalize i.b = b at hO' hob
      cases b with
      | im d => cases hob
      | ol ds => exact ⟨a, upd_same _ _ _, rfl, hO'⟩
      | od n g => exact ⟨a, upd_same _ _ _, rfl, hO'⟩
    generalize hb : i.b = b at hi
    cases b with
    | im d =>
      have hi' : Ev nm prog w h₀ A env σ i.e d := hi
      with_reducible refine spliced_cons (ev_then hi' S.stt fun v s₁ k₁ _ r₁ => ?_)
      refine rest v s₁ ow (st_keeps (str := true) S k₁).1 k₁ (fun q h => .inl h) ?_ fun _ _ => rfl
      rw [hb]; exact r₁
    | ol ds => exact own (by rw [hb]; exact hi) (by rw [hb]; rfl)
    | od n g => exact own (by rw [hb]; exact hi) (by rw [hb]; rfl)

theorem ItemOk.step {ow' : V → Option Addr} {s s' : Shared} {g : V} {b : B} {v : Value} {p : Addr} {z : Str} (S : StO nm prog w h₀ os env ow σ s) (hp : Slot' env z p) (x : ItemOk prog w env ow s.heap g b v) (t : Step str (Mu env ow) (Mu env ow') s s') (k : ∀ q o, q ≠ p → s.heap.get? q = some o → s'.heap.get? q = some o) (hg : ow' g = ow g) :
    ItemOk prog w env ow' s'.heap g b v := by
  have slotNe : ∀ q, ow g = some q → q ≠ p := fun q hq h => by
    subst h
    have y := S.sep g _ hq
    cases hp with
    | loc h => exact y.1 rfl
    | cell h hc => exact y.2.1 _ (mem_of_lookup' hc) rfl
  have mv : ∀ q o, ¬ Mu env ow q → s.heap.get? q = some o → IsData o.cls → s'.heap.get? q = some o ∧ ¬ Mu env ow' q := fun q o hq e c => ⟨t.keep q o hq e (.inr c.ne), fun h => (t.new q h).elim hq fun h => by rw [h] at e; cases e⟩
  cases b with
  | im d => exact Rd.move mv _ _ x
  | ol ds => obtain ⟨a, ha, e, hO⟩ := x; exact ⟨a, hg.trans ha, e, hO.move (fun o e => k a o (slotNe a ha) e) mv⟩
  | od n f => obtain ⟨a, ha, e, hO⟩ := x; exact ⟨a, hg.trans ha, e, hO.move (fun o e => k a o (slotNe a ha) e) mv⟩
theorem ItemsOk.step {ow' : V → Option Addr} {s s' : Shared} {p : Addr} {z : Str} (S : StO nm prog w h₀ os env ow σ s) (hp : Slot' env z p) (t : Step str (Mu env ow) (Mu env ow') s s') (k : ∀ q o, q ≠ p → s.heap.get? q = some o → s'.heap.get? q = some o) : ∀ {is : List (TI V)} {vs : List Value}, ItemsOk prog w env ow s.heap is vs → (∀ i ∈ is, ow' i.g = ow i.g) → ItemsOk prog w env ow' s'.heap is vs
  | [], _, x, _ => x
  | i :: is, _, ⟨v, vs', e, x, y⟩, hg => ⟨v, vs', e, x.step S hp t k (hg i (.head _)), ItemsOk.step S hp t k y fun j hj => hg j (.tail _ hj)⟩
def updI (σ : V → Option B) : List (TI V) → V → Option B
  | [] => σ
  | i :: is => updI (upd σ i.x (some i.b)) is

theorem wp_takes (K : EnvOk h₀ env) (hnm : ∀ x y, nm x = nm y → x = y) : ∀ (is : List (TI V)) (ow : V → Option Addr) (σ : V → Option B) (s : Shared) (vs : List Value) (Q : Unit → Shared → Prop) (E : Value → Shared → Prop), (∀ i ∈ is, ∃ p, Slot' env (nm i.x) p) → (∀ i ∈ is, ∀ j ∈ is, i.x ≠ j.g) → (is.map (·.g)).Nodup →
    (∀ i ∈ is, σ i.g = none) → StO nm prog w h₀ os env ow σ s → ItemsOk prog w env ow s.heap is vs → (∀ s' ow', StO nm prog w h₀ os env ow' (updI σ is) s' → Step str (Mu env ow) (Mu env ow') s s' → Q () s') → wpAny (model prog w) A (assignInOrder (is.map fun i => assign (.Name (nm i.x) i.px) env) vs) Q E s := by
  intro is
  induction is with
  | nil =>
    intro ow σ s vs Q E _ _ _ _ S hI hQ
    have e : vs = [] := hI
    subst e
    have := hQ s ow S (Step.refl _ _)
    rw [List.map_nil]
    with_reducible exact wpAny_assignInOrder_none this
  | cons i is ih =>
    intro ow σ s vs Q E hp hx hnd hn S hI hQ
    obtain ⟨v, vs', rfl, hi, hI'⟩ := hI
    obtain ⟨p, hpi⟩ := hp i (.head _)
    rw [List.map_cons, List.nodup_cons] at hnd
    have hgj : ∀ j ∈ is, j.g ≠ i.g := fun j hj h => hnd.1 (h ▸ List.mem_map.mpr ⟨j, hj, rfl⟩)
    have hxj : ∀ j ∈ is, j.g ≠ i.x := fun j hj h => hx i (.head _) j (.tail _ hj) h.symm
    have rest : ∀ s₂ ow₂, StO nm prog w h₀ os env ow₂ (upd σ i.x (some i.b)) s₂ → Step str (Mu env ow) (Mu env ow₂) s s₂ → (∀ q o, q ≠ p → s.heap.get? q = some o → s₂.heap.get? q = some o) → (∀ j ∈ is, ow₂ j.g = ow j.g) →
        wpAny (model prog w) A (assignInOrder (is.map fun i => assign (.Name (nm i.x) i.px) env) vs') Q E s₂ := by
      intro s₂ ow₂ S₂ t₂ k₂ ho₂
      exact ih ow₂ _ s₂ vs' Q E (fun j hj => hp j (.tail _ hj)) (fun j hj l hl => hx j (.tail _ hj) l (.tail _ hl)) hnd.2 (fun j hj => by rw [upd_ne _ _ (hxj j hj)]; exact hn j (.tail _ hj)) S₂ (hI'.step S hpi t₂ k₂ ho₂) fun s' ow' S' t' => hQ s' ow' S' (t₂.trans t')
    rw [List.map_cons]
    have own : i.b.isOwn = true → (∃ a, ow i.g = some a ∧ v = .ref a ∧ OB prog w s.heap (Mu env ow) i.b a) → wpAny (model prog w) A (assignInOrder (assign (.Name (nm i.x) i.px) env :: is.map fun i => assign (.Name (nm i.x) i.px) env) (v :: vs')) Q E s := by
      rintro hob ⟨a, ha, rfl, hO⟩
      with_reducible refine wpAny_assignInOrder_more (wpAny_assign_Name (wp_take (str := str) K hnm S (hn i List.mem_cons_self) ha (hx i List.mem_cons_self i List.mem_cons_self) hob hO hpi fun s₂ S₂ t₂ k₂ => ?_))
      exact rest s₂ _ S₂ t₂ k₂ fun j hj => by rw [upd_ne _ _ (hxj j hj), upd_ne _ _ (hgj j hj)]
    generalize hb : i.b = b at hi
    cases b with
    | im d =>
      have hi' : Rd s.heap (Mu env ow) d v := hi
      with_reducible refine wpAny_assignInOrder_more (wpAny_assign_Name (wp_store (str := str) K hnm (b := .im d) S (kp_refl _) (newb_im hi') hpi fun s₂ S₂ t₂ k₂ => ?_))
      refine rest s₂ _ (hb ▸ S₂) t₂ (fun q o h e => kx_heap k₂ q o h e) fun j hj => ?_
      rw [upd_ne _ _ (hxj j hj)]
    | ol ds => exact own (by rw [hb]; rfl) (by rw [hb]; exact hi)
    | od n g => exact own (by rw [hb]; rfl) (by rw [hb]; exact hi)

/-- names without a value own nothing -/
theorem st_drop {s : Shared} (S : StO nm prog w h₀ os env ow σ s) : StO nm prog w h₀ os env (fun y => if (σ y).isSome then ow y else none) σ s ∧ Step str (Mu env ow) (Mu env (fun y => if (σ y).isSome then ow y else none)) s s := by
  have got : ∀ {y q}, (if (σ y).isSome then ow y else none) = some q → ow y = some q := by
    intro y q h
    split at h
    · exact h
    · cases h
  have sub : ∀ q, Mu env (fun y => if (σ y).isSome then ow y else none) q → Mu env ow q := by
    rintro q (h | h | ⟨y, h⟩)
    · exact .inl h
    · exact .inr (.inl h)
    · exact .inr (.inr ⟨y, got h⟩)
  have mv : ∀ q o, ¬ Mu env ow q → s.heap.get? q = some o → IsData o.cls → s.heap.get? q = some o ∧ ¬ Mu env (fun y => if (σ y).isSome then ow y else none) q := fun q o hq e _ => ⟨e, fun h => hq (sub q h)⟩
  refine ⟨⟨S.up, S.old, fun y d hy => ?_, fun y b hy hb => ?_, fun y z q hy hz => S.inj y z q (got hy) (got hz), fun y q hq => S.sep y q (got hq), S.ns, S.cells, S.bare, S.os⟩, ⟨fun q o _ e _ => e, fun _ => ⟨s.heap, s.toks, rfl⟩, fun q o e => ⟨o, e⟩, fun q h => .inl (sub q h)⟩⟩
  · obtain ⟨v, r, hv⟩ := S.im y d hy
    exact ⟨v, r, Rd.move mv _ _ hv⟩
  · obtain ⟨a, ha, r, hO⟩ := S.own y b hy hb
    exact ⟨a, by rw [hy]; exact ha, r, hO.move (fun o e => e) mv⟩

/-- a, b, .. = e, f, .. in order -/
theorem trs_tup (K : EnvOk h₀ env) (hnm : ∀ x y, nm x = nm y → x = y) (hA : A.handled = none) (is : List (TI V)) {elts es : List Expr} {x1 k' : Nat} {tpos tp' pos : Pos} {Post : FD → (V → Option B) → Prop}
    (hp : ∀ i ∈ is, ∃ p, Slot' env (nm i.x) p) (hx : ∀ i ∈ is, ∀ j ∈ is, i.x ≠ j.g) (hnd : (is.map (·.g)).Nodup) (hn : ∀ i ∈ is, σ i.g = none) (he : ∀ i ∈ is, EvB nm prog w h₀ A env σ i.e i.b) (hl : is.length ≤ 1000)
    (hes : backTo tp' (starEach es env) = is.map fun i => (false, eval i.e env)) (hts : (assignEach elts env).map (·.2) = is.map fun i => assign (.Name (nm i.x) i.px) env) (hlen : (assignEach elts env).length = is.length) (hstar : (assignEach elts env).findIdx? (·.1) = none)
    (hsw : swapsWithSole [.Tuple elts x1 tpos] (.Tuple es k' tp') pos.line env = pure false) (hw : swappedStores [.Tuple elts x1 tpos] (.Tuple es k' tp') env = pure none) (hq : Post .next (updI σ is)) : TrS nm prog w h₀ os A env str (.Assign [.Tuple elts x1 tpos] (.Tuple es k' tp') pos) σ Post := ⟨fun ow s S => by
  have D := st_drop (str := str) S
  have items := wp_items (A := A) is _ s (fun vs s' => ∃ ow', StO nm prog w h₀ os env ow' σ s' ∧ Keeps s s' ∧ Step str (Mu env ow) (Mu env ow') s s' ∧ ItemsOk prog w env ow' s'.heap is vs) (fun _ _ => False) D.1 he hnd (fun i hi => ⟨hn i hi, by rw [hn i hi]; rfl⟩) fun vs s' ow' S' k' hm' hI _ =>
    ⟨ow', S', k', D.2.trans ⟨fun q o _ e _ => kp_heap k' q o e, fun _ => let ⟨h, tk, e, _⟩ := k'; ⟨h, tk, e⟩, fun q o e => ⟨o, kp_heap k' q o e⟩, hm'⟩, hI⟩
  rw [← hes] at items
  with_reducible refine wpAny_Assign_stores (wpAny_Tuple (ev_mono items ?_)) hsw hw
  rintro vs s₁ ⟨ow₁, S₁, k₁, t₁, hI₁⟩
  have hlv := hI₁.length
  refine ⟨by rw [hlv, sizeLine_eq]; omega, ?_⟩
  show wpAny _ _ (assign (.Tuple elts x1 tpos) env (.ref s₁.heap.objs.size)) _ _ _
  have k₂ := kp_push s₁ { cls := .type "tuple", data := .seq (List.toArray vs) }
  have z₂ := st_keeps (str := str) S₁ k₂
  have hI₂ := hI₁.keeps (kp_heap k₂)
  have ht : (s₁.heap.push { cls := .type "tuple", data := .seq (List.toArray vs) }).IsTuple s₁.heap.objs.size (List.toArray vs) := ⟨_, Heap.get?_push_size _ rfl, rfl, 0, rfl⟩
  with_reducible refine wpAny_assign_Tuple hA ht (by rw [hlen, List.size_toArray, hlv]) hstar fun h' hx' => ?_
  rw [hts]
  have k₃ : Keeps { s₁ with heap := s₁.heap.push { cls := .type "tuple", data := .seq (List.toArray vs) } } { s₁ with heap := h' } := ⟨h', s₁.toks, rfl, fun b o e => hx' b o (Nat.ne_of_lt (Heap.lt_size e)) e⟩
  have z₃ := st_keeps (str := str) z₂.1 k₃
  refine wp_takes (str := str) K hnm is ow₁ σ _ vs _ _ hp hx hnd hn z₃.1 (hI₂.keeps (kp_heap k₃)) fun s' ow' S' t' => ?_
  exact Res.next S' (t₁.trans (z₂.2.trans (z₃.2.trans t'))) hq⟩
end
end Mine

-- M23
namespace Mine
open PySem PySem.Calls PyProof.Rows PySem.W
section
variable {V : Type} [DecidableEq V] {nm : V → Str} {prog : Program} {w : World} {h₀ : Heap} {A : Around} {env : Env} {σ : V → Option B}

theorem compok_name (hA : A.handled = none) (K : EnvOk h₀ env) (hnm : ∀ x y, nm x = nm y → x = y) {elt iter : Expr} {ifs : List Expr} {scope : Scope} {tl : Bool} {ds : List D} {pz : D → Bool} {f : D → D} {cl : List (Str × Addr)} {σ₀ : V → Option B} {x x0 : V} {px : Pos}
    (c : Cap nm env σ scope cl σ₀) (src : Src nm prog w h₀ A env σ tl iter ds) (hxk : ∀ C, (compEnvC scope cl C env).kindOf (nm x) = some .local) (hx : x ≠ x0) (hx0 : σ₀ x0 = none) (flat : ∀ d, FlatD (f d))
    (tst : ∀ C d, d ∈ ds → EnvOk h₀ (compEnvC scope cl C env) → TstL nm prog w h₀ A (compEnvC scope cl C env) (upd σ₀ x (some (.im d))) ifs (pz d))
    (hel : ∀ C d, d ∈ ds → EnvOk h₀ (compEnvC scope cl C env) → pz d = true → Ev nm prog w h₀ A (compEnvC scope cl C env) (upd σ₀ x (some (.im d))) elt (f d))
    (fold : ∀ x, foldedSetIterable iter env x = pure x := by intro _; rfl) :
    CompOk nm prog w h₀ A env σ elt (.Name (nm x) px) iter ifs scope tl ds pz f cl σ₀ x0 (fun σ' => ∀ y b, y ≠ x → σ₀ y = some b → σ' y = some b) (fun d σ' => (∀ y b, y ≠ x → σ₀ y = some b → σ' y = some b) ∧ σ' x = some (.im d)) where
  handled := hA
  envok := K
  cap := c
  src := src
  hx0 := hx0
  hTB := fun d σ' h => h.1
  flat := flat
  bs := fun y b _ h => h
  asg := by
    intro C I D₁ Kc d v ow' σ' s' Q hd htl hB how hσ S' hr hQ
    have hp : Slot' (compEnvC scope cl C env) (nm x) C := .loc (hxk C)
    refine wpAny_of_eq (a := ()) rfl ?_
    refine wpAny_assign_Name (wp_store (str := true) Kc hnm (b := .im d) S' (kp_refl _) (newb_im hr) hp fun s₂ S₂ t₂ k₂ => ?_)
    refine hQ s₂ _ _ S₂ t₂ k₂ ?_ ?_ ⟨fun y b hy h => ?_, upd_same _ _ _⟩
    · rw [upd_ne _ _ (Ne.symm hx)]; exact how
    · rw [upd_ne _ _ (Ne.symm hx)]; exact hσ
    · rw [upd_ne _ _ hy]; exact hB y b hy h
  tst := fun C d σ' hd Kc ht => (tst C d hd Kc).sub fun y b hy => by
    by_cases h : y = x
    · subst h; rw [upd_same] at hy; cases hy; exact ht.2
    · rw [upd_ne _ _ h] at hy; exact ht.1 y b h hy
  hel := fun C d σ' hd Kc ht hp => (hel C d hd Kc hp).sub fun y b hy => by
    by_cases h : y = x
    · subst h; rw [upd_same] at hy; cases hy; exact ht.2
    · rw [upd_ne _ _ h] at hy; exact ht.1 y b h hy
  fold := fold

theorem updL_not {xs : List V} : ∀ {ds : List D} {σ : V → Option B} {y : V}, y ∉ xs → updL σ xs ds y = σ y := by
  induction xs with
  | nil => intro ds σ y _; cases ds <;> rfl
  | cons x xs ih =>
    intro ds σ y h
    cases ds with
    | nil => rfl
    | cons d ds =>
      rw [List.mem_cons, not_or] at h
      show updL (upd σ x (some (.im d))) xs ds y = _
      rw [ih h.2, upd_ne _ _ h.1]
theorem updL_in {xs : List V} : ∀ {ds : List D} {σ τ : V → Option B} {y : V}, y ∈ xs → ds.length = xs.length → updL σ xs ds y = updL τ xs ds y := by
  induction xs with
  | nil => intro ds σ τ y h; cases h
  | cons x xs ih =>
    intro ds σ τ y h hl
    cases ds with
    | nil => cases hl
    | cons d ds =>
      show updL (upd σ x (some (.im d))) xs ds y = updL (upd τ x (some (.im d))) xs ds y
      by_cases hy : y ∈ xs
      · exact ih hy (by simpa using hl)
      · have hyx : y = x := (List.mem_cons.mp h).resolve_right hy
        subst hyx
        rw [updL_not hy, updL_not hy, upd_same, upd_same]

theorem compok_tup (hA : A.handled = none) (K : EnvOk h₀ env) (hnm : ∀ x y, nm x = nm y → x = y) {elt iter : Expr} {ifs : List Expr} {scope : Scope} {dss : List (List D)} {pz : D → Bool} {f : D → D} {cl : List (Str × Addr)} {σ₀ : V → Option B} {xs : List (V × Pos)} {x0 : V} {elts : List Expr} {x1 : Nat} {tp : Pos}
    (c : Cap nm env σ scope cl σ₀) (src : Src nm prog w h₀ A env σ true iter (dss.map D.tup)) (hxk : ∀ C, ∀ x ∈ xs, (compEnvC scope cl C env).kindOf (nm x.1) = some .local) (hx : x0 ∉ xs.map (·.1)) (hx0 : σ₀ x0 = none) (flat : ∀ d, FlatD (f d)) (hlen : ∀ ds ∈ dss, ds.length = xs.length)
    (hel1 : ∀ C, (assignEach elts (compEnvC scope cl C env)).map (·.2) = targetsOf nm (compEnvC scope cl C env) xs) (hel2 : ∀ C, (assignEach elts (compEnvC scope cl C env)).length = xs.length) (hstar : ∀ C, (assignEach elts (compEnvC scope cl C env)).findIdx? (·.1) = none)
    (tst : ∀ C ds, ds ∈ dss → EnvOk h₀ (compEnvC scope cl C env) → TstL nm prog w h₀ A (compEnvC scope cl C env) (updL σ₀ (xs.map (·.1)) ds) ifs (pz (.tup ds)))
    (hel : ∀ C ds, ds ∈ dss → EnvOk h₀ (compEnvC scope cl C env) → pz (.tup ds) = true → Ev nm prog w h₀ A (compEnvC scope cl C env) (updL σ₀ (xs.map (·.1)) ds) elt (f (.tup ds)))
    (fold : ∀ x, foldedSetIterable iter env x = pure x := by intro _; rfl) :
    CompOk nm prog w h₀ A env σ elt (.Tuple elts x1 tp) iter ifs scope true (dss.map D.tup) pz f cl σ₀ x0 (fun σ' => ∀ y b, y ∉ xs.map (·.1) → σ₀ y = some b → σ' y = some b) (fun d σ' => ∃ ds, d = .tup ds ∧ ds ∈ dss ∧ (∀ y b, y ∉ xs.map (·.1) → σ₀ y = some b → σ' y = some b) ∧ ∀ y ∈ xs.map (·.1), σ' y = updL σ₀ (xs.map (·.1)) ds y) where
  handled := hA
  envok := K
  cap := c
  src := src
  hx0 := hx0
  hTB := by rintro d σ' ⟨ds, _, _, h, _⟩; exact h
  flat := flat
  bs := fun y b _ h => h
  asg := by
    intro C I D₁ Kc d v ow' σ' s' Q hd htl hB how hσ S' hr hQ
    obtain ⟨ds, hds, rfl⟩ := List.mem_map.mp hd
    have hl := hlen ds hds
    obtain ⟨T, vs, rfl, hm, ht, hrl⟩ := rd_tup.mp hr
    refine htl rfl x1 elts tp T _ ?_
    refine wp_unpack (str := true) Kc hnm hA (fun q => q = C) (fun x hx => ⟨C, .loc (hxk C x hx), rfl⟩) S' hr hl (hel1 C) (hel2 C) (hstar C) fun s'' ow'' S'' t'' k'' ho'' => ?_
    refine hQ s'' ow'' _ S'' t'' k'' ?_ ?_ ⟨ds, rfl, hds, fun y b hy h => ?_, fun y hy => ?_⟩
    · rw [ho'' x0 hx]; exact how
    · rw [updL_not hx]; exact hσ
    · rw [updL_not hy]; exact hB y b hy h
    · exact updL_in hy (by rw [List.length_map]; exact hl)
  tst := by
    rintro C d σ' hd Kc ⟨ds, rfl, hds, h1, h2⟩
    refine (tst C ds hds Kc).sub fun y b hy => ?_
    by_cases h : y ∈ xs.map (·.1)
    · rw [h2 y h]; exact hy
    · rw [updL_not h] at hy; exact h1 y b h hy
  hel := by
    rintro C d σ' hd Kc ⟨ds, rfl, hds, h1, h2⟩ hp
    refine (hel C ds hds Kc hp).sub fun y b hy => ?_
    by_cases h : y ∈ xs.map (·.1)
    · rw [h2 y h]; exact hy
    · rw [updL_not h] at hy; exact h1 y b h hy
  fold := fold
end
end Mine

-- M24
namespace Mine
open PySem PySem.Calls PyProof.Rows PySem.W

theorem wp_notin_of_in {M : Model} {A : Around} {u v : Value} {c : Bool} {R : Shared → Prop} {E : Value → Shared → Prop} {s : Shared} (h : wpAny M A (compareOp .In u v) (fun r s' => r = .bool c ∧ R s') E s) : wpAny M A (compareOp .NotIn u v) (fun r s' => r = .bool (!c) ∧ R s') E s := by
  have h' : wpAny M A (do return Value.bool (← contains v u)) (fun r s' => r = .bool c ∧ R s') E s := h
  show wpAny M A (do return Value.bool (!(← contains v u))) _ E s
  intro Γ p hΓ
  have z := h' Γ p hΓ
  rw [Sem.wp_bind'] at z ⊢
  refine Sem.wp_mono M Γ _ (fun b p' s' y => ?_) (fun _ _ _ y => y) _ _ z
  have y' : Value.bool b = .bool c ∧ R s' := y
  cases y'.1
  exact And.intro rfl y'.2

section
variable {V : Type} [DecidableEq V] {nm : V → Str} {prog : Program} {w : World} {h₀ : Heap} {os : OsState} {A : Around} {env : Env} {σ : V → Option B} {mg mb : Str → Option Value} {str : Bool} {ow : V → Option Addr}

/-- a test by a comparison of any values -/
theorem tst_cmpP {op : CmpOp} {a b : Expr} {pos : Pos} {P Q : Heap → (Addr → Prop) → Value → Prop} {r : Bool} (ha : EvP nm prog w h₀ A env σ a P) (hb : EvP nm prog w h₀ A env σ b Q) (hP : ∀ g g' mu v, P g mu v → (∀ b o, g.get? b = some o → g'.get? b = some o) → P g' mu v)
    (hop : ∀ s mu u v, Stt nm prog w h₀ env σ mu s → P s.heap mu u → Q s.heap mu v → wpAny (model prog w) A (compareOp op u v) (fun c s' => c = .bool r ∧ Keeps s s') (fun _ _ => False) s) (hm : behindInMarks op b = false) : Tst nm prog w h₀ A env σ (.Compare a [op] [b] pos) r := ⟨fun s mu S => by
  with_reducible refine wpAny_isTrue_Compare1 (ev_then ha S fun u s₁ k₁ S₁ r₁ => ev_then hb S₁ fun v s₂ k₂ S₂ r₂ => ev_mono (hop s₂ mu u v S₂ (hP _ _ _ _ r₁ (kp_heap k₂)) r₂) ?_) hm
  rintro c s₃ ⟨rfl, k₃⟩
  with_reducible exact wpAny_truthy_bool ⟨kp_trans k₁ (kp_trans k₂ k₃), rfl⟩⟩

theorem evl_keep {ds : List D} : ∀ (g g' : Heap) (mu : Addr → Prop) (v : Value), (∃ a vs, v = .ref a ∧ g.IsList a (List.toArray vs) ∧ RdL g mu ds vs) → (∀ b o, g.get? b = some o → g'.get? b = some o) → ∃ a vs, v = .ref a ∧ g'.IsList a (List.toArray vs) ∧ RdL g' mu ds vs :=
  fun _ _ _ _ ⟨a, vs, e, hl, hr⟩ k => ⟨a, vs, e, hl.at fun o => k a o, hr.keeps k⟩

theorem tst_in {a b : Expr} {pos : Pos} {i : Int} {ns : List Int} (ha : Ev nm prog w h₀ A env σ a (.int i)) (hb : EvL nm prog w h₀ A env σ b (ns.map D.int)) (hm : behindInMarks .In b = false) : Tst nm prog w h₀ A env σ (.Compare a [.In] [b] pos) (ns.any (· == i)) :=
  tst_cmpP ha hb (fun _ _ _ _ h k => h.keeps k) (fun s mu u v _ hu hv => by
    obtain ⟨t, rfl⟩ := rd_int.mp hu
    obtain ⟨l, vs, rfl, hl, hr⟩ := hv
    exact in_list_ints hl hr.ints ⟨rfl, kp_refl s⟩) hm
theorem tst_notin {a b : Expr} {pos : Pos} {i : Int} {ns : List Int} (ha : Ev nm prog w h₀ A env σ a (.int i)) (hb : EvL nm prog w h₀ A env σ b (ns.map D.int)) (hm : behindInMarks .NotIn b = false) : Tst nm prog w h₀ A env σ (.Compare a [.NotIn] [b] pos) (!ns.any (· == i)) :=
  tst_cmpP ha hb (fun _ _ _ _ h k => h.keeps k) (fun s mu u v _ hu hv => by
    obtain ⟨t, rfl⟩ := rd_int.mp hu
    obtain ⟨l, vs, rfl, hl, hr⟩ := hv
    exact notin_list_ints hl hr.ints ⟨rfl, kp_refl s⟩) hm
theorem tst_neL {a b : Expr} {pos : Pos} {ns ms : List Int} (ha : EvL nm prog w h₀ A env σ a (ns.map D.int)) (hb : EvL nm prog w h₀ A env σ b (ms.map D.int)) (hu : A.units + 64 < cLine) (hm : behindInMarks .NotEq b = false) : Tst nm prog w h₀ A env σ (.Compare a [.NotEq] [b] pos) (!decide (ns = ms)) :=
  tst_cmpP ha hb evl_keep (fun s mu u v _ hu' hv => by
    obtain ⟨l, vs, rfl, hl, hr⟩ := hu'
    obtain ⟨l', vs', rfl, hl', hr'⟩ := hv
    exact ne_intsK hl hr.ints hl' hr'.ints hu ⟨rfl, kp_refl s⟩) hm

/-- a own dict, read -/
theorem evd_name (hk : env.scope.kind = .function) (x : V) {n : Nat} {g : Int → Option D} {pos : Pos} (hx : σ x = some (.od n g)) (hd : (nm x == ("__debug__" : Str)) = false := by decide) :
    EvP nm prog w h₀ A env σ (.Name (nm x) pos) fun h mu v => ∃ a f, v = .ref a ∧ h.IntMap a f ∧ ∀ k, (g k = none → f k = none) ∧ ∀ d, g k = some d → ∃ u, f k = some u ∧ Rd h mu d u :=
  EvP.imp (ev_nameB hk x hx hd) fun _ _ _ ⟨a, f, e, _, hm, _, hg⟩ => ⟨a, f, e, hm, hg⟩
theorem tst_notind {a b : Expr} {pos : Pos} {i : Int} {g : Int → Option D} (ha : Ev nm prog w h₀ A env σ a (.int i)) (hb : EvP nm prog w h₀ A env σ b fun h mu v => ∃ a f, v = .ref a ∧ h.IntMap a f ∧ ∀ k, (g k = none → f k = none) ∧ ∀ d, g k = some d → ∃ u, f k = some u ∧ Rd h mu d u)
    (hm : behindInMarks .NotIn b = false) : Tst nm prog w h₀ A env σ (.Compare a [.NotIn] [b] pos) (!(g i).isSome) :=
  tst_cmpP ha hb (fun _ _ _ _ h k => h.keeps k) (fun s mu u v _ hu hv => by
    obtain ⟨t, rfl⟩ := rd_int.mp hu
    obtain ⟨l, f, rfl, hf, hg⟩ := hv
    refine wp_notin_of_in (R := fun s' => Keeps s s') (wpAny_in_intMap hf ⟨?_, kp_tok s _⟩)
    cases e : g i with
    | none => rw [(hg i).1 e]; rfl
    | some d => obtain ⟨u, e', _⟩ := (hg i).2 d e; rw [e']; rfl) hm
theorem ev_ditem {e i : Expr} {pos : Pos} {g : Int → Option D} {k : Int} {d : D} (h : EvP nm prog w h₀ A env σ e fun h mu v => ∃ a f, v = .ref a ∧ h.IntMap a f ∧ ∀ k, (g k = none → f k = none) ∧ ∀ d, g k = some d → ∃ u, f k = some u ∧ Rd h mu d u) (hi : Ev nm prog w h₀ A env σ i (.int k)) (hd : g k = some d)
    (hs : ∀ a u, subscripted i false (.ref a) (.int k u) = operate [.ref a, .int k u] (getItem (.ref a) (.int k u)) := by intro _ _; rfl) : Ev nm prog w h₀ A env σ (.Subscript e i pos) d := ⟨fun s mu S => by
  with_reducible refine Subscript_ (ev_then h S fun v s₁ k₁ S₁ r₁ => ev_then hi S₁ fun u s₂ k₂ S₂ r₂ => ?_)
  obtain ⟨a, f, rfl, ⟨o, es, ep, ho, r⟩, hg⟩ := r₁
  obtain ⟨t, rfl⟩ := rd_int.mp r₂
  have hm₂ : s₂.heap.IntMap a f := ⟨o, es, ep, kp_heap k₂ _ _ ho, r⟩
  obtain ⟨x, hx, rx⟩ := (hg k).2 d hd
  with_reducible exact tail_any hm₂.typeIs slot_dict_getitem.lookup (wpAny_getItem_intMap hm₂ hx ⟨kp_trans k₁ (kp_trans k₂ (kp_tok s₂ _)), (rx.keeps (kp_heap k₂)).keeps (kp_heap (kp_tok s₂ _))⟩) (hs a t)⟩
theorem evo_dict {pos : Pos} : EvO nm prog w h₀ A env (.Dict [] [] pos) σ (.od 0 fun _ => none) := ⟨fun s mu S => by
  with_reducible refine wpAny_Dict_empty ?_
  exact ⟨kp_push s _, rfl, _, rfl, fresh_old (kp_refl s), fun _ => none, Heap.IntMap.new _, Heap.DictLe.new _, fun k => ⟨fun _ => rfl, fun d h => nomatch h⟩⟩⟩

theorem trs_setd (K : EnvOk h₀ env) {x : V} {i e : Expr} {np tp pos : Pos} {n : Nat} {g : Int → Option D} {d : D} {j : Int} {Post : FD → (V → Option B) → Prop} (hx : σ x = some (.od n g)) (h : Ev nm prog w h₀ A env σ e d) (hi : Ev nm prog w h₀ A env σ i (.int j)) (hn : n ≤ 100000)
    (hq : Post .next (upd σ x (some (.od (n + 1) fun k => if k = j then some d else g k)))) (hd : (nm x == ("__debug__" : Str)) = false := by decide)
    (hs : swapsWith e (some (.Subscript (.Name (nm x) np) i tp)) pos.line env = pure false := by rfl) : TrS nm prog w h₀ os A env str (.Assign [.Subscript (.Name (nm x) np) i tp] e pos) σ Post := ⟨fun ow s S => by
  with_reducible refine wpAny_Assign_Subscript (ev_then h S.stt fun v s₁ k₁ S₁ r₁ => ?_) hs
  obtain ⟨a, ha, hr, f, hm, hz, hg⟩ := S.own x _ hx rfl
  with_reducible refine wp_name K.kind (hr.keeps (kp_heap k₁)) (ev_then hi S₁ fun u s₂ k₂ S₂ r₂ => ?_) hd
  obtain ⟨t, rfl⟩ := rd_int.mp r₂
  have k := kp_trans k₁ k₂
  obtain ⟨o, es, ep, ho, r⟩ := hm
  have hm₂ : s₂.heap.IntMap a f := ⟨o, es, ep, kp_heap k _ _ ho, r⟩
  have hz₂ : s₂.heap.DictLe a n := hz.of_same ho (kp_heap k _ _ ho)
  refine wpAny_setItem_intMap_le hm₂ hz₂ (by rw [sizeLine_eq]; omega) fun h' hm' hz' hs' => ?_
  have ham : Mu env ow a := .inr (.inr ⟨x, ha⟩)
  have mv : ∀ q o, ¬ Mu env ow q → s₂.heap.get? q = some o → IsData o.cls → h'.get? q = some o ∧ ¬ Mu env ow q := fun q o hq e _ => ⟨(hs'.2 q (fun e' => hq (e' ▸ ham))).trans e, hq⟩
  have z := st_changed (str := str) K (s₂ := { s₂ with heap := h', toks := s₂.toks + 1 }) (b' := .od (n + 1) fun k => if k = j then some d else g k) S k hx rfl rfl ha hs' ⟨_, hm', hz', fun q => ⟨fun hq => ?_, fun d' hd' => ?_⟩⟩ ⟨_, _, rfl⟩
  · exact Res.next z.1 z.2 hq
  · dsimp only at hq
    by_cases hqj : q = j
    · rw [if_pos hqj] at hq; cases hq
    · rw [if_neg hqj] at hq ⊢; exact (hg q).1 hq
  · dsimp only at hd'
    by_cases hqj : q = j
    · rw [if_pos hqj] at hd' ⊢; cases hd'
      exact ⟨v, rfl, Rd.move mv _ _ (r₁.keeps (kp_heap k₂))⟩
    · rw [if_neg hqj] at hd' ⊢
      obtain ⟨u, hu, ru⟩ := (hg q).2 d' hd'
      exact ⟨u, hu, Rd.move mv _ _ (ru.keeps (kp_heap k))⟩⟩
end
end Mine

-- M25
namespace Mine
open PySem PySem.Calls PyProof.Rows PySem.W

theorem rdl_of_get {h : Heap} {mu : Addr → Prop} : ∀ {ds : List D} {vs : List Value}, vs.length = ds.length → (∀ (i : Nat) v d, vs[i]? = some v → ds[i]? = some d → Rd h mu d v) → RdL h mu ds vs
  | [], vs, hl, _ => by rw [List.length_eq_zero_iff.mp hl]; exact rdl_nil'
  | d :: ds, [], hl, _ => by cases hl
  | d :: ds, v :: vs, hl, hg => rdl_cons' (hg 0 v d rfl rfl) (rdl_of_get (by simpa using hl) fun i v' d' h1 h2 => hg (i + 1) v' d' h1 h2)
theorem RdL.take {h : Heap} {mu : Addr → Prop} : ∀ {ds : List D} {vs : List Value} (n : Nat), RdL h mu ds vs → RdL h mu (ds.take n) (vs.take n)
  | _, _, 0, _ => rdl_nil'
  | [], _, n + 1, x => by rw [rdl_nil.mp x]; exact rdl_nil'
  | d :: ds, _, n + 1, x => by
    obtain ⟨v, vs', rfl, hd, hl⟩ := rdl_cons.mp x
    exact rdl_cons' hd (RdL.take n hl)

section
variable {V : Type} [DecidableEq V] {nm : V → Str} {prog : Program} {w : World} {h₀ : Heap} {os : OsState} {A : Around} {env : Env} {σ : V → Option B} {mg mb : Str → Option Value} {str : Bool} {ow : V → Option Addr}

theorem ev_listrange {e : Expr} {np pos : Pos} {n : Nat} (G : Glo h₀ mg mb) (K : EnvG env) (hA : A.handled = none) (hx : env.kindOf "list" = some .globalImplicit) (hg : mg "list" = none) (hv : mb "list" = some (.type "list")) (h : EvP nm prog w h₀ A env σ e fun h _ v => ∃ r t u z, v = .ref r ∧ IsRange h r 0 n 1 t u z) (hn : n ≤ 100000)
    (he : starEach [e] env = [(false, eval e env)] := by rfl) : Ev nm prog w h₀ A env σ (.Call (.Name "list" np) [e] [] pos) (.list (upFrom 0 n)) := ⟨fun s mu S => by
  with_reducible refine wp_tcall1 G K hx hg hv h S he (by decide) fun v s' k S' r => ?_
  obtain ⟨r, t, u, z, rfl, hr⟩ := r
  refine call_list_range (n := n) hA hr (small_one (by decide) (by decide) (by omega) (by omega)) (by rw [rangeSize_one]; split <;> omega) (by omega) fun h' tk acc c' hk hl hi => ?_
  refine ⟨kp_trans k (kp_mk hk), rd_list.mpr ⟨_, acc.toList, rfl, fresh_mu S'.lt, ⟨_, hl, rfl, c', rfl⟩, rdl_of_get ?_ fun i v d h1 h2 => ?_⟩⟩
  · rw [upFrom_len, ← hi.1]; simp
  · obtain ⟨_, rfl⟩ := upFrom_get h2
    obtain ⟨t, rfl⟩ := hi.2 i v (by simpa using h1)
    exact rd_int.mpr ⟨t, by rw [Int.mul_one]⟩⟩

theorem ev_upto {e u : Expr} {p pos : Pos} {ds : List D} {n : Nat} (h : EvL nm prog w h₀ A env σ e ds) (hu : Ev nm prog w h₀ A env σ u (.int n)) (hn : ds.length ≤ 100000) (ht : ∀ o r, letTemporaryGo e o r = pure () := by intro _ _; rfl) : Ev nm prog w h₀ A env σ (.Subscript e (.Slice none (some u) none p) pos) (.list (ds.take n)) := ⟨fun s mu S => by
  refine wpAny_Subscript_list_slice (ev_then h S fun v s₁ k₁ S₁ r₁ => ?_) ht
  rw [evalPart_none]
  refine wpAny_pure (ev_then hu S₁ fun x s₂ k₂ S₂ r₂ => ?_)
  obtain ⟨l, vs, rfl, hl, hr⟩ := r₁
  obtain ⟨t, rfl⟩ := rd_int.mp r₂
  have hl₂ : s₂.heap.IsList l (List.toArray vs) := hl.at fun o => kp_heap k₂ l o
  refine ⟨l, _, none, some (n : Int), rfl, hl₂, by rw [List.size_toArray, hr.length, sizeLine_eq]; omega, .none, .int _ _, ?_⟩
  rw [slicePick_upto']
  have k₃ := kp_push s₂ { cls := .type "slice", data := .fields #[.none, .int (n : Int) t, .none] }
  have S₃ := S₂.keeps k₃
  have hr₃ := (hr.keeps (kp_heap k₂)).keeps (kp_heap k₃)
  have z := rd_newlist S₃.lt (hr₃.take n)
  rw [Heap.size_push] at z
  exact ⟨kp_trans k₁ (kp_trans k₂ (kp_trans k₃ (kp_push _ _))), z⟩⟩

theorem ev_pick {e k st : Expr} {p pos : Pos} {ns : List Int} {i j : Int} (h : EvL nm prog w h₀ A env σ e (ns.map D.int)) (hk : Ev nm prog w h₀ A env σ k (.int i)) (hst : Ev nm prog w h₀ A env σ st (.int j)) (hj : j ≠ 0) (hn : ns.length ≤ 100000) (ht : ∀ o r, letTemporaryGo e o r = pure () := by intro _ _; rfl) :
    Ev nm prog w h₀ A env σ (.Subscript e (.Slice (some k) none (some st) p) pos) (.list ((pickNums ns (some i) none (some j)).map D.int)) := ⟨fun s mu S => by
  refine wpAny_Subscript_Slice_step list_getitem_lookup (ev_then h S fun v s₁ k₁ S₁ r₁ => ?_) ht
  refine wpAny_Slice (ev_then hk S₁ fun x s₂ k₂ S₂ r₂ => ?_)
  rw [evalPart_none]
  refine wpAny_pure (ev_then hst S₂ fun y s₃ k₃ S₃ r₃ => ?_)
  obtain ⟨l, vs, rfl, hl, hr⟩ := r₁
  obtain ⟨t, rfl⟩ := rd_int.mp r₂
  obtain ⟨t', rfl⟩ := rd_int.mp r₃
  have kk := kp_trans k₂ k₃
  have hl₃ : s₃.heap.IsList l (List.toArray vs) := hl.at fun o => kp_heap kk l o
  have k₄ := kp_push s₃ { cls := .type "slice", data := .fields #[.int i t, .none, .int j t'] }
  have S₄ := S₃.keeps k₄
  refine ⟨(hl₃.push _).typeIs, wpAny_getItem_list_slice (hl₃.push _) (Heap.IsSliceOf.new ..) (.int i t) .none (.int j t') (fun h => hj (by injection h)) ?_ (by rw [List.size_toArray, hr.length, List.length_map, sizeLine_eq]; omega)⟩
  have hp := hr.ints.pick (some i) none (some j)
  have hr₄ : RdL (s₃.heap.push { cls := .type "slice", data := .fields #[.int i t, .none, .int j t'] }) mu ((pickNums ns (some i) none (some j)).map D.int) (slicePick (List.toArray vs) (some i) none (some j)).toList := RdL.ofInts hp
  have z := rd_newlist (s := { s₃ with heap := s₃.heap.push { cls := .type "slice", data := .fields #[.int i t, .none, .int j t'] } }) S₄.lt hr₄
  exact ⟨kp_trans k₁ (kp_trans kk (kp_trans k₄ (kp_push _ _))), by simpa using z⟩⟩
end
end Mine

-- M26
namespace Mine
open PySem PySem.Calls PyProof.Rows PySem.W

def imσ {V : Type} [DecidableEq V] (l : List (V × D)) (x : V) : Option B := (l.lookup x).map B.im
def LookL (env : Env) : List (Str × Addr) → Prop
  | [] => True
  | q :: cl => env.cells.lookup q.1 = some q.2 ∧ LookL env cl
theorem lookL_mem {env : Env} : ∀ {cl : List (Str × Addr)}, LookL env cl → ∀ q ∈ cl, env.cells.lookup q.1 = some q.2
  | [], _, _, h => nomatch h
  | q :: cl, ⟨h1, h2⟩, r, hr => by
    rcases List.mem_cons.mp hr with rfl | h
    · exact h1
    · exact lookL_mem h2 r h
theorem lk_mem' {β : Type} {α : Type} [BEq α] [LawfulBEq α] : ∀ {l : List (α × β)} {x : α} {d : β}, l.lookup x = some d → (x, d) ∈ l
  | [], _, _, h => nomatch h
  | (y, e) :: l, x, d, h => by
    rw [List.lookup_cons] at h
    by_cases hx : x = y
    · subst hx; simp at h; subst h; exact .head _
    · have : (x == y) = false := by simpa using hx
      rw [this] at h
      exact .tail _ (lk_mem' h)
section
variable {V : Type} [DecidableEq V] {nm : V → Str} {prog : Program} {w : World} {h₀ : Heap} {A : Around} {env : Env} {σ : V → Option B}
def CapL (nm : V → Str) (env : Env) (σ : V → Option B) (scope : Scope) (cl : List (Str × Addr)) : List (V × D) → Prop
  | [] => True
  | p :: l => (σ p.1 = some (.im p.2) ∧ env.kindOf (nm p.1) = some .cell ∧ (compEnvC scope cl 0 env).kindOf (nm p.1) = some .cell ∧ ∃ c, cl.lookup (nm p.1) = some c) ∧ CapL nm env σ scope cl l
theorem capL_mem {scope : Scope} {cl : List (Str × Addr)} : ∀ {l : List (V × D)}, CapL nm env σ scope cl l → ∀ p ∈ l, σ p.1 = some (.im p.2) ∧ env.kindOf (nm p.1) = some .cell ∧ (compEnvC scope cl 0 env).kindOf (nm p.1) = some .cell ∧ ∃ c, cl.lookup (nm p.1) = some c
  | [], _, _, h => nomatch h
  | q :: l, ⟨h1, h2⟩, r, hr => by
    rcases List.mem_cons.mp hr with rfl | h
    · exact h1
    · exact capL_mem h2 r h
theorem cap_mk {scope : Scope} {cl : List (Str × Addr)} {l : List (V × D)} (hk : scope.kind = .function) (hn : ∀ x ∈ scope.names, x.2 = .local → scope.names.lookup x.1 = some .local) (hc : ∀ x ∈ scope.names, x.2 ≠ .cell) (hclos : closureFor scope env = pure cl) (hl : LookL env cl)
    (hcap : CapL nm env σ scope cl l) : Cap nm env σ scope cl (imσ l) where
  kind := hk
  names := hn
  nocell := hc
  clos := hclos
  sub := fun c hc => mem_of_lookup' (lookL_mem hl c hc)
  look := fun n c h => lookL_mem hl (n, c) (lk_mem' h)
  cap := fun y b h => by
    unfold imσ at h
    obtain ⟨d, hd, rfl⟩ := Option.map_eq_some_iff.mp h
    have := capL_mem hcap _ (lk_mem' hd)
    exact ⟨d, rfl, this⟩

theorem evo_list {os : OsState} {es : List Expr} {ds : List D} {pos : Pos} (h : EvS nm prog w h₀ A env σ es ds) (hn : ds.length ≤ 1000) : EvO nm prog w h₀ A env (.List es pos) σ (.ol ds) := ⟨fun s mu S => by
  with_reducible refine wpAny_List (ev_mono (h.run pos s mu S) ?_)
  rintro vs s' ⟨k, r⟩
  refine ⟨by rw [r.length, sizeLine_eq]; omega, kp_trans k (kp_push s' _), rfl, _, rfl, fresh_old k, vs, ⟨0, Heap.get?_push_size _ rfl⟩, ?_⟩
  exact RdL.move (fun b o hb e _ => ⟨Heap.get?_push_of_some _ e, fun h => h.elim hb fun h => Nat.ne_of_lt (Heap.lt_size e) h⟩) _ _ r⟩
end
end Mine

-- M27
namespace Mine
open PySem PySem.Calls PyProof.Rows PySem.W

section
variable {V : Type} [DecidableEq V] {nm : V → Str} {prog : Program} {w : World} {h₀ : Heap} {A : Around} {env : Env} {σ : V → Option B}

theorem newEnv_c1 {M : Model} {E : Value → Shared → Prop} {s : Shared} {scope : Scope} {outer : Env} {g : Addr} {cl : List (Str × Addr)} {x qual : Str} {Q : Env → Shared → Prop} (hc : ∀ n, cellsFrom n scope.names cl = (x, n) :: cl) (hp : ∀ h, pushCells h scope.names = h.push { cls := .type "cell", data := .cell none })
    (hQ : Q (newEnv scope s.heap.objs.size g ((x, s.heap.objs.size + 1) :: cl) qual none .none (some outer) builtinsNs) { s with heap := (s.heap.push { cls := .type "dict", data := .dict #[] }).push { cls := .type "cell", data := .cell none } }) :
    wpAny M A (newFunctionEnv scope g cl [] qual none .none (some outer)) Q E s := by
  simp only [newFunctionEnv, Option.isSome_some, if_true]
  refine wpAny_bind (wpAny_alloc ?_)
  refine wpAny_bind (wpAny_layCells _ (fun name kind cells => by cases hkc : kind == NameKind.cell <;> simp [hkc]) _ _ _ _ ?_)
  rw [hc, hp, show ({ s with heap := s.heap.push { cls := .type "dict", data := .dict #[] } } : Shared).heap.objs.size = s.heap.objs.size + 1 from Heap.size_push ..]
  rw [List.forIn_nil]
  refine wpAny_bind (wpAny_pure (wpAny_pure ?_))
  exact hQ

/-- a comprehension's frame with one cell of its own: its target -/
structure Cap1 (nm : V → Str) (env : Env) (σ : V → Option B) (scope : Scope) (cl : List (Str × Addr)) (σ₀ : V → Option B) (tx : V) : Prop where
  kind : scope.kind = .function
  names : ∀ x ∈ scope.names, x.2 = .local → scope.names.lookup x.1 = some .local
  cellsOf : ∀ n, cellsFrom n scope.names cl = (nm tx, n) :: cl
  pushOf : ∀ h, pushCells h scope.names = h.push { cls := .type "cell", data := .cell none }
  clos : closureFor scope env = pure cl
  look : LookL env cl
  cap : ∀ y b, σ₀ y = some b → ∃ d, b = .im d ∧ σ y = some (.im d) ∧ env.kindOf (nm y) = some .cell ∧ (compEnvC scope cl 0 env).kindOf (nm y) = some .cell ∧ ∃ c, cl.lookup (nm y) = some c
  tgt : (compEnvC scope cl 0 env).kindOf (nm tx) = some .cell
  tx0 : σ₀ tx = none

theorem cap1_mk {scope : Scope} {cl : List (Str × Addr)} {l : List (V × D)} {tx : V} (hk : scope.kind = .function) (hn : ∀ x ∈ scope.names, x.2 = .local → scope.names.lookup x.1 = some .local) (hc : ∀ n, cellsFrom n scope.names cl = (nm tx, n) :: cl) (hp : ∀ h, pushCells h scope.names = h.push { cls := .type "cell", data := .cell none })
    (hclos : closureFor scope env = pure cl) (hl : LookL env cl) (hcap : CapL nm env σ scope cl l) (ht : (compEnvC scope cl 0 env).kindOf (nm tx) = some .cell) (h0 : imσ l tx = none) : Cap1 nm env σ scope cl (imσ l) tx where
  kind := hk
  names := hn
  cellsOf := hc
  pushOf := hp
  clos := hclos
  look := hl
  cap := fun y b h => by
    unfold imσ at h
    obtain ⟨d, hd, rfl⟩ := Option.map_eq_some_iff.mp h
    have := capL_mem hcap _ (lk_mem' hd)
    exact ⟨d, rfl, this⟩
  tgt := ht
  tx0 := h0

theorem comp_run1 (hnm : ∀ x y, nm x = nm y → x = y) (hA : A.handled = none) (K : EnvOk h₀ env) {elt iter : Expr} {ifs : List Expr} {scope : Scope} {pos px : Pos} {cl : List (Str × Addr)} {σ₀ : V → Option B} {tx : V} (c : Cap1 nm env σ scope cl σ₀ tx) {tl : Bool} {ds : List D} {x0 : V} (hx0 : σ₀ x0 = none) (htx : tx ≠ x0)
    (pz : D → Bool) (f : D → D) (hff : ∀ d, FlatD (f d))
    (tst : ∀ C q d, d ∈ ds → EnvOk h₀ (compEnvC scope ((nm tx, q) :: cl) C env) → TstL nm prog w h₀ A (compEnvC scope ((nm tx, q) :: cl) C env) (upd σ₀ tx (some (.im d))) ifs (pz d))
    (hel : ∀ C q d, d ∈ ds → EnvOk h₀ (compEnvC scope ((nm tx, q) :: cl) C env) → pz d = true → Ev nm prog w h₀ A (compEnvC scope ((nm tx, q) :: cl) C env) (upd σ₀ tx (some (.im d))) elt (f d))
    {s s₂ : Shared} {mu : Addr → Prop} (S : Stt nm prog w h₀ env σ mu s) {it : Value} (hs : SrcP prog w A s mu tl ds it s₂) {RR : Value → Addr → Result → Shared → Prop} {E : Value → Shared → Prop}
    (hRR : ∀ D₁ C s' ys m, Keeps s s' → s.heap.get? D₁ = none → s.heap.get? C = none → D₁ ≠ C → s'.heap.Ns C m → s'.heap.PlainList D₁ (List.toArray ys) → (∀ mu, RdL s'.heap mu ((ds.filter pz).map f) ys) → RR (.ref D₁) C (.ok .next) s') :
    wpAny (model prog w) A (newList []) (fun acc s₃ => wpAny (model prog w) A (newFunctionEnv scope env.globals cl [] env.qual none .none (some env)) (fun cenv s₄ =>
      codeAny (model prog w) A (.compStart (.ListComp elt [⟨.Name (nm tx) px, iter, ifs, 0⟩] scope pos) 0 it acc { cenv with scope := relabel scope env }) (RR acc cenv.locals) s₄) E s₃) E s₂ := by
  obtain ⟨I, fp, n, P, St, rfl, k₂, W, hlen, hn, hIs, hSt, hfp, hP, st0, htl⟩ := hs
  have S₂ := S.keeps k₂
  refine wpAny_newObj_type (newEnv_c1 c.cellsOf c.pushOf ?_)
  dsimp only
  generalize hH2 : s₂.heap.push { cls := .type "list", dict := none, data := .seq ([] : List Value).toArray } = H2
  generalize hh1 : (H2.push { cls := .type "dict", data := .dict #[] }).push { cls := .type "cell", data := .cell none } = h₁
  have hns₁ : h₁.Ns H2.objs.size (fun _ => none) := by rw [← hh1]; exact (Heap.Ns.new H2 (.type "dict")).keeps fun b o e => Heap.get?_push_of_some _ e
  have hpp : (H2.push { cls := .type "dict", data := .dict #[] }).objs.size = H2.objs.size + 1 := Heap.size_push ..
  have hcell₁ : h₁.IsCell (H2.objs.size + 1) none := by rw [← hh1, ← hpp]; exact ⟨_, Heap.get?_push_size _ rfl, rfl⟩
  have kh1 : ∀ b o, H2.get? b = some o → h₁.get? b = some o := fun b o e => by rw [← hh1]; exact Heap.get?_push_of_some _ (Heap.get?_push_of_some _ e)
  have hC : H2.objs.size = s₂.heap.objs.size + 1 := by rw [← hH2, Heap.size_push]
  have hDC : s₂.heap.objs.size ≠ H2.objs.size := by rw [hC]; exact Nat.ne_of_lt (Nat.lt_succ_self _)
  have hDp : s₂.heap.objs.size ≠ H2.objs.size + 1 := by rw [hC]; exact Nat.ne_of_lt (Nat.lt_succ_of_lt (Nat.lt_succ_self _))
  have hCp : H2.objs.size + 1 ≠ H2.objs.size := Nat.succ_ne_self _
  have below : ∀ b o, s₂.heap.get? b = some o → b ≠ H2.objs.size ∧ b ≠ s₂.heap.objs.size ∧ b ≠ H2.objs.size + 1 := fun b o e => by
    have hb := Heap.lt_size e
    exact ⟨by rw [hC]; exact Nat.ne_of_lt (Nat.lt_succ_of_lt hb), Nat.ne_of_lt hb, by rw [hC]; exact Nat.ne_of_lt (Nat.lt_succ_of_lt (Nat.lt_succ_of_lt hb))⟩
  have old : ∀ b o, s₂.heap.get? b = some o → h₁.get? b = some o := fun b o e => kh1 b o (hH2 ▸ Heap.get?_push_of_some _ e)
  have hacc : h₁.PlainList s₂.heap.objs.size #[] := ⟨_, kh1 _ _ (hH2 ▸ Heap.get?_push_size _ rfl)⟩
  have hst₁ : St 0 h₁ := W.frame _ _ _ st0 fun b _ o e => old b o e
  have none₂ : ∀ a, s₂.heap.objs.size ≤ a → s₂.heap.get? a = none := fun a ha => by
    cases e : s₂.heap.get? a with
    | none => rfl
    | some o' => exact absurd (Heap.lt_size e) (Nat.not_lt.mpr ha)
  have noneS : ∀ a, s₂.heap.get? a = none → s.heap.get? a = none := fun a ha => by
    cases e : s.heap.get? a with
    | none => rfl
    | some o' => rw [kp_heap k₂ a o' e] at ha; cases ha
  have hD2 := none₂ _ (Nat.le_refl _)
  have hC2 : s₂.heap.get? H2.objs.size = none := none₂ _ (by rw [hC]; exact Nat.le_succ _)
  have hp2 : s₂.heap.get? (H2.objs.size + 1) = none := none₂ _ (by rw [hC]; exact Nat.le_succ_of_le (Nat.le_succ _))
  generalize hpe : H2.objs.size + 1 = p at hcell₁ hDp hCp below hp2
  have inEnv : ∀ q ∈ cl, q ∈ env.cells := fun q hq => mem_of_lookup' (lookL_mem c.look q hq)
  have cellIn : ∀ q ∈ cl, ∃ o, s₂.heap.get? q.2 = some o := fun q hq => by
    obtain ⟨v, o, e, _⟩ := (S₂.cells q (inEnv q hq)).2
    exact ⟨o, e⟩
  have hlk : ∀ y z, ((nm tx, p) :: cl).lookup y = some z → (y = nm tx ∧ z = p) ∨ (y ≠ nm tx ∧ cl.lookup y = some z) := by
    intro y z h
    rw [List.lookup_cons] at h
    by_cases hy : y = nm tx
    · subst hy; simp at h; exact .inl ⟨rfl, h.symm⟩
    · have : (y == nm tx) = false := by simpa using hy
      rw [this] at h
      exact .inr ⟨hy, h⟩
  have Kc : EnvOk h₀ (compEnvC scope ((nm tx, p) :: cl) H2.objs.size env) := by
    refine ⟨⟨c.kind, K.globals, K.builtins⟩, none_of_old S₂.old hC2, fun q hq => ?_, fun q hq => ?_, fun y z a hy hz => ?_⟩
    · rcases List.mem_cons.mp hq with rfl | hq
      · exact none_of_old S₂.old hp2
      · exact K.cellNew q (inEnv q hq)
    · rcases List.mem_cons.mp hq with rfl | hq
      · exact hCp
      · obtain ⟨o, e⟩ := cellIn q hq
        exact (below _ _ e).1
    · have bad : ∀ u, cl.lookup u = some p → False := fun u hu => by
        obtain ⟨o, e⟩ := cellIn _ (mem_of_lookup' hu)
        rw [hp2] at e; cases e
      rcases hlk y a hy with ⟨rfl, rfl⟩ | ⟨hy1, hy2⟩ <;> rcases hlk z _ hz with ⟨rfl, hz1⟩ | ⟨hz1, hz2⟩
      · rfl
      · exact (bad _ hz2).elim
      · subst hz1; exact (bad _ hy2).elim
      · exact K.cellInj y z a (lookL_mem c.look _ (mem_of_lookup' hy2)) (lookL_mem c.look _ (mem_of_lookup' hz2))
  have k₄ : Keeps s₂ { s₂ with heap := h₁ } := ⟨h₁, s₂.toks, rfl, old⟩
  have muc : ∀ q o, ¬ mu q → s₂.heap.get? q = some o → ¬ Mu (compEnvC scope ((nm tx, p) :: cl) H2.objs.size env) (fun y : V => if y = x0 then some s₂.heap.objs.size else none) q := by
    rintro q o hq e (h | ⟨c', hc', h⟩ | ⟨y, h⟩)
    · exact (below q o e).1 h
    · rcases List.mem_cons.mp hc' with rfl | hc'
      · exact (below q o e).2.2 h
      · exact hq (h ▸ (S.cells c' (inEnv c' hc')).1)
    · by_cases hy : y = x0
      · dsimp only at h; rw [if_pos hy] at h; cases h; exact (below _ o e).2.1 rfl
      · dsimp only at h; rw [if_neg hy] at h; cases h
  have S₄ : StO nm prog w h₀ s₂.os (compEnvC scope ((nm tx, p) :: cl) H2.objs.size env) (fun y : V => if y = x0 then some s₂.heap.objs.size else none) σ₀ { s₂ with heap := h₁ } := by
    have S₄' := S₂.keeps k₄
    refine ⟨S₄'.up, S₄'.old, fun y d hy => ?_, fun y b hy hb => ?_, fun y z a hy hz => ?_, fun y a hy => ?_, ⟨_, hns₁⟩, fun q hq => ?_, S₄'.bare, rfl⟩
    · obtain ⟨d', e', hσ, hk, hk', cc, hcc⟩ := c.cap y _ hy
      cases e'
      have hyt : nm y ≠ nm tx := fun h => by
        rw [hnm _ _ h, c.tx0] at hy; cases hy
      obtain ⟨v, r, hv⟩ := S₂.vw y _ hσ
      refine ⟨v, ?_, Rd.move (fun b o hb e _ => ⟨old b o e, muc b o hb e⟩) _ _ hv⟩
      rcases r with ⟨e, _⟩ | ⟨_, c', hc', ho⟩
      · rw [hk] at e; cases e
      · have := lookL_mem c.look _ (mem_of_lookup' hcc)
        dsimp only at this
        rw [hc'] at this; cases this
        refine .inr ⟨hk', _, ?_, ho.keeps old⟩
        show ((nm tx, p) :: cl).lookup (nm y) = _
        rw [List.lookup_cons, show (nm y == nm tx) = false from by simpa using hyt]
        exact hcc
    · obtain ⟨d', e', _⟩ := c.cap y _ hy
      subst e'; cases hb
    · by_cases h1 : y = x0 <;> by_cases h2 : z = x0
      · rw [h1, h2]
      · simp only [if_neg h2] at hz; cases hz
      · simp only [if_neg h1] at hy; cases hy
      · simp only [if_neg h1] at hy; cases hy
    · by_cases h1 : y = x0
      · simp only [if_pos h1] at hy; cases hy
        refine ⟨hDC, fun q hq h => ?_, none_of_old S₂.old hD2, ⟨_, hacc.choose_spec⟩⟩
        rcases List.mem_cons.mp hq with rfl | hq
        · exact hDp h
        · obtain ⟨o, e⟩ := cellIn q hq
          rw [← h, hD2] at e; cases e
      · simp only [if_neg h1] at hy; cases hy
    · rcases List.mem_cons.mp hq with rfl | hq
      · exact ⟨none, hcell₁⟩
      · exact (S₄'.cells q (inEnv q hq)).2
  have hI2 : ∃ o, s₂.heap.get? I = some o := let ⟨o, e, _⟩ := hSt _ _ st0; ⟨o, e⟩
  obtain ⟨oI, eI⟩ := hI2
  have hIm : ¬ Mu (compEnvC scope ((nm tx, p) :: cl) H2.objs.size env) (fun y : V => if y = x0 then some s₂.heap.objs.size else none) I := by
    rintro (h | ⟨c', hc', h⟩ | ⟨y, h⟩)
    · exact (below I oI eI).1 h
    · rcases List.mem_cons.mp hc' with rfl | hc'
      · exact (below I oI eI).2.2 h
      · obtain ⟨v, o, e, _⟩ := (S.cells c' (inEnv c' hc')).2
        rw [← h, hIs] at e; cases e
    · by_cases hy : y = x0
      · dsimp only at h; rw [if_pos hy] at h; cases h; exact (below _ oI eI).2.1 rfl
      · dsimp only at h; rw [if_neg hy] at h; cases h
  have hID : I ≠ s₂.heap.objs.size := (below I oI eI).2.1
  have hpt : Slot' (compEnvC scope ((nm tx, p) :: cl) H2.objs.size env) (nm tx) p := .cell c.tgt (by show ((nm tx, p) :: cl).lookup (nm tx) = _; rw [List.lookup_cons]; simp)
  have sub : ∀ (d : D) (σ' : V → Option B), (∀ y b, y ≠ tx → σ₀ y = some b → σ' y = some b) ∧ σ' tx = some (.im d) → ∀ y b, upd σ₀ tx (some (.im d)) y = some b → σ' y = some b := by
    rintro d σ' ⟨h1, h2⟩ y b hy
    by_cases h : y = tx
    · subst h; rw [upd_same] at hy; cases hy; exact h2
    · rw [upd_ne _ _ h] at hy; exact h1 y b h hy
  have loop : codeAny (model prog w) A (.compLoop (.ListComp elt [⟨.Name (nm tx) px, iter, ifs, 0⟩] scope pos) 0 (.ref I) (.ref s₂.heap.objs.size) (compEnvC scope ((nm tx, p) :: cl) H2.objs.size env)) (RR (.ref s₂.heap.objs.size) H2.objs.size)
      { s₂ with heap := h₁ } := by
    refine comp_core (str := true) W hlen hn (Y := fun q => q = H2.objs.size ∨ q = p) (x0 := x0) (fun h => h.elim (below I oI eI).1 (below I oI eI).2.2) (fun h => h.elim hDC hDp) hID (fun σ' => ∀ y b, y ≠ tx → σ₀ y = some b → σ' y = some b) (fun d σ' => (∀ y b, y ≠ tx → σ₀ y = some b → σ' y = some b) ∧ σ' tx = some (.im d)) pz f (fun d σ h => h.1) hff
      (fun i d v ow' σ' s' Q hd hPv hsti hB how hx S' hr hQ => ?_) (fun i d σ' hd ht => (tst _ _ d (List.mem_of_getElem? hd) Kc).sub (sub d σ' ht)) (fun i d σ' hd ht hp => (hel _ _ d (List.mem_of_getElem? hd) Kc hp).sub (sub d σ' ht)) S₄ (fun y b _ h => h) (by simp) hx0 (none_of_old S.old hIs) hIm hSt (fun b hb hbI => ?_) (fun i v d hv hd => ?_) hst₁ hacc fun s' ow' σ' ys S' kx hl hr => ?_
    · refine wpAny_of_eq (a := ()) rfl ?_
      refine wpAny_assign_Name (wp_store (str := true) Kc hnm (b := .im d) S' (kp_refl _) (newb_im hr) hpt fun s₂ S₂ t₂ k₂ => ?_)
      refine hQ s₂ _ _ S₂ t₂ (kx_mono k₂ fun q h => .inr h) ?_ ?_ ⟨fun y b hy h => ?_, upd_same _ _ _⟩
      · rw [upd_ne _ _ (Ne.symm htx)]; exact how
      · rw [upd_ne _ _ (Ne.symm htx)]; exact hx
      · rw [upd_ne _ _ hy]; exact hB y b hy h
    · obtain ⟨h1, o, e, h2⟩ := hfp b hb hbI
      exact ⟨muc b o h1 e, o, old b o e, h2⟩
    · exact Rd.move (fun b o hb e _ => ⟨old b o e, muc b o hb e⟩) _ _ (hP i v d hv hd)
    · obtain ⟨m, hm⟩ := S'.ns
      refine hRR _ _ s' ys m (kx_new (kp_trans k₂ k₄) kx ?_) (noneS _ hD2) (noneS _ hC2) hDC hm hl hr
      rintro q ((h | h) | h | h)
      · rw [h]; exact noneS _ hC2
      · rw [h]; exact noneS _ hp2
      · rw [h]; exact noneS _ hD2
      · rw [h]; exact hIs
  subst hpe
  exact codeAny_compStart_list loop (W.self 0 _ _ _ hst₁ loop)
end
end Mine

-- M28
namespace Mine
open PySem PySem.Calls PyProof.Rows PySem.W

section
variable {V : Type} [DecidableEq V] {nm : V → Str} {prog : Program} {w : World} {h₀ : Heap} {os : OsState} {A : Around} {env : Env} {σ : V → Option B} {ow : V → Option Addr} {str : Bool}

/-- y = [..], y a local of the frame's (the stores are exchanged) -/
theorem trs_asg_comp1 (hnm : ∀ x y, nm x = nm y → x = y) (hA : A.handled = none) (K : EnvOk h₀ env) {elt iter : Expr} {px : Pos} {ifs : List Expr} {scope : Scope} {pos spos py : Pos} {tl : Bool} {ds : List D} {pz : D → Bool} {f : D → D} {cl : List (Str × Addr)} {σ₀ : V → Option B} {x0 y tx : V}
    (cap : Cap1 nm env σ scope cl σ₀ tx) (src : Src nm prog w h₀ A env σ tl iter ds) (hx0 : σ₀ x0 = none) (htx : tx ≠ x0) (flat : ∀ d, FlatD (f d))
    (tst : ∀ C q d, d ∈ ds → EnvOk h₀ (compEnvC scope ((nm tx, q) :: cl) C env) → TstL nm prog w h₀ A (compEnvC scope ((nm tx, q) :: cl) C env) (upd σ₀ tx (some (.im d))) ifs (pz d))
    (hel : ∀ C q d, d ∈ ds → EnvOk h₀ (compEnvC scope ((nm tx, q) :: cl) C env) → pz d = true → Ev nm prog w h₀ A (compEnvC scope ((nm tx, q) :: cl) C env) (upd σ₀ tx (some (.im d))) elt (f d))
    (hy : env.kindOf (nm y) = some .local) {Post : FD → (V → Option B) → Prop} (hq : Post .next (upd σ y (some (.ol ((ds.filter pz).map f)))))
    (fold : ∀ x, foldedSetIterable iter env x = pure x) (hsw : swapsWith (.ListComp elt [⟨.Name (nm tx) px, iter, ifs, 0⟩] scope pos) (some (.Name (nm y) py)) spos.line env = pure true := by rfl) :
    TrS nm prog w h₀ os A env str (.Assign [.Name (nm y) py] (.ListComp elt [⟨.Name (nm tx) px, iter, ifs, 0⟩] scope pos) spos) σ Post := ⟨fun ow s S => by
  rw [exec_Assign_Name_used _ _ _ _ hsw]
  refine wpAny_bind (wpAny_standAt (wpAny_bind ?_))
  show wpAny _ A (do let _ ← comprehension (.ListComp elt [⟨.Name (nm tx) px, iter, ifs, 0⟩] scope pos) scope env _ (newList []) false (eval iter env) (some (assign (.Name (nm y) py) env))) _ _ s
  refine wpAny_bind (ev_mono (wpAny_comprehension_free (use := some (assign (.Name (nm y) py) env)) (Q := fun _ s' => Res nm prog w h₀ os env str ow s Post .next s') rfl fold cap.clos cap.kind cap.names
    (ev_mono (src.run s _ S.stt) fun xv s₁ h₁ => wf (ev_mono h₁ fun it s₂ h₂ => ?_))) (fun _ s' hq => wpAny_pure (wpAny_pure hq)))
  refine comp_run1 (x0 := x0) (RR := fun acc C => compPost (model prog w) A (fun _ _ => False) (some (assign (.Name (nm y) py) env)) (fun _ s' => Res nm prog w h₀ os env str ow s Post .next s') acc C) hnm hA K cap hx0 htx pz f flat tst hel S.stt h₂ fun D₁ C s' ys m k hD hC hDC hn hl hr => ?_
  show wpAny _ A (assign (.Name (nm y) py) env (.ref D₁)) _ _ _
  have flatAll : ∀ d ∈ (ds.filter pz).map f, FlatD d := fun d hd => by obtain ⟨e, _, rfl⟩ := List.mem_map.mp hd; exact flat e
  have hk := K.kind
  obtain ⟨mL, hnL⟩ := S.ns
  have hLC : C ≠ env.locals := fun h => by
    obtain ⟨o, _, _, e, _⟩ := hnL
    rw [← h, hC] at e; cases e
  have hcl : (env.scope.kind == .class || (env.scope.kind == .module && env.locals != env.globals)) = false := by rw [hk]; rfl
  with_reducible refine wpAny_assign_Name (wpAny_storeName_local hy (hnL.keeps (kp_heap k)) (fun h₂ hn₂ hs₂ => ?_) hcl)
  refine ⟨m, hn.sameBut hs₂ hLC, fun h' hs' => ?_⟩
  have hn' := hn₂.sameBut hs' (Ne.symm hLC)
  have hother : ∀ q, q ≠ env.locals → q ≠ C → h'.get? q = s'.heap.get? q := fun q h1 h2 => (hs'.2 q h2).trans (hs₂.2 q h1)
  have cellC : ∀ c ∈ env.cells, c.2 ≠ C := fun c' hc' h => by
    obtain ⟨v, o, e, _⟩ := S.cells c' hc'
    rw [h, hC] at e; cases e
  have hcell : ∀ q o, s.heap.get? q = some o → q ≠ env.locals → h'.get? q = some o := fun q o e h1 => (hother q h1 (fun h => by subst h; rw [hC] at e; cases e)).trans (kp_heap k q o e)
  have hDL : D₁ ≠ env.locals := fun h => by
    obtain ⟨o, _, _, e, _⟩ := hnL
    rw [← h, hD] at e; cases e
  have hgo : ∃ h tk, ({ s' with heap := h', toks := s'.toks + 1 } : Shared) = { s with heap := h, toks := tk } := by obtain ⟨h2, tk, e, _⟩ := k; subst e; exact ⟨_, _, rfl⟩
  have z := st_stored2 (str := str) K (x := y) (b := .ol ((ds.filter pz).map f)) (v := .ref D₁) (s₂ := { s' with heap := h', toks := s'.toks + 1 }) S (.inr ⟨rfl, D₁, rfl, hD, ys, hl.at fun o e => (hother D₁ hDL hDC).trans e, flat_rdl flatAll (hr (fun _ => False))⟩) (.loc hy)
    (fun q o hq e => hcell q o e hq) (.inl ⟨hy, _, hn', by simp⟩) (fun z u hz r => ?_) ⟨_, hn'⟩ (fun c' hc' => ?_) hgo
  · exact Res.next z.1 z.2 hq
  · rcases r with ⟨a, m₁, hm₁, e⟩ | ⟨a, c', hc', o, ho, hd⟩
    · refine .inl ⟨a, _, hn', ?_⟩
      rw [if_neg (fun e' => hz (hnm z y e')), ns_unique hnL hm₁, e]
    · exact .inr ⟨a, c', hc', o, hcell _ o ho (K.cellNe _ (mem_of_lookup' hc')), hd⟩
  · obtain ⟨v, o, e, hd⟩ := S.cells c' hc'
    exact ⟨v, o, hcell _ o e (K.cellNe c' hc'), hd⟩⟩
end
end Mine

-- L1
namespace Mine
open PySem PySem.Calls PyProof.Rows PySem.W

def stBody : Stmt → List Stmt
  | .FunctionDef _ _ b _ _ _ _ _ _ _ => b
  | .ClassDef _ _ _ b _ _ _ _ _ _ _ => b
  | _ => []
def stScope : Stmt → Scope
  | .FunctionDef _ _ _ _ _ _ s _ _ _ => s
  | _ => default
def topSt (n : Nat) : Stmt := (PySem.Challenge.pw_wn0087_01.main.body)[n]?.getD (.Pass ⟨0, 0, 0, 0⟩)
def metSt (n : Nat) : Stmt := (stBody (topSt 8))[n]?.getD (.Pass ⟨0, 0, 0, 0⟩)

/-- a state by rows -/
def mkσ {V : Type} [DecidableEq V] (l : List (V × B)) (x : V) : Option B := l.lookup x
def SubL {V : Type} (σ : V → Option B) : List (V × B) → Prop
  | [] => True
  | (x, b) :: l => σ x = some b ∧ SubL σ l
theorem subL_mk {V : Type} [DecidableEq V] {σ : V → Option B} : ∀ {l : List (V × B)}, SubL σ l → ∀ y b, mkσ l y = some b → σ y = some b
  | [], _, _, _, h => nomatch h
  | (x, c) :: l, ⟨h1, h2⟩, y, b, h => by
    unfold mkσ at h
    rw [List.lookup_cons] at h
    by_cases hy : y = x
    · subst hy; simp at h; subst h; exact h1
    · have hb : (y == x) = false := by simpa using hy
      rw [hb] at h
      exact subL_mk h2 y b h

section
variable {V : Type} [DecidableEq V] {nm : V → Str} {prog : Program} {w : World} {h₀ : Heap} {os : OsState} {A : Around} {env : Env} {σ : V → Option B} {str : Bool}
theorem tr_seq {st : Stmt} {ss : List Stmt} {P Post : FD → (V → Option B) → Prop} (h : TrS nm prog w h₀ os A env str st σ P) (hn : ∀ fd σ', P fd σ' → match fd with | .next => Tr nm prog w h₀ os A env str ss σ' Post | fd => Post fd σ') : Tr nm prog w h₀ os A env str (st :: ss) σ Post := tr_cons (h.imp hn)
theorem tr_mk {ss : List Stmt} {l : List (V × B)} {Post : FD → (V → Option B) → Prop} (h : Tr nm prog w h₀ os A env str ss (mkσ l) Post) (hs : SubL σ l) : Tr nm prog w h₀ os A env str ss σ Post := tr_sub h (subL_mk hs)
end

-- _law_measure
inductive VM where
  | a | b
deriving DecidableEq
def nmM : VM → Str
  | .a => "a"
  | .b => "b"
theorem nmM_inj : ∀ x y, nmM x = nmM y → x = y := by
  intro x y h
  cases x <;> cases y <;> first | rfl | (revert h; decide)


theorem tr_measure {prog : Program} {w : World} {h₀ : Heap} {os : OsState} {A : Around} {env : Env} (hA : A.handled = none) (F : FEnv h₀ (stScope (topSt 11)) env) (a b : Nat) :
    Tr nmM prog w h₀ os A env true (stBody (topSt 11)) (argsσ [.a, .b] [.int a, .int b]) fun fd _ => fd = .ret (.int (Nat.gcd a b)) := by
  obtain ⟨K, hS, hC⟩ := F
  obtain ⟨sc, L, gl, ce, qu, fu, co, fr, bu⟩ := env
  cases hS
  have ka : Slot' ⟨stScope (topSt 11), L, gl, ce, qu, fu, co, fr, bu⟩ "a" _ := .loc rfl
  have kb : Slot' ⟨stScope (topSt 11), L, gl, ce, qu, fu, co, fr, bu⟩ "b" _ := .loc rfl
  have kk := K.kind
  show Tr nmM prog w h₀ os A _ true [_, _] _ _
  refine tr_seq (trs_while (Post := fun fd σ' => fd = .next ∧ σ' VM.a = some (.im (.int (Nat.gcd a b)))) (fun σ => ∃ x y : Nat, Nat.gcd x y = Nat.gcd a b ∧ SubL σ [(VM.a, .im (.int x)), (VM.b, .im (.int y))]) (fun σ => match σ VM.b with | some (.im (.int y)) => y.toNat | _ => 0) ⟨a, b, rfl, rfl, rfl, trivial⟩ ?_) ?_
  · rintro σ ⟨x, y, hg, ha, hb, -⟩
    refine ⟨(y : Int) != 0, tst_int (ev_name kk VM.b hb), fun hy => ?_, fun hy => ?_⟩
    · have hy0 : (y : Int) ≠ 0 := by simpa using hy
      refine tr_seq (trs_swap2 (x := VM.a) (y := VM.b) K nmM_inj hA ka kb (evs_cons (ev_name kk VM.b hb) (evs_cons (ev_opi (ev_name kk VM.a ha) (ev_name kk VM.b hb) (op_mod hA hy0)) evs_nil)) ?_ ?_ (Post := fun fd σ' => fd = .next ∧ σ' VM.a = some (.im (.int y)) ∧ σ' VM.b = some (.im (.int (Int.fmod x y)))) ⟨rfl, rfl, rfl⟩) ?_
      · rfl
      · rfl
      · rintro fd σ' ⟨rfl, h1, h2⟩
        refine tr_nil ?_
        have e : Int.fmod (x : Int) y = ((x % y : Nat) : Int) := by
          rw [Int.fmod_eq_emod_of_nonneg _ (by omega)]; rfl
        rw [e] at h2
        refine ⟨⟨y, x % y, ?_, h1, h2, trivial⟩, ?_⟩
        · rw [← hg, Nat.gcd_comm x y, Nat.gcd_rec y x, Nat.gcd_comm]
        · rw [h2, hb]
          exact Nat.mod_lt _ (by omega)
    · have hy0 : y = 0 := by simpa using hy
      subst hy0
      refine tr_nil ⟨rfl, ?_⟩
      rw [ha, ← hg, Nat.gcd_zero_right]
  · rintro fd σ' ⟨rfl, h⟩
    exact tr_seq (trs_ret (Post := fun fd _ => fd = .ret (.int (Nat.gcd a b))) (ev_name kk VM.a h) rfl) (by rintro fd σ' rfl; rfl)
end Mine

-- L2
namespace Mine
open PySem PySem.Calls PyProof.Rows PySem.W

theorem hex_small {i : Int} (h : i.natAbs < 18446744073709551616) : (baseText "0x" 16 i).length ≤ 67 := by
  have e : (2 : Nat) ^ 64 = 18446744073709551616 := by decide
  have h64 : i.natAbs < 16 ^ 64 := Nat.lt_of_lt_of_le (by rw [e]; exact h) (Nat.pow_le_pow_left (by decide) 64)
  have h1 := toDigits_len_pow (by decide) (by decide : 1 ≤ 64) h64
  unfold baseText
  have h4 := ofString_ofList_length (Nat.toDigits 16 i.natAbs)
  rw [Str.length_append, Str.length_append, h4]
  have h3 : (Str.ofString (if i < 0 then "-" else "")).length ≤ 1 := by
    split <;> (rw [PyProof.Rows.ofString_len]; decide)
  have e2 : (Str.ofString "0x").length = 2 := by rw [PyProof.Rows.ofString_len]; rfl
  omega
theorem hex_fits {i : Int} (h : i.natAbs < 18446744073709551616) : (baseText "0x" 16 i).length ≤ sizeLine := by
  have := hex_small h; rw [sizeLine_eq]; omega

/-- the table of names -/
def tabL : List (Int × Str) := [(1, "OPTIMIZED"), (2, "NEWLOCALS"), (4, "VARARGS"), (8, "VARKEYWORDS"), (16, "NESTED"), (32, "GENERATOR"), (64, "NOFREE"), (128, "COROUTINE"), (256, "ITERABLE_COROUTINE"), (512, "ASYNC_GENERATOR")]
def tabG (i : Int) : Option Str := tabL.lookup i
def nameS (p : Nat) : Str := (tabG ((2 ^ p : Nat) : Int)).getD (baseText "0x" 16 ((2 ^ p : Nat) : Int))
def pfNames (F i : Nat) : List Str := ((List.range i).filter (fun p => F.testBit p)).map nameS
def pfRest (F i : Nat) : Nat := F / 2 ^ i * 2 ^ i
def pfOut (F : Nat) : List Str := if F / 2 ^ 32 = 0 ∧ F ≠ 0 then pfNames F 32 else pfNames F 32 ++ [baseText "0x" 16 (pfRest F 32 : Nat)]
def pfS (F : Nat) : Str := Txt.join ", " (pfOut F)

theorem pfNames_succ (F i : Nat) : pfNames F (i + 1) = pfNames F i ++ (if F.testBit i then [nameS i] else []) := by
  unfold pfNames
  rw [List.range_succ, List.filter_append, List.map_append]
  congr 1
  cases h : F.testBit i <;> simp [h]
theorem pfNames_len (F i : Nat) : (pfNames F i).length ≤ i := by
  unfold pfNames
  rw [List.length_map]
  exact Nat.le_trans (List.length_filter_le _ _) (by simp)
theorem pfRest_zero (F : Nat) : pfRest F 0 = F := by simp [pfRest]
theorem pfRest_succ (F i : Nat) : pfRest F i = pfRest F (i + 1) + (if F.testBit i then 2 ^ i else 0) := by
  unfold pfRest
  have h1 : F / 2 ^ (i + 1) = F / 2 ^ i / 2 := by rw [Nat.pow_succ, Nat.div_div_eq_div_mul]
  have h2 : F.testBit i = decide (F / 2 ^ i % 2 = 1) := Nat.testBit_eq_decide_div_mod_eq
  rw [h1, h2, Nat.pow_succ]
  generalize F / 2 ^ i = q
  generalize 2 ^ i = r
  rcases Nat.mod_two_eq_zero_or_one q with h | h
  · simp only [h]
    have : q = 2 * (q / 2) := by omega
    conv => lhs; rw [this]
    simp; rw [Nat.mul_comm r 2, ← Nat.mul_assoc, Nat.mul_comm (q / 2) 2]
  · simp only [h]
    have : q = 2 * (q / 2) + 1 := by omega
    conv => lhs; rw [this]
    simp; rw [Nat.mul_comm r 2, ← Nat.mul_assoc, Nat.mul_comm (q / 2) 2, Nat.add_mul, Nat.one_mul]
theorem pfRest_and (F i : Nat) : pfRest F i &&& 2 ^ i = if F.testBit i then 2 ^ i else 0 := by
  have this : (pfRest F i).testBit i = F.testBit i := by
    unfold pfRest
    rw [Nat.testBit_mul_two_pow]
    simp [Nat.testBit_eq_decide_div_mod_eq]
  refine Nat.eq_of_testBit_eq fun j => ?_
  rw [Nat.testBit_and, Nat.testBit_two_pow]
  by_cases hj : i = j
  · subst hj
    rw [this]
    cases F.testBit i <;> simp
  · cases F.testBit i <;> simp [Nat.testBit_two_pow, hj]
theorem pfRest_le (F i : Nat) : pfRest F i ≤ F := Nat.div_mul_le_self _ _
theorem pf_and (F i : Nat) : Builtin.bitAnd (pfRest F i : Nat) ((2 ^ i : Nat) : Int) = ((if F.testBit i then 2 ^ i else 0 : Nat) : Int) := by
  rw [bitAnd_pp (Int.natCast_nonneg _) (Int.natCast_nonneg _), Int.toNat_natCast, Int.toNat_natCast, pfRest_and]
theorem pf_xor (F i : Nat) (h : F.testBit i = true) : Builtin.bitXor (pfRest F i : Nat) ((2 ^ i : Nat) : Int) = (pfRest F (i + 1) : Nat) := by
  unfold Builtin.bitXor
  have h1 : Builtin.bitOr (pfRest F i : Nat) ((2 ^ i : Nat) : Int) = (pfRest F i : Nat) + ((2 ^ i : Nat) : Int) - Builtin.bitAnd (pfRest F i : Nat) ((2 ^ i : Nat) : Int) := bitOr_and _ _
  rw [h1, pf_and, h, if_pos rfl]
  have := pfRest_succ F i
  rw [h, if_pos rfl] at this
  omega
theorem pf_high {F i : Nat} (hi : i ≤ 32) (h : F / 2 ^ i = 0) : pfNames F 32 = pfNames F i := by
  obtain ⟨k, hk⟩ : ∃ k, 32 = i + k := ⟨32 - i, by omega⟩
  rw [hk]
  clear hi hk
  induction k with
  | zero => rfl
  | succ k ih =>
    rw [← Nat.add_assoc, pfNames_succ, ih]
    have hlt : F < 2 ^ i := by
      rcases Nat.lt_or_ge F (2 ^ i) with h' | h'
      · exact h'
      · have := Nat.div_pos h' (Nat.two_pow_pos i); omega
    have : F.testBit (i + k) = false := Nat.testBit_lt_two_pow (Nat.lt_of_lt_of_le hlt (Nat.pow_le_pow_right (by decide) (by omega)))
    rw [this]; simp

theorem lk_mem {α β : Type} [BEq α] [LawfulBEq α] : ∀ {l : List (α × β)} {x : α} {d : β}, l.lookup x = some d → (x, d) ∈ l
  | [], _, _, h => nomatch h
  | (y, e) :: l, x, d, h => by
    rw [List.lookup_cons] at h
    by_cases hx : x = y
    · subst hx; simp at h; subst h; exact .head _
    · have : (x == y) = false := by simpa using hx
      rw [this] at h
      exact .tail _ (lk_mem h)
theorem pf_len {F : Nat} (hF : F < 2 ^ 60) : (pfOut F).length ≤ 33 ∧ ∀ y ∈ pfOut F, y.length ≤ 67 := by
  have hn : ∀ p, p < 32 → (nameS p).length ≤ 67 := by
    intro p hp
    unfold nameS
    cases h : tabG ((2 ^ p : Nat) : Int) with
    | none => exact hex_small (by rw [Int.natAbs_natCast]; exact Nat.lt_of_lt_of_le (Nat.pow_lt_pow_right (by decide) hp) (by decide))
    | some d =>
      have : d ∈ tabL.map (·.2) := by
        unfold tabG at h
        exact List.mem_map.mpr ⟨_, lk_mem h, rfl⟩
      have hd : ∀ d ∈ tabL.map (·.2), d.length ≤ 67 := by decide
      exact hd d this
  have hl : (pfNames F 32).length ≤ 32 := by
    unfold pfNames
    rw [List.length_map]
    exact Nat.le_trans (List.length_filter_le _ _) (by simp)
  have hm : ∀ y ∈ pfNames F 32, y.length ≤ 67 := by
    intro y hy
    unfold pfNames at hy
    obtain ⟨p, hp, rfl⟩ := List.mem_map.mp hy
    exact hn p (List.mem_range.mp (List.mem_filter.mp hp).1)
  unfold pfOut
  split
  · exact ⟨by omega, hm⟩
  · refine ⟨by simp; omega, fun y hy => ?_⟩
    rcases List.mem_append.mp hy with h | h
    · exact hm y h
    · rw [List.mem_singleton.mp h]
      have := pfRest_le F 32
      refine hex_small ?_
      rw [Int.natAbs_natCast]
      exact Nat.lt_of_le_of_lt this (Nat.lt_of_lt_of_le hF (by decide))
theorem sum_le_of : ∀ (l : List Str) (m : Nat), (∀ y ∈ l, y.length ≤ m) → (l.map (·.length)).sum ≤ l.length * m
  | [], m, _ => by simp
  | y :: l, m, h => by
    have h1 := sum_le_of l m fun z hz => h z (.tail _ hz)
    have h2 := h y (.head _)
    simp only [List.map_cons, List.sum_cons, List.length_cons, Nat.succ_mul]
    omega

-- pretty_flags
inductive VP where
  | flags | names | i | flag
deriving DecidableEq
def nmP : VP → Str
  | .flags => "flags"
  | .names => "names"
  | .i => "i"
  | .flag => "flag"
theorem nmP_inj : ∀ x y, nmP x = nmP y → x = y := by
  intro x y h
  cases x <;> cases y <;> first | rfl | (revert h; decide)

/-- the table of flags' names in the base -/
structure TabAt (prog : Program) (w : World) (h₀ : Heap) (T : Addr) : Prop where
  map : ∃ f, h₀.MapOf (intKind prog w) T f ∧ ∀ k, (tabG k = none → f k = none) ∧ ∀ d, tabG k = some d → ∃ t, f k = some (.str d t)
  cls : ∀ o, h₀.get? T = some o → o.cls ≠ .none ∧ o.dict = none
  ne : (T == sysModules) = false

theorem tr_pretty {prog : Program} {w : World} {h₀ : Heap} {os : OsState} {A : Around} {env : Env} {mg mb : Str → Option Value} (G : Glo h₀ mg mb) (hA : A.handled = none)
    (gr : mg "range" = none) (br : mb "range" = some (.type "range")) (gh : mg "hex" = none) (bh : mb "hex" = some (.builtin "hex")) {T : Addr} (gt : mg "COMPILER_FLAG_NAMES" = some (.ref T)) (tt : TabAt prog w h₀ T)
    (F : FEnv h₀ (stScope (topSt 3)) env) (n : Nat) (hn : n < 2 ^ 60) :
    Tr nmP prog w h₀ os A env true (stBody (topSt 3)) (argsσ [.flags] [.int n]) fun fd _ => fd = .ret (.str (pfS n)) := by
  obtain ⟨K, hS, hC⟩ := F
  obtain ⟨sc, L, gl, ce, qu, fu, co, fr, bu⟩ := env
  cases hS
  have kf : Slot' ⟨stScope (topSt 3), L, gl, ce, qu, fu, co, fr, bu⟩ "flags" L := .loc rfl
  have kn : Slot' ⟨stScope (topSt 3), L, gl, ce, qu, fu, co, fr, bu⟩ "names" L := .loc rfl
  have ki : Slot' ⟨stScope (topSt 3), L, gl, ce, qu, fu, co, fr, bu⟩ "i" L := .loc rfl
  have kg : Slot' ⟨stScope (topSt 3), L, gl, ce, qu, fu, co, fr, bu⟩ "flag" L := .loc rfl
  have kk := K.kind
  show Tr nmP prog w h₀ os A _ true [_, _, _] _ _
  refine tr_cons (trs_asgO (x := VP.names) K nmP_inj kn evo_nil ?_)
  refine tr_seq (trs_for (x := VP.i) (Post := fun fd σ' => fd = .next ∧ σ' VP.names = some (.ol ((pfOut n).map D.str))) K nmP_inj ki
    (src_rangeP hA (ev_range G K.toEnvG rfl gr br ev_int) (by decide) (by decide) (by decide) (by decide) (n := 32) (by decide) (by decide))
    (fun i σ => SubL σ [(VP.flags, .im (.int (pfRest n i : Nat))), (VP.names, .ol ((pfNames n i).map D.str))] ∧ (n = 0 ∨ pfRest n i ≠ 0)) ⟨⟨by rw [pfRest_zero]; rfl, rfl, trivial⟩, by rw [pfRest_zero]; omega⟩ ?_ ?_) ?_
  · rintro i d σ hd ⟨⟨h1, h2, -⟩, h3⟩
    obtain ⟨hi, rfl⟩ := upFrom_get hd
    rw [Int.zero_add]
    have hi : i < 32 := hi
    have hle := pfRest_le n i
    have e2 : (2 : Int) ^ i = ((2 ^ i : Nat) : Int) := by simp
    have hp : (2 : Nat) ^ i < 2 ^ 32 := Nat.pow_lt_pow_right (by decide) hi
    refine tr_mk (l := [(VP.flags, .im (.int (pfRest n i : Nat))), (VP.names, .ol ((pfNames n i).map D.str)), (VP.i, .im (.int i))]) ?_ ⟨h1, h2, rfl, trivial⟩
    clear h1 h2 hd σ
    show Tr nmP prog w h₀ os A _ true [_, _] _ _
    refine tr_cons (trs_asg (x := VP.flag) K nmP_inj kg (ev_opi ev_int (ev_name kk VP.i rfl) (op_shl (n := i) (by omega))) ?_)
    show Tr nmP prog w h₀ os A _ true [_] _ _
    refine tr_cons (trs_if (tst_int (ev_opi (ev_name kk VP.flags rfl) (ev_name kk VP.flag rfl) op_and)) (fun hb => ?_) (fun hb => ?_))
    · have hbit : n.testBit i = true := by
        rw [e2, pf_and] at hb
        cases hc : n.testBit i
        · rw [hc] at hb; simp at hb
        · rfl
      have hrest := pfRest_succ n i
      rw [hbit, if_pos rfl] at hrest
      have hn0 : n ≠ 0 := fun h => by subst h; simp at hbit
      show Tr nmP prog w h₀ os A _ true [_, _, _] _ _
      have hi2 : ((2 : Int) ^ i).natAbs < 18446744073709551616 := by rw [e2, Int.natAbs_natCast]; exact Nat.lt_trans hp (by decide)
      refine tr_cons (trs_append K (x := VP.names) rfl (ev_get2 G K.toEnvG tt.map tt.cls tt.ne rfl gt (by decide) (ev_name kk VP.flag rfl) (ev_hex G K.toEnvG rfl gh bh (ev_name kk VP.flag rfl) (hex_fits hi2))) ?_ ?_)
      · rw [List.length_map]
        have := pfNames_len n i
        omega
      show Tr nmP prog w h₀ os A _ true [_, _] _ _
      have hx : Builtin.bitXor (pfRest n i : Nat) ((2 : Int) ^ i) = (pfRest n (i + 1) : Nat) := by rw [e2]; exact pf_xor n i hbit
      refine tr_cons (trs_aug (x := VP.flags) (a := (pfRest n i : Nat)) (b := (2 : Int) ^ i) (c := (pfRest n (i + 1) : Nat)) K nmP_inj kf rfl (ev_name kk VP.flag rfl) (fun s t u => by rw [← hx]; with_reducible exact ixor_int ⟨kp_tok s _, _, rfl⟩) ?_)
      show Tr nmP prog w h₀ os A _ true [_] _ _
      have hnm : pfNames n (i + 1) = pfNames n i ++ [(tabG ((2 : Int) ^ i)).getD (baseText "0x" 16 ((2 : Int) ^ i))] := by
        rw [pfNames_succ, hbit, if_pos rfl, e2]; rfl
      refine tr_cons (trs_if (tst_not (tst_int (ev_name kk VP.flags rfl))) (fun hz => ?_) (fun hz => ?_))
      · have hz0 : pfRest n (i + 1) = 0 := by simpa using hz
        refine tr_cons (trs_brk ?_)
        refine ⟨rfl, ?_⟩
        have hq : n / 2 ^ (i + 1) = 0 := by
          unfold pfRest at hz0
          rcases Nat.mul_eq_zero.mp hz0 with h | h
          · exact h
          · exact absurd h (Nat.ne_of_gt (Nat.two_pow_pos _))
        have hq32 : n / 2 ^ 32 = 0 := by
          obtain ⟨k, hk⟩ : ∃ k, 32 = i + 1 + k := ⟨31 - i, by omega⟩
          rw [hk, Nat.pow_add, ← Nat.div_div_eq_div_mul, hq, Nat.zero_div]
        have : pfOut n = pfNames n (i + 1) := by
          unfold pfOut
          rw [if_pos ⟨hq32, hn0⟩, pf_high (by omega) hq]
        rw [this, hnm]
        simp [upd]
      · have hz0 : pfRest n (i + 1) ≠ 0 := by simpa using hz
        refine tr_nil (tr_nil (tr_nil ⟨⟨rfl, ?_, trivial⟩, .inr hz0⟩))
        rw [hnm]
        simp [upd]
    · have hbit : n.testBit i = false := by
        rw [e2, pf_and] at hb
        cases hc : n.testBit i
        · rfl
        · rw [hc, if_pos rfl] at hb
          have h0 := Nat.two_pow_pos i
          have h1 : ((2 ^ i : Nat) : Int) = 0 := by simpa only [bne_eq_false_iff_eq] using hb
          exact absurd (Int.natCast_eq_zero.mp h1) (Nat.ne_of_gt h0)
      have hrest := pfRest_succ n i
      rw [hbit] at hrest
      simp at hrest
      refine tr_nil (tr_nil ⟨⟨?_, ?_, trivial⟩, ?_⟩)
      · rw [← hrest]; rfl
      · rw [pfNames_succ, hbit]; simp; rfl
      · rw [← hrest]; exact h3
  · rintro σ ⟨⟨h1, h2, -⟩, h3⟩
    replace h3 : n = 0 ∨ pfRest n 32 ≠ 0 := h3
    refine tr_mk (l := [(VP.flags, .im (.int (pfRest n 32 : Nat))), (VP.names, .ol ((pfNames n 32).map D.str))]) ?_ ⟨h1, h2, trivial⟩
    clear h1 h2 σ
    show Tr nmP prog w h₀ os A _ true [_] _ _
    have hle := pfRest_le n 32
    refine tr_cons (trs_append K (x := VP.names) rfl (ev_hex G K.toEnvG rfl gh bh (ev_name kk VP.flags rfl) (hex_fits (by rw [Int.natAbs_natCast]; exact Nat.lt_of_le_of_lt hle (Nat.lt_of_lt_of_le hn (by decide))))) ?_ ?_)
    · rw [List.length_map]
      have := pfNames_len n 32
      omega
    · refine tr_nil ⟨rfl, ?_⟩
      have : pfOut n = pfNames n 32 ++ [baseText "0x" 16 (pfRest n 32 : Nat)] := by
        unfold pfOut
        rw [if_neg]
        rintro ⟨h4, h5⟩
        rcases h3 with h3 | h3
        · exact h5 h3
        · exact h3 (by unfold pfRest; rw [h4, Nat.zero_mul])
      rw [this]
      simp [upd]
  · rintro fd σ' ⟨rfl, h⟩
    refine tr_cons (trs_ret (d := .str (pfS n)) (ev_join (evl_name (nm := nmP) kk VP.names h) ?_ ?_) rfl)
    · decide
    · have h1 := pf_len hn
      have h2 := sum_le_of _ _ h1.2
      have h3 : (pfOut n).length * 67 ≤ 33 * 67 := Nat.mul_le_mul_right _ h1.1
      omega
end Mine

-- L3
namespace Mine
open PySem PySem.Calls PyProof.Rows PySem.W

-- _law_name
inductive VN where
  | place
deriving DecidableEq
def nmN : VN → Str
  | .place => "place"
theorem nmN_inj : ∀ x y, nmN x = nmN y → x = y := by
  intro x y h
  cases x <;> cases y <;> rfl

def tabN : List Str := ["OPTIMIZED", "NEWLOCALS", "VARARGS", "VARKEYWORDS", "NESTED", "GENERATOR", "NOFREE", "COROUTINE", "ITERABLE_COROUTINE", "ASYNC_GENERATOR"]
theorem name_low : ∀ p, p < 10 → tabN[p]? = some (nameS p) := by decide
theorem name_high : ∀ p, p < 32 → 10 ≤ p → ∃ c, (Str.ofString "1248").cps[p % 4]? = some c ∧ Str.ofString "0x" ++ ⟨#[c]⟩ ++ repS "0" ((p / 4 : Nat) : Int) = nameS p := by
  have h : ∀ p, p < 32 → 10 ≤ p → (match (Str.ofString "1248").cps[p % 4]? with | some c => Str.ofString "0x" ++ ⟨#[c]⟩ ++ repS "0" ((p / 4 : Nat) : Int) == nameS p | none => false) = true := by decide +kernel
  intro p h1 h2
  have := h p h1 h2
  cases hc : (Str.ofString "1248").cps[p % 4]? with
  | none => rw [hc] at this; cases this
  | some c => rw [hc] at this; exact ⟨c, rfl, by simpa using this⟩

theorem tr_name {prog : Program} {w : World} {h₀ : Heap} {os : OsState} {A : Around} {env : Env} (hA : A.handled = none) (F : FEnv h₀ (stScope (topSt 10)) env) (p : Nat) (hp : p < 32) :
    Tr nmN prog w h₀ os A env true (stBody (topSt 10)) (argsσ [.place] [.int p]) fun fd _ => fd = .ret (.str (nameS p)) := by
  obtain ⟨K, hS, hC⟩ := F
  obtain ⟨sc, L, gl, ce, qu, fu, co, fr, bu⟩ := env
  cases hS
  have kk := K.kind
  show Tr nmN prog w h₀ os A _ true [_, _] _ _
  have en : ∀ {pos : Pos}, Ev nmN prog w h₀ A ⟨stScope (topSt 10), L, gl, ce, qu, fu, co, fr, bu⟩ (argsσ [.place] [.int p]) (.Name "place" pos) (.int p) := fun {pos} => ev_name kk VN.place rfl
  refine tr_seq (trs_if (tst_cmp en ev_int cmp_lt rfl) (Post := fun fd σ' => (fd = .ret (.str (nameS p))) ∨ (fd = .next ∧ 10 ≤ p ∧ σ' = argsσ [.place] [.int p])) (fun hb => ?_) (fun hb => ?_)) ?_
  · have hp10 : p < 10 := by have := of_decide_eq_true hb; omega
    refine tr_cons (trs_ret (d := .str (nameS p)) (ev_item (ds := tabN.map D.str) (k := p) (evl_of (ev_list (ds := tabN.map D.str) ?_ (by decide))) en (by omega) (by omega) ?_) (.inl rfl))
    · exact evs_cons ev_str (evs_cons ev_str (evs_cons ev_str (evs_cons ev_str (evs_cons ev_str (evs_cons ev_str (evs_cons ev_str (evs_cons ev_str (evs_cons ev_str (evs_cons ev_str evs_nil)))))))))
    · rw [Int.toNat_natCast, List.getElem?_map, name_low p hp10]; rfl
  · have hp10 : 10 ≤ p := by have := of_decide_eq_false hb; omega
    exact tr_nil (.inr ⟨rfl, hp10, rfl⟩)
  · rintro fd σ' (rfl | ⟨rfl, hp10, rfl⟩)
    · rfl
    obtain ⟨c, hc, e⟩ := name_high p hp hp10
    have m4 : Int.fmod (p : Int) 4 = ((p % 4 : Nat) : Int) := by rw [Int.fmod_eq_emod_of_nonneg _ (by decide)]; rfl
    have d4 : Int.fdiv (p : Int) 4 = ((p / 4 : Nat) : Int) := by rw [Int.fdiv_eq_ediv_of_nonneg _ (by decide)]; rfl
    refine tr_cons (trs_ret (d := .str (nameS p)) (e ▸ ev_sadd (ev_sadd ev_str (ev_sitem ev_str (m4 ▸ ev_opi en ev_int (op_mod hA (by decide))) (by omega) (by omega) (by rw [Int.toNat_natCast]; exact hc)) ?_) (ev_smul ev_str (d4 ▸ ev_opi en ev_int (op_fdiv hA (by decide) (by decide))) (by omega) (by omega) (by decide)) ?_) rfl)
    · show 2 + 1 ≤ 100000; decide
    · rw [repS_len]
      have h1 : (Str.ofString "0").length = 1 := by decide
      rw [h1, Str.length_append]
      have h2 : (Str.ofString "0x").length = 2 := by decide
      rw [h2]
      show 2 + 1 + _ ≤ _
      omega
end Mine

-- L4
namespace Mine
open PySem PySem.Calls PyProof.Rows PySem.W

inductive VI where
  | self | tabsize | count | trailing | il | i
deriving DecidableEq
def nmI : VI → Str
  | .self => "self"
  | .tabsize => "tabsize"
  | .count => "count"
  | .trailing => "trailing"
  | .il => "il"
  | .i => "i"
theorem nmI_inj : ∀ x y, nmI x = nmI y → x = y := by
  intro x y h
  cases x <;> cases y <;> first | rfl | (revert h; decide)

def ilSum (t : Nat) (cn : List Int) : Nat → Int
  | 0 => 0
  | m + 1 => ilSum t cn m + ((t + m) / t : Nat) * cn.getD (t + m) 0
theorem bits_small {a : Int} (h : a.natAbs < 2 ^ 60) : Builtin.Int.intBits a ≤ 64 := by
  unfold Builtin.Int.intBits
  split
  · omega
  · rename_i h0
    have h1 : a.natAbs ≠ 0 := by simpa using h0
    have := (Nat.log2_lt h1).mpr h
    omega

theorem tr_indent {prog : Program} {w : World} {h₀ : Heap} {os : OsState} {A : Around} {env : Env} {mg mb : Str → Option Value} (G : Glo h₀ mg mb) (hA : A.handled = none)
    (gr : mg "range" = none) (br : mb "range" = some (.type "range")) (gl' : mg "len" = none) (bl : mb "len" = some (.builtin "len")) {KK : Frag} {C fL : Addr} (k : KOf KK h₀) (c : WsCls KK C fL)
    (F : FEnv h₀ (stScope (metSt 3)) env) (t : Nat) (ht : 0 < t) (ht' : t < 2 ^ 29) (cn : List Int) (tr nt : Int) (hl : cn.length ≤ 100) (hb : ∀ x ∈ cn, x.natAbs ≤ 100) :
    Tr nmI prog w h₀ os A env true (stBody (metSt 3)) (argsσ [.self, .tabsize] [.ws C cn tr nt, .int t]) fun fd _ => fd = .ret (.int (tr + t * (ilSum t cn (cn.length - t) + nt))) := by
  obtain ⟨K, hS, hC⟩ := F
  obtain ⟨sc, L, gl, ce, qu, fu, co, fr, bu⟩ := env
  cases hS
  have k1 : Slot' ⟨stScope (metSt 3), L, gl, ce, qu, fu, co, fr, bu⟩ "count" L := .loc rfl
  have k2 : Slot' ⟨stScope (metSt 3), L, gl, ce, qu, fu, co, fr, bu⟩ "trailing" L := .loc rfl
  have k3 : Slot' ⟨stScope (metSt 3), L, gl, ce, qu, fu, co, fr, bu⟩ "il" L := .loc rfl
  have k4 : Slot' ⟨stScope (metSt 3), L, gl, ce, qu, fu, co, fr, bu⟩ "i" L := .loc rfl
  have kk := K.kind
  show Tr nmI prog w h₀ os A _ true [_, _, _, _] _ _
  refine tr_cons (trs_unpack (xs := [(VI.count, _), (VI.trailing, _)]) K nmI_inj hA (by
    intro x hx
    rcases List.mem_cons.mp hx with h | h
    · subst h; exact ⟨L, k1⟩
    · rw [List.mem_singleton.mp h]; exact ⟨L, k2⟩) (ev_norm k c (ev_name kk VI.self rfl)) rfl rfl rfl rfl rfl rfl ?_)
  show Tr nmI prog w h₀ os A _ true [_, _, _] _ _
  refine tr_cons (trs_asg (x := VI.il) K nmI_inj k3 ev_int ?_)
  refine tr_mk (l := [(VI.self, .im (.ws C cn tr nt)), (VI.tabsize, .im (.int t)), (VI.count, .im (.tup (cn.map D.int))), (VI.trailing, .im (.int tr)), (VI.il, .im (.int 0))]) ?_ ⟨rfl, rfl, rfl, rfl, rfl, trivial⟩
  show Tr nmI prog w h₀ os A _ true [_, _] _ _
  refine tr_seq (trs_for (x := VI.i) (Post := fun fd σ' => fd = .next ∧ SubL σ' [(VI.self, .im (.ws C cn tr nt)), (VI.tabsize, .im (.int t)), (VI.trailing, .im (.int tr)), (VI.il, .im (.int (ilSum t cn (cn.length - t))))]) K nmI_inj k4
    (src_rangeP hA (ev_range2 G K.toEnvG rfl gr br (evs_cons (ev_name kk VI.tabsize rfl) (evs_cons (ev_lent (ds := cn.map D.int) G K.toEnvG rfl gl' bl (ev_name kk VI.count rfl) (by rw [List.length_map]; omega)) evs_nil)))
      (by omega) (by omega) (by rw [List.length_map]; omega) (by rw [List.length_map]; omega) (n := cn.length - t) (by rw [List.length_map]; split <;> omega) (by omega))
    (fun m σ => SubL σ [(VI.self, .im (.ws C cn tr nt)), (VI.tabsize, .im (.int t)), (VI.count, .im (.tup (cn.map D.int))), (VI.trailing, .im (.int tr)), (VI.il, .im (.int (ilSum t cn m)))]) ⟨rfl, rfl, rfl, rfl, rfl, trivial⟩ ?_ ?_) ?_
  · rintro m d σ hd ⟨h1, h2, h3, h4, h5, -⟩
    obtain ⟨hm, rfl⟩ := upFrom_get hd
    refine tr_mk (l := [(VI.self, .im (.ws C cn tr nt)), (VI.tabsize, .im (.int t)), (VI.count, .im (.tup (cn.map D.int))), (VI.trailing, .im (.int tr)), (VI.il, .im (.int (ilSum t cn m))), (VI.i, .im (.int (t + m)))]) ?_ ⟨h1, h2, h3, h4, h5, rfl, trivial⟩
    clear h1 h2 h3 h4 h5 hd σ
    show Tr nmI prog w h₀ os A _ true [_] _ _
    have hlt : t + m < cn.length := by omega
    have e0 : ((t : Int) + m).toNat = t + m := by omega
    have hget : cn[t + m]? = some (cn.getD (t + m) 0) := by
      rw [List.getElem?_eq_getElem hlt, List.getD_eq_getElem?_getD, List.getElem?_eq_getElem hlt]; rfl
    have hsm := hb _ (List.mem_of_getElem? hget)
    have ed : Int.fdiv ((t : Int) + m) t = ((t + m) / t : Nat) := by rw [Int.fdiv_eq_ediv_of_nonneg _ (by omega)]; norm_cast
    have hdle : (t + m) / t ≤ t + m := Nat.div_le_self _ _
    refine tr_cons (trs_asg (x := VI.il) (d := .int (ilSum t cn (m + 1))) K nmI_inj k3 (ev_opi (ev_name kk VI.il rfl) (ev_opi (x := ((t + m) / t : Nat)) (ed ▸ ev_opi (ev_name kk VI.i rfl) (ev_name kk VI.tabsize rfl) (op_fdiv hA (by omega) (by omega))) (ev_titem (d := .int (cn.getD (t + m) 0)) (ev_name kk VI.count rfl) (ev_name kk VI.i rfl) (by omega) (by omega) (by rw [e0, List.getElem?_map, hget]; rfl)) (op_mul (IntMulOk.of_right (bits_small (by omega))))) op_add) ?_)
    exact tr_nil ⟨rfl, rfl, rfl, rfl, rfl, trivial⟩
  · rintro σ ⟨h1, h2, h3, h4, h5, -⟩
    have e : (upFrom (t : Int) (cn.length - t)).length = cn.length - t := upFrom_len _ _
    rw [e] at h5
    exact tr_nil ⟨rfl, h1, h2, h4, h5, trivial⟩
  · rintro fd σ' ⟨rfl, h1, h2, h4, h5, -⟩
    refine tr_cons (trs_ret (d := .int (tr + t * (ilSum t cn (cn.length - t) + nt))) (ev_opi (ev_name kk VI.trailing h4) (ev_opi (ev_name kk VI.tabsize h2) (ev_opi (ev_name kk VI.il h5) (ev_nt k c (ev_name kk VI.self h1)) op_add) (op_mul (IntMulOk.of_left (bits_small (by omega))))) op_add) rfl)
end Mine

-- L5
namespace Mine
open PySem PySem.Calls PyProof.Rows PySem.W

inductive VW where
  | self | ws | S | T | count | b | n | nt | ch
deriving DecidableEq
def nmW : VW → Str
  | .self => "self"
  | .ws => "ws"
  | .S => "S"
  | .T => "T"
  | .count => "count"
  | .b => "b"
  | .n => "n"
  | .nt => "nt"
  | .ch => "ch"
theorem nmW_inj : ∀ x y, nmW x = nmW y → x = y := by
  intro x y h
  cases x <;> cases y <;> first | rfl | (revert h; decide)

def wsRun : List Nat → List Int → Nat → Nat → Nat → List Int × Nat × Nat × Nat
  | [], cs, b, n, nt => (cs, b, n, nt)
  | c :: r, cs, b, n, nt => if c = 32 then wsRun r cs (b + 1) (n + 1) nt else if c = 9 then
      wsRun r ((cs ++ List.replicate (b + 1 - cs.length) 0).set b ((cs ++ List.replicate (b + 1 - cs.length) 0).getD b 0 + 1)) 0 (n + 1) (nt + 1) else (cs, b, n, nt)

def midBody : List Stmt := (stBody (metSt 1)).drop 1 |>.take 4

theorem tr_init {prog : Program} {w : World} {h₀ : Heap} {os : OsState} {A : Around} {env : Env} {mg mb : Str → Option Value} (G : Glo h₀ mg mb) (hA : A.handled = none)
    (gl' : mg "len" = none) (bl : mb "len" = some (.builtin "len")) {KK : Frag} {C a dx : Addr} {es : List DictEntry} {ne : Nat} (k : KOf KK h₀) (gw : mg "Whitespace" = some (.ref C))
    {mc : Value} (hr : readsIn KK C mc = true) {tS tT tX : Tok} (eS : findCls KK (.ref C) mc "S" = some (.val (.str " " tS))) (eT : findCls KK (.ref C) mc "T" = some (.val (.str "\t" tT)))
    (pg : plainGet KK C "raw" = true) (hd : hasDictIn KK C = true) (hf : findIn KK (.ref C) "raw" = some none) (x : Str) (er : getL "raw" es = some (some (.str x tX)))
    (F : FEnv h₀ (stScope (metSt 1)) env) (hx : x.length ≤ 200) (out : List Int × Nat × Nat × Nat) (ho : wsRun x.cps.toList [] 0 0 0 = out) :
    Tr nmW prog w h₀ os A env true midBody (mkσ [(VW.self, .im (.inst a dx C es ne)), (VW.ws, .im (.str x))]) fun fd σ => fd = .next ∧ out.1.length ≤ 300 ∧ SubL σ [(VW.self, .im (.inst a dx C es ne)), (VW.count, .ol (out.1.map D.int)), (VW.b, .im (.int out.2.1)), (VW.n, .im (.int out.2.2.1)), (VW.nt, .im (.int out.2.2.2))] := by
  obtain ⟨K, hS, hC⟩ := F
  obtain ⟨sc, L, gl, ce, qu, fu, co, fr, bu⟩ := env
  cases hS
  have k1 : Slot' ⟨stScope (metSt 1), L, gl, ce, qu, fu, co, fr, bu⟩ "S" L := .loc rfl
  have k2 : Slot' ⟨stScope (metSt 1), L, gl, ce, qu, fu, co, fr, bu⟩ "T" L := .loc rfl
  have k3 : Slot' ⟨stScope (metSt 1), L, gl, ce, qu, fu, co, fr, bu⟩ "count" L := .loc rfl
  have k4 : Slot' ⟨stScope (metSt 1), L, gl, ce, qu, fu, co, fr, bu⟩ "b" L := .loc rfl
  have k5 : Slot' ⟨stScope (metSt 1), L, gl, ce, qu, fu, co, fr, bu⟩ "n" L := .loc rfl
  have k6 : Slot' ⟨stScope (metSt 1), L, gl, ce, qu, fu, co, fr, bu⟩ "nt" L := .loc rfl
  have k7 : Slot' ⟨stScope (metSt 1), L, gl, ce, qu, fu, co, fr, bu⟩ "ch" L := .loc rfl
  have kk := K.kind
  show Tr nmW prog w h₀ os A _ true [_, _, _, _] _ _
  refine tr_cons (trs_swap2 (x := VW.S) (y := VW.T) K nmW_inj hA k1 k2 (evs_cons (ev_clsattr k G K.toEnvG rfl gw (by decide) hr eS) (evs_cons (ev_clsattr k G K.toEnvG rfl gw (by decide) hr eT) evs_nil)) rfl rfl ?_)
  show Tr nmW prog w h₀ os A _ true [_, _, _] _ _
  refine tr_cons (trs_asgO (x := VW.count) K nmW_inj k3 evo_nil ?_)
  show Tr nmW prog w h₀ os A _ true [_, _] _ _
  refine tr_cons (trs_assign3 (x := VW.b) (y := VW.n) (z := VW.nt) K nmW_inj k4 k5 k6 ev_int ?_)
  show Tr nmW prog w h₀ os A _ true [_] _ _
  refine tr_seq (trs_for (x := VW.ch) (Post := fun fd σ => fd = .next ∧ out.1.length ≤ 300 ∧ SubL σ [(VW.self, .im (.inst a dx C es ne)), (VW.count, .ol (out.1.map D.int)), (VW.b, .im (.int out.2.1)), (VW.n, .im (.int out.2.2.1)), (VW.nt, .im (.int out.2.2.2))]) K nmW_inj k7
    (src_str hA (ev_instattr k pg hd hf (ev_name kk VW.self rfl) er) (by omega))
    (fun i σ => ∃ cs b n nt, wsRun (x.cps.toList.drop i) cs b n nt = out ∧ b ≤ i ∧ n ≤ i ∧ nt ≤ i ∧ cs.length ≤ i + 1 ∧ SubL σ [(VW.self, .im (.inst a dx C es ne)), (VW.S, .im (.str " ")), (VW.T, .im (.str "\t")), (VW.count, .ol (cs.map D.int)), (VW.b, .im (.int b)), (VW.n, .im (.int n)), (VW.nt, .im (.int nt))]) ⟨[], 0, 0, 0, ho, by omega, by omega, by omega, by simp, rfl, rfl, rfl, rfl, rfl, rfl, rfl, trivial⟩ ?_ ?_) ?_
  · rintro i d σ hd' ⟨cs, b, n, nt, hrun, hb, hn, hnt, hcs, h1, h2, h3, h4, h5, h6, h7, -⟩
    obtain ⟨c, hc, rfl⟩ := signsOf_get hd'
    have hlt : i < x.cps.size := (Array.getElem?_eq_some_iff.mp hc).1
    have hlt' : i < x.length := hlt
    have hdrop : x.cps.toList.drop i = c :: x.cps.toList.drop (i + 1) := by
      have : x.cps.toList[i]? = some c := by simpa using hc
      obtain ⟨h8, h9⟩ := List.getElem?_eq_some_iff.mp this
      rw [List.drop_eq_getElem_cons h8, h9]
    rw [hdrop] at hrun
    refine tr_mk (l := [(VW.self, .im (.inst a dx C es ne)), (VW.S, .im (.str " ")), (VW.T, .im (.str "\t")), (VW.count, .ol (cs.map D.int)), (VW.b, .im (.int b)), (VW.n, .im (.int n)), (VW.nt, .im (.int nt)), (VW.ch, .im (.str ⟨#[c]⟩))]) ?_ ⟨h1, h2, h3, h4, h5, h6, h7, rfl, trivial⟩
    clear h1 h2 h3 h4 h5 h6 h7 hd' σ
    show Tr nmW prog w h₀ os A _ true [_] _ _
    have q1 : ((⟨#[c]⟩ : Str).cps.toList == (Str.ofString " ").cps.toList) = decide (c = 32) := by
      show ([c] == [32]) = _
      simp
      rfl
    have q2 : ((⟨#[c]⟩ : Str).cps.toList == (Str.ofString "\t").cps.toList) = decide (c = 9) := by
      show ([c] == [9]) = _
      simp
      rfl
    refine tr_cons (trs_if (tst_cmp (ev_name kk VW.ch rfl) (ev_name kk VW.S rfl) cmp_eqs rfl) (fun h => ?_) (fun h => ?_))
    · rw [q1] at h
      have hc32 : c = 32 := of_decide_eq_true h
      show Tr nmW prog w h₀ os A _ true [_, _] _ _
      refine tr_cons (trs_asg (x := VW.n) K nmW_inj k5 (ev_opi (ev_name kk VW.n rfl) ev_int op_add) ?_)
      show Tr nmW prog w h₀ os A _ true [_] _ _
      refine tr_cons (trs_asg (x := VW.b) K nmW_inj k4 (ev_opi (ev_name kk VW.b rfl) ev_int op_add) (tr_nil (tr_nil ?_)))
      refine ⟨cs, b + 1, n + 1, nt, ?_, by omega, by omega, by omega, by omega, rfl, rfl, rfl, rfl, rfl, rfl, rfl, trivial⟩
      rw [← hrun, wsRun, if_pos hc32]
    · rw [q1] at h
      have hc32 : ¬ c = 32 := of_decide_eq_false h
      show Tr nmW prog w h₀ os A _ true [_] _ _
      refine tr_cons (trs_if (tst_cmp (ev_name kk VW.ch rfl) (ev_name kk VW.T rfl) cmp_eqs rfl) (fun h => ?_) (fun h => ?_))
      · rw [q2] at h
        have hc9 : c = 9 := of_decide_eq_true h
        rw [wsRun, if_neg hc32, if_pos hc9] at hrun
        show Tr nmW prog w h₀ os A _ true [_, _, _, _, _] _ _
        refine tr_cons (trs_asg (x := VW.n) K nmW_inj k5 (ev_opi (ev_name kk VW.n rfl) ev_int op_add) ?_)
        show Tr nmW prog w h₀ os A _ true [_, _, _, _] _ _
        refine tr_cons (trs_asg (x := VW.nt) K nmW_inj k6 (ev_opi (ev_name kk VW.nt rfl) ev_int op_add) ?_)
        show Tr nmW prog w h₀ os A _ true [_, _, _] _ _
        generalize hcs1 : cs ++ List.replicate (b + 1 - cs.length) 0 = cs1 at hrun
        refine tr_seq (P := fun fd σ => fd = .next ∧ SubL σ [(VW.self, .im (.inst a dx C es ne)), (VW.S, .im (.str " ")), (VW.T, .im (.str "\t")), (VW.count, .ol (cs1.map D.int)), (VW.b, .im (.int b)), (VW.n, .im (.int (n + 1))), (VW.nt, .im (.int (nt + 1)))])
          (trs_if (tst_cmp (ev_name kk VW.b rfl) (ev_len (ds := cs.map D.int) G K.toEnvG rfl gl' bl (evl_name kk VW.count rfl) (by rw [List.length_map]; omega)) cmp_ge rfl) (fun h => ?_) (fun h => ?_)) ?_
        · have hge : (cs.length : Int) ≤ b := by have := of_decide_eq_true h; rw [List.length_map] at this; exact this
          have elen : ((cs.map D.int).length : Int) = cs.length := by rw [List.length_map]
          have ecs : cs.map D.int ++ List.replicate ((b : Int) - ((cs.map D.int).length : Int) + 1).toNat (D.int 0) = cs1.map D.int := by
            rw [← hcs1, List.map_append, List.map_replicate, elen]
            congr 2
            omega
          show Tr nmW prog w h₀ os A _ true [_] _ _
          refine tr_cons (trs_asgO (x := VW.count) K nmW_inj k3 (evo_add (evl_name kk VW.count rfl) (evl_of (ev_mul1 ev_int (ev_opi (ev_opi (ev_name kk VW.b rfl) (ev_len (ds := cs.map D.int) G K.toEnvG rfl gl' bl (evl_name kk VW.count rfl) (by rw [List.length_map]; omega)) op_sub) ev_int op_add) ?_ ?_)) ?_) ?_)
          · rw [elen]; omega
          · rw [elen]; omega
          · rw [List.length_map, List.length_replicate]; omega
          · refine tr_nil ⟨rfl, rfl, rfl, rfl, ?_, rfl, rfl, rfl, trivial⟩
            rw [← ecs]; rfl
        · have hge : (b : Int) < cs.length := by have := of_decide_eq_false h; rw [List.length_map] at this; omega
          have e0 : b + 1 - cs.length = 0 := by omega
          rw [e0] at hcs1
          have : cs1 = cs := by rw [← hcs1]; simp
          subst this
          exact tr_nil ⟨rfl, rfl, rfl, rfl, rfl, rfl, rfl, rfl, trivial⟩
        · rintro fd σ' ⟨rfl, hs⟩
          have hl1 : b < cs1.length ∧ cs1.length ≤ i + 2 := by rw [← hcs1, List.length_append, List.length_replicate]; omega
          refine tr_mk (l := [(VW.self, .im (.inst a dx C es ne)), (VW.S, .im (.str " ")), (VW.T, .im (.str "\t")), (VW.count, .ol (cs1.map D.int)), (VW.b, .im (.int b)), (VW.n, .im (.int (n + 1))), (VW.nt, .im (.int (nt + 1)))]) ?_ hs
          clear hs σ'
          show Tr nmW prog w h₀ os A _ true [_, _] _ _
          have hget : (cs1.map D.int)[(b : Int).toNat]? = some (D.int (cs1.getD b 0)) := by
            rw [Int.toNat_natCast, List.getElem?_map, List.getElem?_eq_getElem hl1.1, List.getD_eq_getElem?_getD, List.getElem?_eq_getElem hl1.1]; rfl
          refine tr_cons (trs_setitem (x := VW.count) (d := .int (cs1.getD b 0 + 1)) K rfl (ev_opi (ev_item (d := .int (cs1.getD b 0)) (evl_name kk VW.count rfl) (ev_name kk VW.b rfl) (by omega) (by omega) hget) ev_int op_add) (ev_name kk VW.b rfl) (by omega) (by rw [List.length_map]; omega) (by rw [List.length_map]; omega) ?_)
          show Tr nmW prog w h₀ os A _ true [_] _ _
          refine tr_cons (trs_asg (x := VW.b) K nmW_inj k4 ev_int (tr_nil ?_))
          refine tr_nil (tr_nil ⟨cs1.set b (cs1.getD b 0 + 1), 0, n + 1, nt + 1, hrun, by omega, by omega, by omega, by rw [List.length_set]; omega, rfl, rfl, rfl, ?_, rfl, rfl, rfl, trivial⟩)
          rw [List.map_set]; rfl
      · rw [q2] at h
        have hc9 : ¬ c = 9 := of_decide_eq_false h
        rw [wsRun, if_neg hc32, if_neg hc9] at hrun
        subst hrun
        show Tr nmW prog w h₀ os A _ true [_] _ _
        refine tr_cons (trs_brk ⟨rfl, ?_, rfl, rfl, rfl, rfl, rfl, trivial⟩)
        show cs.length ≤ 300
        omega
  · rintro σ ⟨cs, b, n, nt, hrun, hb, hn, hnt, hcs, h1, h2, h3, h4, h5, h6, h7, -⟩
    have hl : (signsOf x).length = x.length := by simp [signsOf]; rfl
    rw [hl] at hrun hcs
    have : x.cps.toList.drop x.length = [] := List.drop_eq_nil_of_le (by simp; exact Nat.le_refl _)
    rw [this, wsRun] at hrun
    subst hrun
    exact tr_nil ⟨rfl, by show cs.length ≤ 300; omega, h1, h4, h5, h6, h7, trivial⟩
  · rintro fd σ' ⟨rfl, h⟩
    exact tr_nil ⟨rfl, h⟩
end Mine

-- L6
namespace Mine
open PySem PySem.Calls PyProof.Rows PySem.W

/-- Whitespace as it is made -/
structure WsInit (K : Frag) (C : Addr) : Prop where
  set : SetCls K C
  get : plainGet K C "raw" = true
  raw : findIn K (.ref C) "raw" = some none
  reads : ∃ mc tS tT, readsIn K C mc = true ∧ findCls K (.ref C) mc "S" = some (.val (.str " " tS)) ∧ findCls K (.ref C) mc "T" = some (.val (.str "\t" tT))
  t0 : takerIn K C "raw" = some none
  t1 : takerIn K C "n" = some none
  t2 : takerIn K C "nt" = some none
  t3 : takerIn K C "norm" = some none
  t4 : takerIn K C "is_simple" = some none

structure KeepD (dx : Addr) (M : Addr → Prop) (s s' : Shared) : Prop where
  sm : ∃ h tk, s' = { s with heap := h, toks := tk }
  keep : ∀ b o, b ≠ dx → ¬ M b → s.heap.get? b = some o → s'.heap.get? b = some o
theorem KeepD.trans {dx : Addr} {M : Addr → Prop} {s s' s'' : Shared} (x : KeepD dx M s s') (y : KeepD dx M s' s'') : KeepD dx M s s'' := by
  obtain ⟨⟨h, tk, e⟩, k⟩ := x
  obtain ⟨⟨h', tk', e'⟩, k'⟩ := y
  refine ⟨⟨h', tk', by subst e; exact e'⟩, fun b o h1 h2 h3 => k' b o h1 h2 (k b o h1 h2 h3)⟩
theorem KeepD.of {dx : Addr} {M : Addr → Prop} {s s₁ : Shared} {h' : Heap} {t : Nat} (k : Keeps s s₁) (hs : Heap.SameBut dx s₁.heap h') : KeepD dx M s { s₁ with heap := h', toks := t } := by
  obtain ⟨h1, tk, e, kk⟩ := k
  subst e
  exact ⟨⟨h', t, rfl⟩, fun b o h1 _ e => (hs.2 b h1).trans (kk b o e)⟩

theorem wp_init {prog : Program} {w : World} {h₀ : Heap} {os : OsState} {A : Around} {env : Env} {mg mb : Str → Option Value} (G : Glo h₀ mg mb) (hA : A.handled = none)
    (gl' : mg "len" = none) (bl : mb "len" = some (.builtin "len")) (gt : mg "tuple" = none) (bt : mb "tuple" = some (.type "tuple")) {KK : Frag} {C a dx : Addr} (k : KOf KK h₀) (gw : mg "Whitespace" = some (.ref C)) (c : WsInit KK C)
    (F : FEnv h₀ (stScope (metSt 1)) env) (x : Str) (hx : x.length ≤ 200) {cn : List Int} {b n nt : Nat} (ho : wsRun x.cps.toList [] 0 0 0 = (cn, b, n, nt)) {s : Shared}
    (S : StO nmW prog w h₀ os env (fun _ => none) (mkσ [(VW.self, .im (.inst a dx C [] 0)), (VW.ws, .im (.str x))]) s) (h0 : h₀.get? dx = none) {Q : Flow → Shared → Prop} {E : Value → Shared → Prop}
    (hQ : ∀ s' es m tN tC t1 t2 vs, KeepD dx (Mu env (fun _ : VW => none)) s s' → s'.heap.get? dx = some (dictOf es m) → getL "norm" es = some (some (.ref tN)) → getL "nt" es = some (some (.int nt t1)) → getL "indent_level" es = some none →
      s.heap.get? tN = none → IsTup s'.heap tN #[.ref tC, .int b t2] → s.heap.get? tC = none → IsTup s'.heap tC (List.toArray vs) → IntsAre vs cn → Q .next s') :
    wpAny (model prog w) A (execs (stBody (metSt 1)) env) Q E s := by
  have F' := F
  obtain ⟨K, hS, hC⟩ := F
  obtain ⟨sc, L, gl, ce, qu, fu, co, fr, bu⟩ := env
  cases hS
  have kk := K.kind
  have KE := K.toEnvG
  show wpAny _ _ (execs (_ :: (midBody ++ [_, _, _, _])) _) _ _ _
  -- self.raw = ws
  refine wpAny_execs_cons (wp_attrset (nm := nmW) (x := VW.self) (P := fun g v => ∃ t, v = .str x t) k c.set KE S rfl ?_ h0 ?_ c.t0 rfl (fun t v => by show 1 ≤ 1000; decide) ?_)
  · intro y b hy hne
    cases y <;> first | exact absurd rfl hne | (cases hy; trivial) | cases hy
  · refine ev_mono ((ev_name (nm := nmW) kk VW.ws (d := .str x) rfl).run s _ S.stt) ?_
    rintro v s' ⟨k', r⟩
    exact ⟨k', rd_str.mp r⟩
  rintro v s₁ h₁ t₁ k₁ ⟨tX, rfl⟩ hs₁ S₁
  have hC' : ce = [] := hC
  have D₁ : KeepD dx (Mu ⟨stScope (metSt 1), L, gl, ce, qu, fu, co, fr, bu⟩ (fun _ : VW => none)) s { s₁ with heap := h₁, toks := t₁ } := .of k₁ hs₁
  obtain ⟨mc, tS, tT, hrd, hS', hT'⟩ := c.reads
  have T1 := tr_init (prog := prog) (w := w) (os := os) (A := A) G hA gl' bl k gw hrd hS' hT' c.get c.set.dict c.raw x (a := a) (dx := dx) (ne := putN "raw" [] 0) (es := putL "raw" (PyData.keyHash w.params "raw") (.str "raw" (s₁.toks + 1)) (.str x tX) []) rfl F' hx _ ho
  have T2 := (tr_sub T1 (σ := upd (mkσ [(VW.self, .im (.inst a dx C [] 0)), (VW.ws, .im (.str x))]) VW.self (some (.im (.inst a dx C (putL "raw" (PyData.keyHash w.params "raw") (.str "raw" (s₁.toks + 1)) (.str x tX) []) (putN "raw" [] 0))))) (by
    intro y b hy
    cases y <;> first | exact hy | cases hy)).run _ _ S₁
  show wpAny _ _ (execs (midBody ++ [_, _, _, _]) _) _ _ _
  refine wp_execs_append (wf (ev_mono T2 ?_))
  rintro f s₂ ⟨fd, ow₂, σ₂, S₂, t₂, hf, rfl, hlen, hsub⟩
  cases hf
  have D₂ : KeepD dx (Mu ⟨stScope (metSt 1), L, gl, ce, qu, fu, co, fr, bu⟩ (fun _ : VW => none)) s s₂ := D₁.trans ⟨t₂.same rfl, fun b o _ h e => t₂.keep b o h e (.inl rfl)⟩
  have S₂' := st_sub S₂ (subL_mk hsub)
  have fl : ∀ y (bb : B), mkσ [(VW.self, B.im (.inst a dx C (putL "raw" (PyData.keyHash w.params "raw") (.str "raw" (s₁.toks + 1)) (.str x tX) []) (putN "raw" [] 0))), (VW.count, .ol (cn.map D.int)), (VW.b, .im (.int b)), (VW.n, .im (.int n)), (VW.nt, .im (.int nt))] y = some bb → y ≠ VW.self → FlatB bb := by
    intro y bb hy hne
    cases y
    case self => exact absurd rfl hne
    case count => cases hy; intro d hd; obtain ⟨_, _, rfl⟩ := List.mem_map.mp hd; trivial
    all_goals first | (cases hy; trivial) | cases hy
  have flu : ∀ {σ' : VW → Option B} {v : Option B}, (∀ y bb, σ' y = some bb → y ≠ VW.self → FlatB bb) → ∀ y bb, upd σ' VW.self v y = some bb → y ≠ VW.self → FlatB bb := fun h y bb hy hne => h y bb (by rw [upd_ne _ _ hne] at hy; exact hy) hne
  -- self.n = n
  show wpAny _ _ (execs [_, _, _, _] _) _ _ _
  refine wpAny_execs_cons (wp_attrset (nm := nmW) (x := VW.self) (P := fun g v => ∃ t, v = .int n t) k c.set KE S₂' rfl fl h0 (ev_mono ((ev_name (nm := nmW) kk VW.n (d := .int n) rfl).run _ _ S₂'.stt) fun v s' q => ⟨q.1, rd_int.mp q.2⟩) c.t1 rfl (fun t v => by show 2 ≤ 1000; decide) ?_)
  rintro v s₃ h₃ t₃ k₃ ⟨tn, rfl⟩ hs₃ S₃
  have D₃ := D₂.trans (.of (t := t₃) k₃ hs₃)
  -- self.nt = nt
  show wpAny _ _ (execs [_, _, _] _) _ _ _
  refine wpAny_execs_cons (wp_attrset (nm := nmW) (x := VW.self) (P := fun g v => ∃ t, v = .int nt t) k c.set KE S₃ rfl (flu fl) h0 (ev_mono ((ev_name (nm := nmW) kk VW.nt (d := .int nt) rfl).run _ _ S₃.stt) fun v s' q => ⟨q.1, rd_int.mp q.2⟩) c.t2 rfl (fun t v => by show 3 ≤ 1000; decide) ?_)
  rintro v s₄ h₄ t₄ k₄ ⟨tnt, rfl⟩ hs₄ S₄
  have D₄ := D₃.trans (.of (t := t₄) k₄ hs₄)
  -- self.norm = (tuple(count), b)
  show wpAny _ _ (execs [_, _] _) _ _ _
  refine wpAny_execs_cons (wp_attrset (nm := nmW) (x := VW.self) (P := fun g v => ∃ tN tC t2 vs, v = .ref tN ∧ s.heap.get? tN = none ∧ IsTup g tN #[.ref tC, .int b t2] ∧ s.heap.get? tC = none ∧ IsTup g tC (List.toArray vs) ∧ IntsAre vs cn) k c.set KE S₄ rfl (flu (flu fl)) h0 ?_ c.t3 rfl (fun t v => by show 4 ≤ 1000; decide) ?_)
  · have hV : Stt nmW prog w h₀ ⟨stScope (metSt 1), L, gl, ce, qu, fu, co, fr, bu⟩ (mkσ [(VW.count, .ol (cn.map D.int)), (VW.b, .im (.int b))]) (fun q => Mu ⟨stScope (metSt 1), L, gl, ce, qu, fu, co, fr, bu⟩ ow₂ q ∨ ∃ o, s.heap.get? q = some o) { s₄ with heap := h₄, toks := t₄ } := by
      have Z := S₄.stt
      refine ⟨Z.up, ?_, ?_, Z.old, ?_, Z.bare⟩
      · rintro q (hq | ⟨o, hq⟩)
        · exact Z.lt q hq
        · by_cases hqd : q = dx
          · obtain ⟨v, r, hv⟩ := S₄.im VW.self _ rfl
            obtain ⟨_, _, _, _, hgd⟩ := rd_inst.mp hv
            exact ⟨_, hqd ▸ hgd⟩
          · by_cases hqm : Mu ⟨stScope (metSt 1), L, gl, ce, qu, fu, co, fr, bu⟩ (fun _ : VW => none) q
            · refine Z.lt q ?_
              rcases hqm with h | h | ⟨y, h⟩
              · exact .inl h
              · exact .inr (.inl h)
              · cases h
            · exact ⟨o, D₄.keep q o hqd hqm hq⟩
      · intro y bb hy
        cases y
        case count =>
          cases hy
          obtain ⟨q, hq, hr, vs, hl, hrl⟩ := S₄.own VW.count _ rfl rfl
          exact ⟨_, hr, q, vs, rfl, .inl (.inr (.inr ⟨_, hq⟩)), hl, flat_rdl (fun d hd => by obtain ⟨_, _, rfl⟩ := List.mem_map.mp hd; trivial) hrl⟩
        case b =>
          cases hy
          obtain ⟨v, r, hv⟩ := S₄.im VW.b _ rfl
          exact ⟨v, r, FlatD.rd (d := .int b) trivial hv⟩
        all_goals cases hy
      · intro q hq
        rw [hC] at hq; cases hq
    have hl' : cn.length ≤ 300 := hlen
    refine ev_mono ((ev_tup (evs_cons (ev_tupleOf (nm := nmW) G KE rfl gt bt (evl_name kk VW.count rfl) (by rw [List.length_map]; omega)) (evs_cons (ev_name kk VW.b rfl) evs_nil)) (by simp)).run _ _ hV) ?_
    rintro v s' ⟨k', r⟩
    obtain ⟨tN, vs, rfl, hn1, hn2, hn3⟩ := rd_tup.mp r
    obtain ⟨v1, vs1, rfl, r1, hn4⟩ := rdl_cons.mp hn3
    obtain ⟨v2, vs2, rfl, r2, hn5⟩ := rdl_cons.mp hn4
    have e5 := rdl_nil.mp hn5
    subst e5
    obtain ⟨tC, vs', rfl, hc1, hc2, hc3⟩ := rd_tup.mp r1
    obtain ⟨t2, rfl⟩ := rd_int.mp r2
    have nn : ∀ q, ¬ (Mu ⟨stScope (metSt 1), L, gl, ce, qu, fu, co, fr, bu⟩ ow₂ q ∨ ∃ o, s.heap.get? q = some o) → s.heap.get? q = none := by
      intro q hq
      cases e : s.heap.get? q with
      | none => rfl
      | some o => exact absurd (.inr ⟨o, e⟩) hq
    exact ⟨k', tN, tC, t2, vs', rfl, nn _ hn1, hn2, nn _ hc1, hc2, hc3.ints⟩
  rintro v s₅ h₅ t₅ k₅ ⟨tN, tC, t2, vs, rfl, hN, iN, hCn, iC, hvs⟩ hs₅ S₅
  have D₅ := D₄.trans (.of (t := t₅) k₅ hs₅)
  -- self.is_simple = len(count) <= 1
  show wpAny _ _ (execs [_] _) _ _ _
  have hl' : cn.length ≤ 300 := hlen
  refine wpAny_execs_cons (wp_attrset (nm := nmW) (x := VW.self) (P := fun g v => True) k c.set KE S₅ rfl (flu (flu (flu fl))) h0 (ev_mono ((ev_cmp (ev_len (nm := nmW) (ds := cn.map D.int) G KE rfl gl' bl (evl_name kk VW.count rfl) (by rw [List.length_map]; omega)) ev_int cmp_le rfl).run _ _ S₅.stt) fun v s' q => ⟨q.1, trivial⟩) c.t4 rfl (fun t v => by show 5 ≤ 1000; decide) ?_)
  rintro v s₆ h₆ t₆ k₆ - hs₆ S₆
  have D₆ := D₅.trans (.of (t := t₆) k₆ hs₆)
  show wpAny _ _ (execs [] _) _ _ _
  refine wpAny_execs_nil ?_
  obtain ⟨v', r', hv'⟩ := S₆.im VW.self _ rfl
  obtain ⟨_, _, _, hga, hgd⟩ := rd_inst.mp hv'
  obtain ⟨v5, r5, hv5⟩ := S₅.im VW.self _ rfl
  obtain ⟨_, _, _, hga5, hgd5⟩ := rd_inst.mp hv5
  have hd5 : ∃ es' m', s₅.heap.get? dx = some (dictOf es' m') := by
    obtain ⟨v4, r4, hv4⟩ := S₄.im VW.self _ rfl
    obtain ⟨_, _, _, hga4, hgd4⟩ := rd_inst.mp hv4
    exact ⟨_, _, kp_heap k₅ _ _ hgd4⟩
  have tupk : ∀ (g g' : Heap) q (vs : Array Value), (∃ es' m', g.get? dx = some (dictOf es' m')) → Heap.SameBut dx g g' → IsTup g q vs → IsTup g' q vs := by
    rintro g g' q vs ⟨es', m', e⟩ hs ⟨o, ho, hc, r⟩
    refine ⟨o, (hs.2 q fun h => ?_).trans ho, hc, r⟩
    subst h; rw [e] at ho; cases ho; simp [dictOf] at hc
  have d6 : ∃ es' m', s₆.heap.get? dx = some (dictOf es' m') := ⟨_, _, kp_heap k₆ _ _ hgd5⟩
  have go : ∀ q vs, IsTup s₅.heap q vs → IsTup h₆ q vs := fun q vs hq => tupk _ _ _ _ d6 hs₆ ((tupk _ _ _ _ hd5 hs₅ hq).keeps (kp_heap k₆))
  exact hQ _ _ _ tN tC _ t2 vs D₆ hgd rfl rfl rfl hN (go _ _ iN) hCn (go _ _ iC) hvs
end Mine

-- L7
namespace Mine
open PySem PySem.Calls PyProof.Rows PySem.W

/-- what the base holds of Whitespace -/
structure WsLay (KK : Frag) (h₀ : Heap) (mg : Str → Option Value) (C fI fL : Addr) : Prop where
  k : KOf KK h₀
  g : mg "Whitespace" = some (.ref C)
  init : WsInit KK C
  cls : WsCls KK C fL
  keep : keepIn KK (.ref C) = true
  makes : makesIn KK C = true
  fi : findIn KK (.ref C) "__init__" = some (some (.ref fI))
  ft : typeIn KK (.ref fI) = some (.type "function")
  fn : FnAt nmW h₀ fI [.self, .ws] (stScope (metSt 1)) (stBody (metSt 1))
  il : FnAt nmI h₀ fL [.self, .tabsize] (stScope (metSt 3)) (stBody (metSt 3))

section
variable {V : Type} [DecidableEq V] {nm : V → Str} {prog : Program} {w : World} {h₀ : Heap} {os : OsState} {A : Around} {env : Env} {σ : V → Option B} {mg mb : Str → Option Value}

theorem ev_ws (G : Glo h₀ mg mb) (gl' : mg "len" = none) (bl : mb "len" = some (.builtin "len")) (gt : mg "tuple" = none) (bt : mb "tuple" = some (.type "tuple")) {KK : Frag} {C fI fL : Addr} (Y : WsLay KK h₀ mg C fI fL) (K : EnvG env) {n : Nat} (hA : Ok (n + 2) A) {e : Expr} {np pos : Pos}
    {x : Str} (hx : x.length ≤ 200) {cn : List Int} {b nn nt : Nat} (ho : wsRun x.cps.toList [] 0 0 0 = (cn, b, nn, nt)) (hk : env.kindOf "Whitespace" = some .globalImplicit) (h : Ev nm prog w h₀ A env σ e (.str x))
    (he : starEach [e] env = (false, eval e env) :: starEach [] env := by rfl) : Ev nm prog w h₀ A env σ (.Call (.Name "Whitespace" np) [e] [] pos) (.ws C cn b nt) := ⟨fun s mu S => by
  with_reducible refine wpAny_Call_NameR (wp_gname G K S.up hk Y.g ?_ (by decide))
  have h1 := (evs_cons (nm := nm) (prog := prog) (w := w) (h₀ := h₀) (A := A) (env := env) (σ := σ) h evs_nil he).run pos s mu S
  refine callWith_K Y.k.in_ Y.keep (ev_mono h1 ?_) he rfl
  rintro vs s₁ ⟨k₁, r₁⟩
  obtain ⟨v, vs', rfl, rv, r'⟩ := rdl_cons.mp r₁
  have e' := rdl_nil.mp r'
  subst e'
  obtain ⟨t, rfl⟩ := rd_str.mp rv
  have S₁ := S.keeps k₁
  have X := Y.k.up S₁.up
  refine ⟨X, wpAny_call ?_⟩
  obtain ⟨hh, g, d, tk, os'⟩ := s₁
  refine make_core (makes_of X Y.makes) (looks_findIn X Y.fi) (fun self => bind_fn X self Y.ft) (.inl rfl) ?_
  have kp2 : ∀ q o, hh.get? q = some o → ((hh.push emptyDict).push (instObj C hh.objs.size)).get? q = some o := fun q o e => Heap.get?_push_of_some _ (Heap.get?_push_of_some _ e)
  have k₂ : Keeps s ⟨(hh.push emptyDict).push (instObj C hh.objs.size), g, d, tk, os'⟩ := kp_trans k₁ (kp_mk (s := ⟨hh, g, d, tk, os'⟩) (t := tk) kp2)
  have S₂ := S.keeps k₂
  have hx₂ : ((hh.push emptyDict).push (instObj C hh.objs.size)).get? (hh.objs.size + 1) = some (instObj C hh.objs.size) := by
    have := Heap.get?_push_size (hh.push emptyDict) (o := instObj C hh.objs.size) rfl
    rw [Heap.size_push] at this
    exact this
  have hd₂ : ((hh.push emptyDict).push (instObj C hh.objs.size)).get? hh.objs.size = some (dictOf [] 0) := Heap.get?_push_of_some _ (Heap.get?_push_size _ rfl)
  have fr1 : s.heap.get? hh.objs.size = none := by
    cases e : s.heap.get? hh.objs.size with
    | none => rfl
    | some o => exact absurd (Heap.lt_size (kp_heap k₁ _ _ e)) (Nat.lt_irrefl _)
  have fr2 : s.heap.get? (hh.objs.size + 1) = none := by
    cases e : s.heap.get? (hh.objs.size + 1) with
    | none => rfl
    | some o => exact absurd (Heap.lt_size (kp_heap k₁ _ _ e)) (Nat.not_lt.mpr (Nat.le_succ _))
  have hd0 : h₀.get? hh.objs.size = none := none_of_old S.old fr1
  refine code_enter nmW_inj G (hA.made _) Y.fn (by decide) (ds := [.inst (hh.objs.size + 1) hh.objs.size C [] 0, .str x]) rfl (mu := fun _ => False) S₂.up S₂.old S₂.bare
    (rdl_cons' (rd_inst.mpr ⟨rfl, id, id, hx₂, hd₂⟩) (RdL.one (rd_str.mpr ⟨_, rfl⟩))) fun env' s' FE S' k' hM => ?_
  have hA' : (Around.deeper (A.under (.builtin "type.__call__" ⟨[.ref C, .str x t], []⟩)) env').handled = none := hA.handled
  refine wp_init G hA' gl' bl gt bt Y.k Y.g Y.init FE x hx ho (st_sub S' (fun y bb hy => by cases y <;> first | exact hy | cases hy)) hd0 fun s'' es m tN tC t1 t2 vs D hd hn hnt hil fN iN fC iC hv => ?_
  obtain ⟨hs'', tk'', esm⟩ := D.sm
  obtain ⟨h3, tk3, es3, k3⟩ := k'
  have kk : Keeps s s'' := by
    obtain ⟨h4, tk4, e4, k4⟩ := k₂
    cases e4
    subst es3
    subst esm
    refine ⟨hs'', tk'', rfl, fun q o e => D.keep q o (fun h => by subst h; rw [fr1] at e; cases e) (fun h => ?_) (k3 q o (k4 q o e))⟩
    have := hM q h
    rw [k4 q o e] at this; cases this
  have up' : ∀ q, s.heap.get? q = none → ¬ mu q := fun q hq h => by
    obtain ⟨o, e⟩ := S.lt q h
    rw [hq] at e; cases e
  have fresh' : ∀ q, s'.heap.get? q = none → s.heap.get? q = none := fun q hq => by
    cases e : s.heap.get? q with
    | none => rfl
    | some o => rw [kp_heap (kp_trans k₂ ⟨h3, tk3, es3, k3⟩) q o e] at hq; cases hq
  refine ⟨rfl, kk, rd_ws.mpr ⟨hh.objs.size + 1, rfl, up' _ fr2, hh.objs.size, es, m, tN, tC, t1, t2, vs, ?_, up' _ fr1, hd, hn, hnt, hil, up' _ (fresh' _ fN), iN, up' _ (fresh' _ fC), iC, hv⟩⟩
  refine D.keep _ _ (Nat.succ_ne_self _) (fun h => ?_) (by subst es3; exact k3 _ _ hx₂)
  have := hM _ h
  rw [show (({ heap := (hh.push emptyDict).push (instObj C hh.objs.size), gens := g, drawn := d, toks := tk, os := os' } : Shared)).heap = (hh.push emptyDict).push (instObj C hh.objs.size) from rfl, hx₂] at this
  cases this⟩
end
end Mine

-- L8
namespace Mine
open PySem PySem.Calls PyProof.Rows PySem.W
section
variable {V : Type} [DecidableEq V] {nm : V → Str} {prog : Program} {w : World} {h₀ : Heap} {os : OsState} {A : Around} {env : Env} {σ : V → Option B} {mg mb : Str → Option Value}

theorem ev_il (G : Glo h₀ mg mb) (gr : mg "range" = none) (br : mb "range" = some (.type "range")) (gl' : mg "len" = none) (bl : mb "len" = some (.builtin "len")) {KK : Frag} {C fI fL : Addr} (Y : WsLay KK h₀ mg C fI fL) {n : Nat} (hA : Ok (n + 1) A) {o e : Expr} {ap pos : Pos}
    {cn : List Int} {tr nt : Int} {t : Nat} (ht : 0 < t) (ht' : t < 2 ^ 29) (hl : cn.length ≤ 100) (hb : ∀ x ∈ cn, x.natAbs ≤ 100) (h : Ev nm prog w h₀ A env σ o (.ws C cn tr nt)) (hi : Ev nm prog w h₀ A env σ e (.int t)) {pl : Sem Bool}
    (hm : eval (.Call (.Attribute o "indent_level" ap) [e] [] pos) env = (do
      let ov ← eval o env
      standAt ap.atName
      let (f, first) ← holding [ov] (getMethod ov "indent_level" pl)
      callWith pos f first (backTo pos (starEach [e] env)) []) := by rfl)
    (he : starEach [e] env = (false, eval e env) :: starEach [] env := by rfl) : Ev nm prog w h₀ A env σ (.Call (.Attribute o "indent_level" ap) [e] [] pos) (.int (tr + t * (ilSum t cn (cn.length - t) + nt))) := ⟨fun s mu S => by
  with_reducible refine MethodCall_ (pl := pl) (ev_then h S fun v s₁ k₁ S₁ r₁ => ?_) hm
  obtain ⟨a, rfl, hma, dx, es, n', tN, tC, t1, t2, vs, h1, h2, h3, h4, h5, h5', h6, hN, h8, hC, h10⟩ := rd_ws.mp r₁
  have X := Y.k.up S₁.up
  have I : InstAt s₁.heap a (instObj C dx) C (some (dictOf es n')) := ⟨h1, rfl, rfl, h3⟩
  refine method_fn X I (plainGet_of Y.cls.get).1 (plainGet_of Y.cls.get).2 Y.cls.il (beq_iff_eq.mp Y.cls.fn) (by show (lookIn _ (dictOf es n')).map _ = _; rw [lookIn_dict, h5']; rfl) ?_
  have hs := (evs_cons (nm := nm) (prog := prog) (w := w) (h₀ := h₀) (A := A) (env := env) (σ := σ) hi evs_nil he).run pos s₁ mu S₁
  refine callWith_K Y.k.in_ Y.cls.keep (ev_mono hs ?_) he rfl
  rintro vs s₂ ⟨k₂, r₂⟩
  obtain ⟨v, vs', rfl, rv, r'⟩ := rdl_cons.mp r₂
  have e' := rdl_nil.mp r'
  subst e'
  have S₂ := S₁.keeps k₂
  refine ⟨Y.k.up S₂.up, ?_⟩
  refine wp_fcall nmI_inj G hA Y.il (by decide) (ds := [.ws C cn tr nt, .int t]) rfl (d := .int (tr + t * (ilSum t cn (cn.length - t) + nt))) (Post := fun fd _ => fd = .ret (.int (tr + t * (ilSum t cn (cn.length - t) + nt)))) (fun env' os' FE => tr_indent G (hA.deeper env').handled gr br gl' bl Y.k Y.cls FE t ht ht' cn tr nt hl hb) (fun fd σ h => .inl h) trivial S₂.up S₂.old S₂.bare S₂.lt (mu := mu) (rdl_cons' (r₁.keeps (kp_heap k₂)) (RdL.one rv)) fun v' s' k' rv' => ?_
  exact ⟨kp_trans k₁ (kp_trans k₂ k'), rv'⟩⟩
end
end Mine

-- L9
namespace Mine
open PySem PySem.Calls PyProof.Rows PySem.W

inductive VL where
  | script | rulers | total | k | heap | step | first | form | many | sizes | told | marks | place | size | whole | sets | leads | columns | apart | s | length | common | sign | begin | key | left | free | spot | seen | named
  | j | turn | g1 | g2 | g3 | g4 | x0
deriving DecidableEq
def nmL : VL → Str
  | .script => "script" | .rulers => "rulers" | .total => "total" | .k => "k" | .heap => "heap" | .step => "step" | .first => "first" | .form => "form" | .many => "many" | .sizes => "sizes" | .told => "told" | .marks => "marks"
  | .place => "place" | .size => "size" | .whole => "whole" | .sets => "sets" | .leads => "leads" | .columns => "columns" | .apart => "apart" | .s => "s" | .length => "length" | .common => "common" | .sign => "sign" | .begin => "begin"
  | .key => "key" | .left => "left" | .free => "free" | .spot => "spot" | .seen => "seen" | .named => "named" | .j => "j" | .turn => "turn" | .g1 => "1" | .g2 => "2" | .g3 => "3" | .g4 => "4" | .x0 => "0"
def VL.ofStr (x : Str) : VL :=
  match [("script", VL.script), ("rulers", .rulers), ("total", .total), ("k", .k), ("heap", .heap), ("step", .step), ("first", .first), ("form", .form), ("many", .many), ("sizes", .sizes), ("told", .told), ("marks", .marks), ("place", .place), ("size", .size), ("whole", .whole), ("sets", .sets), ("leads", .leads), ("columns", .columns), ("apart", .apart), ("s", .s), ("length", .length), ("common", .common), ("sign", .sign), ("begin", .begin), ("key", .key), ("left", .left), ("free", .free), ("spot", .spot), ("seen", .seen), ("named", .named), ("j", .j), ("turn", .turn), ("1", .g1), ("2", .g2), ("3", .g3), ("4", .g4), ("0", .x0)].find? (fun p => Str.ofString p.1 == x) with
  | some p => p.2
  | none => .x0
theorem ofStr_nm (x : VL) : VL.ofStr (nmL x) = x := by cases x <;> decide +kernel
theorem nmL_inj : ∀ x y, nmL x = nmL y → x = y := fun x y h => by rw [← ofStr_nm x, h, ofStr_nm y]

def lawSt (n : Nat) : Stmt := (stBody (topSt 13))[n]?.getD (.Pass ⟨0, 0, 0, 0⟩)
def forBody : Stmt → List Stmt
  | .For _ _ b _ _ => b
  | _ => []

-- what is told
def genTake : List Int → Option Int → Nat → Option (List Int)
  | _, _, 0 => some []
  | [], _, _ => some []
  | x :: r, last, n + 1 => if x = 127 then some [] else if x = 0 then (match last with | none => none | some l => some (List.replicate (n + 1) l)) else (genTake r (some x) n).map (x :: ·)
def toldD (sizes : List Int) (n : Nat) : D := match genTake sizes none n with
  | some l => .list (l.map D.int)
  | none => .str "invalid grouping"
def stepL : List Nat := [2, 4, 8, 16, 32, 3, 6, 12, 5, 9, 7, 24]
def sizesOf (f a d : Nat) : List Int := match f with
  | 0 => [a, d, 0]
  | 1 => [a, d, d, 0, a]
  | 2 => [(a : Int)] ++ List.replicate (32 / d) (d : Int) ++ [127, (d : Int)]
  | 3 => [(a : Int)] ++ List.replicate (32 / d) (d : Int)
  | _ => [0, a, d]
def marksOf (a d : Nat) : List Nat := (List.range 32).filter fun p => (p + 1 + d - a) % d == 0
def markRun : List Int → Int → List Int → List Int
  | [], _, ms => ms
  | s :: r, p, ms => markRun r (p + s) (if p + s < 32 then ms ++ [p + s] else ms)
def toldOk (d a f : Nat) : Bool := match genTake (sizesOf f a d) none (32 / d + 2) with
  | some l => decide (l.length + f / 2 = 32 / d + 2) && decide (markRun l (-1) [] = (marksOf a d).map Int.ofNat) && l.all fun x => decide (0 ≤ x) && decide (x ≤ 32)
  | none => false
theorem told_all : ∀ d ∈ stepL, ∀ a, a < 33 → 1 ≤ a → a ≤ d → ∀ f, f < 4 → toldOk d a f = true := by decide +kernel
theorem told_four (a d n : Nat) : genTake (sizesOf 4 a d) none (n + 1) = none := rfl
end Mine

-- L10
namespace Mine
open PySem PySem.Calls PyProof.Rows PySem.W

structure LEnv (h₀ : Heap) (env : Env) : Prop where
  ok : EnvOk h₀ env
  scope : env.scope = stScope (topSt 13)
  cells : env.cells = cellsFrom (env.locals + 1) (stScope (topSt 13)).names []

/-- what the law's code meets in the base -/
structure LawLay (prog : Program) (w : World) (h₀ : Heap) (mg mb : Str → Option Value) : Prop where
  G : Glo h₀ mg mb
  gsum : mg "sum" = none
  bsum : mb "sum" = some (.builtin "sum")
  gr : mg "range" = none
  br : mb "range" = some (.type "range")
  gl : mg "len" = none
  bl : mb "len" = some (.builtin "len")
  gh : mg "hex" = none
  bh : mb "hex" = some (.builtin "hex")
  gt : mg "tuple" = none
  bt : mb "tuple" = some (.type "tuple")
  gli : mg "list" = none
  bli : mb "list" = some (.type "list")
  tab : ∃ T, mg "COMPILER_FLAG_NAMES" = some (.ref T) ∧ TabAt prog w h₀ T
  measure : ∃ a, mg "_law_measure" = some (.ref a) ∧ FnAt nmM h₀ a [.a, .b] (stScope (topSt 11)) (stBody (topSt 11))
  name : ∃ a, mg "_law_name" = some (.ref a) ∧ FnAt nmN h₀ a [.place] (stScope (topSt 10)) (stBody (topSt 10))
  pretty : ∃ a, mg "pretty_flags" = some (.ref a) ∧ FnAt nmP h₀ a [.flags] (stScope (topSt 3)) (stBody (topSt 3))
  ws : ∃ KK C fI fL, WsLay KK h₀ mg C fI fL

def ToldSpec (prog : Program) (w : World) (h₀ : Heap) (os : OsState) (A : Around) (env : Env) : Prop :=
  ∀ (σ : VL → Option B) (sz : List Int) (n : Nat) (e f : Expr) (p1 p2 p4 p5 : Pos) (Post : FD → (VL → Option B) → Prop), starEach [e, f] env = [(false, eval e env), (false, eval f env)] → Ev nmL prog w h₀ A env σ e (.list (sz.map D.int)) → Ev nmL prog w h₀ A env σ f (.int n) → 1 ≤ n → n ≤ 100 → sz.length ≤ 100 →
    (∀ x ∈ sz, x.natAbs ≤ 1000) → Post .next (upd σ .told (some (.im (toldD sz n)))) → TrS nmL prog w h₀ os A env false (.Assign [.Name "told" p1] (.Call (.Name "_law_told" p2) [e, f] [] p4) p5) σ Post

def intsD (l : List Nat) : List D := l.map fun (p : Nat) => D.int (p : Int)
theorem intsD_eq (l : List Nat) : (l.map Int.ofNat).map D.int = intsD l := by rw [List.map_map]; rfl
def rulD (r : Nat × Nat) : D := .tup [.int r.1, .int r.2, .list (intsD (marksOf r.1 r.2))]
def RulOk (r : Nat × Nat) : Prop := r.2 ∈ stepL ∧ 1 ≤ r.1 ∧ r.1 ≤ r.2

section
variable {prog : Program} {w : World} {h₀ : Heap} {os : OsState} {A : Around} {mg mb : Str → Option Value}

def baseL : List Int := [0, 13, 38, 87, 184]
theorem stepL_pos : ∀ d ∈ stepL, 1 ≤ d ∧ d ≤ 32 := by decide

theorem szD_of (a d : Nat) : ∀ f : Nat, f < 5 → [D.list ((sizesOf 0 a d).map D.int), .list ((sizesOf 1 a d).map D.int), .list ((sizesOf 2 a d).map D.int), .list ((sizesOf 3 a d).map D.int), .list ((sizesOf 4 a d).map D.int)][f]? = some (.list ((sizesOf f a d).map D.int))
  | 0, _ => rfl
  | 1, _ => rfl
  | 2, _ => rfl
  | 3, _ => rfl
  | 4, _ => rfl
theorem szl_of {a d M : Nat} (hMd : 32 / d = M) (hm : M ≤ 32) (had : a ≤ d) (hd : d ≤ 32) : ∀ f : Nat, f < 5 → (sizesOf f a d).length ≤ 100 ∧ ∀ x ∈ sizesOf f a d, x.natAbs ≤ 1000
  | 0, _ => by simp [sizesOf]; omega
  | 1, _ => by simp [sizesOf]; omega
  | 2, _ => ⟨by simp [sizesOf, hMd]; omega, fun x hx => by simp [sizesOf, hMd] at hx; omega⟩
  | 3, _ => ⟨by simp [sizesOf, hMd]; omega, fun x hx => by simp [sizesOf, hMd] at hx; omega⟩
  | 4, _ => by simp [sizesOf]; omega

theorem tr_one (Y : LawLay prog w h₀ mg mb) (hA : A.handled = none) {env : Env} (F : LEnv h₀ env) (hT : ToldSpec prog w h₀ os A env) (ns : List Int) (hns : ns.length ≤ 63) (tot : Int) (i : Nat) (hi : i < 5) (rs : List (Nat × Nat)) (hrs : rs.length ≤ i) (hro : ∀ r ∈ rs, RulOk r) :
    Tr nmL prog w h₀ os A env false (forBody (lawSt 1)) (mkσ [(VL.script, .im (.list (ns.map D.int))), (VL.total, .im (.int tot)), (VL.rulers, .ol (rs.map rulD)), (VL.k, .im (.int i))])
      fun fd σ => fd = .next ∧ ∃ rs' : List (Nat × Nat), rs'.length ≤ i + 1 ∧ (∀ r ∈ rs', RulOk r) ∧ SubL σ [(VL.script, .im (.list (ns.map D.int))), (VL.total, .im (.int tot)), (VL.rulers, .ol (rs'.map rulD))] := by
  obtain ⟨K, hS, hC⟩ := F
  obtain ⟨sc, L, gl, ce, qu, fu, co, fr, bu⟩ := env
  cases hS
  have hC' : ce = cellsFrom (L + 1) (stScope (topSt 13)).names [] := hC
  clear hC
  subst hC'
  have kk := K.kind
  have KE := K.toEnvG
  have lo : ∀ x : VL, (⟨stScope (topSt 13), L, gl, cellsFrom (L + 1) (stScope (topSt 13)).names [], qu, fu, co, fr, bu⟩ : Env).kindOf (nmL x) = some .local → Slot' ⟨stScope (topSt 13), L, gl, cellsFrom (L + 1) (stScope (topSt 13)).names [], qu, fu, co, fr, bu⟩ (nmL x) L := fun x h => .loc h
  have kstep : Slot' ⟨stScope (topSt 13), L, gl, cellsFrom (L + 1) (stScope (topSt 13)).names [], qu, fu, co, fr, bu⟩ "step" _ := .cell rfl rfl
  have kfirst : Slot' ⟨stScope (topSt 13), L, gl, cellsFrom (L + 1) (stScope (topSt 13)).names [], qu, fu, co, fr, bu⟩ "first" _ := .cell rfl rfl
  have kmarks : Slot' ⟨stScope (topSt 13), L, gl, cellsFrom (L + 1) (stScope (topSt 13)).names [], qu, fu, co, fr, bu⟩ "marks" _ := .cell rfl rfl
  show Tr nmL prog w h₀ os A _ false [_, _, _, _, _, _, _, _] _ _
  have hb : baseL[(i : Int).toNat]? = some (baseL.getD i 0) := by
    rw [Int.toNat_natCast, List.getD_eq_getElem?_getD, List.getElem?_eq_getElem (show i < baseL.length from hi)]; rfl
  have hbD : (baseL.map D.int)[(i : Int).toNat]? = some (D.int (baseL.getD i 0)) := by rw [List.getElem?_map, hb]; rfl
  refine tr_cons (trs_asg (x := VL.heap) K nmL_inj (lo VL.heap rfl) (ev_opi (ev_item (ds := baseL.map D.int) (evl_of (ev_list (ds := baseL.map D.int) (evs_cons ev_int (evs_cons ev_int (evs_cons ev_int (evs_cons ev_int (evs_cons ev_int evs_nil))))) (by decide))) (ev_name kk VL.k rfl) (by omega) (by omega) hbD) (ev_sum Y.G KE hA rfl Y.gsum Y.bsum (evl_of (ev_pick (evl_of (ev_name kk VL.script rfl)) (ev_name kk VL.k rfl) ev_int (by decide) (by omega)))) op_add) ?_)
  generalize baseL.getD i 0 + (pickNums ns (some (i : Int)) none (some 5)).sum = hp
  refine tr_mk (l := [(VL.script, .im (.list (ns.map D.int))), (VL.total, .im (.int tot)), (VL.rulers, .ol (rs.map rulD)), (VL.heap, .im (.int hp))]) ?_ ⟨rfl, rfl, rfl, rfl, trivial⟩
  show Tr nmL prog w h₀ os A _ false [_, _, _, _, _, _, _] _ _
  -- step
  have m12 : 0 ≤ hp.fmod 12 ∧ hp.fmod 12 < 12 := ⟨Int.fmod_nonneg_of_pos _ (by decide), Int.fmod_lt_of_pos _ (by decide)⟩
  obtain ⟨d, hd, hdm⟩ : ∃ d, stepL[(hp.fmod 12).toNat]? = some d ∧ d ∈ stepL := by
    have : (hp.fmod 12).toNat < stepL.length := by show _ < 12; omega
    exact ⟨_, List.getElem?_eq_getElem this, List.getElem_mem _⟩
  have hd32 := stepL_pos d hdm
  have hdD : (intsD stepL)[(hp.fmod 12).toNat]? = some (D.int d) := by unfold intsD; rw [List.getElem?_map, hd]; rfl
  refine tr_cons (trs_asg (x := VL.step) K nmL_inj kstep (ev_item (ds := intsD stepL) (evl_of (ev_list (ds := intsD stepL) (evs_cons ev_int (evs_cons ev_int (evs_cons ev_int (evs_cons ev_int (evs_cons ev_int (evs_cons ev_int (evs_cons ev_int (evs_cons ev_int (evs_cons ev_int (evs_cons ev_int (evs_cons ev_int (evs_cons ev_int evs_nil)))))))))))) (by decide))) (ev_opi (ev_name kk VL.heap rfl) ev_int (op_mod hA (by decide))) m12.1 (by omega) hdD) ?_)
  show Tr nmL prog w h₀ os A _ false [_, _, _, _, _, _] _ _
  -- first
  obtain ⟨a, ha, ha1, had⟩ : ∃ a : Nat, 1 + (hp.fdiv 12).fmod (d : Int) = a ∧ 1 ≤ a ∧ a ≤ d := by
    have h1 := Int.fmod_nonneg_of_pos (hp.fdiv 12) (show (0 : Int) < d by omega)
    have h2 := Int.fmod_lt_of_pos (hp.fdiv 12) (show (0 : Int) < d by omega)
    exact ⟨(1 + (hp.fdiv 12).fmod (d : Int)).toNat, by omega, by omega, by omega⟩
  refine tr_cons (trs_asg (x := VL.first) (d := .int a) K nmL_inj kfirst (ha ▸ ev_opi ev_int (ev_opi (ev_opi (ev_name kk VL.heap rfl) ev_int (op_fdiv hA (by decide) (by decide))) (ev_name kk VL.step rfl) (op_mod hA (by omega))) op_add) ?_)
  show Tr nmL prog w h₀ os A _ false [_, _, _, _, _] _ _
  -- form
  obtain ⟨f, hf, hf5⟩ : ∃ f : Nat, (hp.fdiv 384).fmod 5 = f ∧ f < 5 := by
    have h1 := Int.fmod_nonneg_of_pos (hp.fdiv 384) (show (0 : Int) < 5 by decide)
    have h2 := Int.fmod_lt_of_pos (hp.fdiv 384) (show (0 : Int) < 5 by decide)
    exact ⟨((hp.fdiv 384).fmod 5).toNat, by omega, by omega⟩
  refine tr_cons (trs_asg (x := VL.form) (d := .int f) K nmL_inj (lo VL.form rfl) (hf ▸ ev_opi (ev_opi (ev_name kk VL.heap rfl) ev_int (op_fdiv hA (by decide) (by decide))) ev_int (op_mod hA (by decide))) ?_)
  show Tr nmL prog w h₀ os A _ false [_, _, _, _] _ _
  -- many
  obtain ⟨M, hMd, hm32⟩ : ∃ M, 32 / d = M ∧ M ≤ 32 := ⟨_, rfl, Nat.div_le_self _ _⟩
  have hm : Int.fdiv 32 (d : Int) = (M : Nat) := by rw [Int.fdiv_eq_ediv_of_nonneg _ (by omega), ← hMd]; rfl
  refine tr_cons (trs_asg (x := VL.many) (d := .int (M : Nat)) K nmL_inj (lo VL.many rfl) (hm ▸ ev_opi ev_int (ev_name kk VL.step rfl) (op_fdiv hA (by omega) (by omega))) ?_)
  show Tr nmL prog w h₀ os A _ false [_, _, _] _ _
  refine tr_mk (l := [(VL.script, .im (.list (ns.map D.int))), (VL.total, .im (.int tot)), (VL.rulers, .ol (rs.map rulD)), (VL.step, .im (.int d)), (VL.first, .im (.int a)), (VL.form, .im (.int f)), (VL.many, .im (.int (M : Nat)))]) ?_ ⟨rfl, rfl, rfl, rfl, rfl, rfl, rfl, trivial⟩
  -- sizes
  have szD : [D.list ((sizesOf 0 a d).map D.int), .list ((sizesOf 1 a d).map D.int), .list ((sizesOf 2 a d).map D.int), .list ((sizesOf 3 a d).map D.int), .list ((sizesOf 4 a d).map D.int)][(f : Int).toNat]? = some (.list ((sizesOf f a d).map D.int)) := by
    rw [Int.toNat_natCast]
    exact szD_of a d f hf5
  have e2 : [D.int a] ++ List.replicate (M : Int).toNat (D.int d) ++ [D.int 127, D.int d] = (sizesOf 2 a d).map D.int := by rw [Int.toNat_natCast]; simp [sizesOf, hMd]
  have e3 : [D.int a] ++ List.replicate (M : Int).toNat (D.int d) = (sizesOf 3 a d).map D.int := by rw [Int.toNat_natCast]; simp [sizesOf, hMd]
  have ea : ∀ {pos : Pos}, Ev nmL prog w h₀ A ⟨stScope (topSt 13), L, gl, cellsFrom (L + 1) (stScope (topSt 13)).names [], qu, fu, co, fr, bu⟩ (mkσ [(VL.script, .im (.list (ns.map D.int))), (VL.total, .im (.int tot)), (VL.rulers, .ol (rs.map rulD)), (VL.step, .im (.int d)), (VL.first, .im (.int a)), (VL.form, .im (.int f)), (VL.many, .im (.int (M : Nat)))]) (.Name (nmL VL.first) pos) (.int a) := fun {_} => ev_name kk VL.first rfl
  have ed : ∀ {pos : Pos}, Ev nmL prog w h₀ A ⟨stScope (topSt 13), L, gl, cellsFrom (L + 1) (stScope (topSt 13)).names [], qu, fu, co, fr, bu⟩ (mkσ [(VL.script, .im (.list (ns.map D.int))), (VL.total, .im (.int tot)), (VL.rulers, .ol (rs.map rulD)), (VL.step, .im (.int d)), (VL.first, .im (.int a)), (VL.form, .im (.int f)), (VL.many, .im (.int (M : Nat)))]) (.Name (nmL VL.step) pos) (.int d) := fun {_} => ev_name kk VL.step rfl
  have em : ∀ {pos : Pos}, Ev nmL prog w h₀ A ⟨stScope (topSt 13), L, gl, cellsFrom (L + 1) (stScope (topSt 13)).names [], qu, fu, co, fr, bu⟩ (mkσ [(VL.script, .im (.list (ns.map D.int))), (VL.total, .im (.int tot)), (VL.rulers, .ol (rs.map rulD)), (VL.step, .im (.int d)), (VL.first, .im (.int a)), (VL.form, .im (.int f)), (VL.many, .im (.int (M : Nat)))]) (.Name (nmL VL.many) pos) (.int (M : Nat)) := fun {_} => ev_name kk VL.many rfl
  have hcast : ((M : Int)) ≤ 1000 ∧ -1000 ≤ (M : Int) := by omega
  refine tr_cons (trs_asg (x := VL.sizes) (d := .list ((sizesOf f a d).map D.int)) K nmL_inj (lo VL.sizes rfl) (ev_item (evl_of (ev_list (evs_cons (ev_list (ds := [D.int a, D.int d, D.int 0]) (evs_cons ea (evs_cons ed (evs_cons ev_int evs_nil))) (by simp))
    (evs_cons (ev_list (ds := [D.int a, D.int d, D.int d, D.int 0, D.int a]) (evs_cons ea (evs_cons ed (evs_cons ed (evs_cons ev_int (evs_cons ea evs_nil))))) (by simp))
    (evs_cons (e2 ▸ evo_ev (evo_add (evl_of (evo_ev (evo_add (evl_of (ev_list (evs_cons ea evs_nil) (by simp))) (evl_of (ev_mul1 ed em hcast.2 hcast.1)) (by simp; omega)))) (evl_of (ev_list (evs_cons ev_int (evs_cons ed evs_nil)) (by simp))) (by simp; omega)))
    (evs_cons (e3 ▸ evo_ev (evo_add (evl_of (ev_list (evs_cons ea evs_nil) (by simp))) (evl_of (ev_mul1 ed em hcast.2 hcast.1)) (by simp; omega)))
    (evs_cons (ev_list (ds := [D.int 0, D.int a, D.int d]) (evs_cons ev_int (evs_cons ea (evs_cons ed evs_nil))) (by simp)) evs_nil))))) (by simp))) (ev_name kk VL.form rfl) (by omega) (by omega) szD) ?_)
  show Tr nmL prog w h₀ os A _ false [_, _] _ _
  have hszl : (sizesOf f a d).length ≤ 100 ∧ ∀ x ∈ sizesOf f a d, x.natAbs ≤ 1000 := szl_of hMd hm32 had hd32.2 f hf5
  refine tr_cons (hT _ (sizesOf f a d) (M + 2) _ _ _ _ _ _ _ rfl (ev_name kk VL.sizes rfl) (ev_opi (x := (M : Int)) (y := 2) (ev_name kk VL.many rfl) ev_int op_add) (by omega) (by omega) hszl.1 hszl.2 ?_)
  show Tr nmL prog w h₀ os A _ false [_] _ _
  refine tr_mk (l := [(VL.script, .im (.list (ns.map D.int))), (VL.total, .im (.int tot)), (VL.rulers, .ol (rs.map rulD)), (VL.step, .im (.int d)), (VL.first, .im (.int a)), (VL.form, .im (.int f)), (VL.many, .im (.int (M : Nat))), (VL.told, .im (toldD (sizesOf f a d) (M + 2)))]) ?_ ⟨rfl, rfl, rfl, rfl, rfl, rfl, rfl, rfl, trivial⟩
  refine tr_cons (trs_if (tst_cmp (ev_name kk VL.form rfl) ev_int cmp_eq rfl) (fun hb4 => ?_) (fun hb4 => ?_))
  · have f4 : f = 4 := by have : (f : Int) = 4 := by simpa using hb4
                          omega
    subst f4
    show Tr nmL prog w h₀ os A _ false [_] _ _
    have ht : toldD (sizesOf 4 a d) (M + 2) = .str "invalid grouping" := rfl
    refine tr_cons (trs_if (tst_cmp (ev_name kk VL.told (d := .str "invalid grouping") rfl) ev_str cmp_nes rfl) (fun hb => ?_) (fun hb => ?_))
    · exact absurd hb (by decide)
    · exact tr_nil (tr_nil (tr_nil ⟨rfl, rs, by omega, hro, rfl, rfl, rfl, trivial⟩))
  · have f4 : f < 4 := by
      have : ¬ (f : Int) = 4 := by simpa using hb4
      omega
    have hok := told_all d hdm a (by omega) ha1 had f f4
    unfold toldOk at hok
    rw [hMd] at hok
    cases hg : genTake (sizesOf f a d) none (M + 2) with
    | none => rw [hg] at hok; cases hok
    | some tl =>
      rw [hg] at hok
      simp only [Bool.and_eq_true, decide_eq_true_eq, List.all_eq_true] at hok
      obtain ⟨⟨hlen, hmk⟩, hall⟩ := hok
      have htd : toldD (sizesOf f a d) (M + 2) = .list (tl.map D.int) := by unfold toldD; rw [hg]
      rw [htd]
      show Tr nmL prog w h₀ os A _ false [_, _, _, _] _ _
      have hfd : Int.fdiv (f : Int) 2 = (f / 2 : Nat) := by rw [Int.fdiv_eq_ediv_of_nonneg _ (by decide)]; rfl
      refine tr_cons (trs_if (tst_cmp (ev_len (ds := tl.map D.int) Y.G KE rfl Y.gl Y.bl (evl_of (ev_name kk VL.told rfl)) (by rw [List.length_map]; omega)) (ev_opi (ev_opi (ev_name kk VL.many rfl) ev_int op_add) (hfd ▸ ev_opi (ev_name kk VL.form rfl) ev_int (op_fdiv hA (by decide) (by decide))) op_sub) cmp_ne rfl) (fun hb => ?_) (fun hb => ?_))
      · exfalso
        rw [List.length_map] at hb
        have : (tl.length : Int) = (M : Int) + 2 - (f / 2 : Nat) := by omega
        rw [this] at hb
        simp at hb
      · refine tr_nil ?_
        show Tr nmL prog w h₀ os A _ false [_, _, _] _ _
        -- marks, place = ([], -1)
        refine tr_cons (trs_tup (is := [⟨VL.marks, _, VL.g1, _, .ol []⟩, ⟨VL.place, _, VL.g2, _, .im (.int (-1))⟩]) K nmL_inj hA ?_ ?_ (by decide) ?_ ?_ (by simp) rfl rfl rfl rfl rfl rfl ?_)
        · intro i hi
          rcases List.mem_cons.mp hi with rfl | hi
          · exact ⟨_, kmarks⟩
          · rw [List.mem_singleton.mp hi]; exact ⟨_, lo VL.place rfl⟩
        · intro i hi j hj
          rcases List.mem_cons.mp hi with rfl | hi <;> rcases List.mem_cons.mp hj with rfl | hj
          · decide
          · rw [List.mem_singleton.mp hj]; decide
          · rw [List.mem_singleton.mp hi]; decide
          · rw [List.mem_singleton.mp hi, List.mem_singleton.mp hj]; decide
        · intro i hi
          rcases List.mem_cons.mp hi with rfl | hi
          · rfl
          · rw [List.mem_singleton.mp hi]; rfl
        · intro i hi
          rcases List.mem_cons.mp hi with rfl | hi
          · exact evo_nil
          · rw [List.mem_singleton.mp hi]; exact ev_neg ev_int
        show Tr nmL prog w h₀ os A _ false [_, _] _ _
        refine tr_mk (l := [(VL.script, .im (.list (ns.map D.int))), (VL.total, .im (.int tot)), (VL.rulers, .ol (rs.map rulD)), (VL.step, .im (.int d)), (VL.first, .im (.int a)), (VL.told, .im (.list (tl.map D.int))), (VL.marks, .ol []), (VL.place, .im (.int (-1)))]) ?_ ⟨rfl, rfl, rfl, rfl, rfl, rfl, rfl, rfl, trivial⟩
        refine tr_seq (trs_for (x := VL.size) (Post := fun fd σ => fd = .next ∧ SubL σ [(VL.script, .im (.list (ns.map D.int))), (VL.total, .im (.int tot)), (VL.rulers, .ol (rs.map rulD)), (VL.step, .im (.int d)), (VL.first, .im (.int a)), (VL.marks, .ol (intsD (marksOf a d)))]) K nmL_inj (lo VL.size rfl)
          (src_list hA (ev_name kk VL.told rfl) (by rw [List.length_map]; omega))
          (fun i σ => ∃ p ms, markRun (tl.drop i) p ms = (marksOf a d).map Int.ofNat ∧ ms.length ≤ i ∧ SubL σ [(VL.script, .im (.list (ns.map D.int))), (VL.total, .im (.int tot)), (VL.rulers, .ol (rs.map rulD)), (VL.step, .im (.int d)), (VL.first, .im (.int a)), (VL.marks, .ol (ms.map D.int)), (VL.place, .im (.int p))]) ⟨-1, [], hmk, by simp, rfl, rfl, rfl, rfl, rfl, rfl, rfl, trivial⟩ ?_ ?_) ?_
        · rintro i dd σ hdd ⟨p, ms, hrun, hml, h1, h2, h3, h4, h5, h6, h7, -⟩
          rw [List.getElem?_map] at hdd
          obtain ⟨sz, hsz, rfl⟩ := Option.map_eq_some_iff.mp hdd
          obtain ⟨hlt, hsz'⟩ := List.getElem?_eq_some_iff.mp hsz
          rw [List.drop_eq_getElem_cons hlt, hsz', markRun] at hrun
          refine tr_mk (l := [(VL.script, .im (.list (ns.map D.int))), (VL.total, .im (.int tot)), (VL.rulers, .ol (rs.map rulD)), (VL.step, .im (.int d)), (VL.first, .im (.int a)), (VL.marks, .ol (ms.map D.int)), (VL.place, .im (.int p)), (VL.size, .im (.int sz))]) ?_ ⟨h1, h2, h3, h4, h5, h6, h7, rfl, trivial⟩
          clear h1 h2 h3 h4 h5 h6 h7 hdd σ
          show Tr nmL prog w h₀ os A _ false [_, _] _ _
          refine tr_cons (trs_aug (x := VL.place) (a := p) (b := sz) (c := p + sz) K nmL_inj (lo VL.place rfl) rfl (ev_name kk VL.size rfl) (fun s t u => iop_add) ?_)
          show Tr nmL prog w h₀ os A _ false [_] _ _
          refine tr_cons (trs_if (tst_cmp (ev_name kk VL.place rfl) ev_int cmp_lt rfl) (fun hb => ?_) (fun hb => ?_))
          · rw [if_pos (of_decide_eq_true hb)] at hrun
            show Tr nmL prog w h₀ os A _ false [_] _ _
            refine tr_cons (trs_append K (x := VL.marks) rfl (ev_name kk VL.place rfl) (by rw [List.length_map]; omega) ?_)
            refine tr_nil (tr_nil ⟨p + sz, ms ++ [p + sz], hrun, by simp; omega, rfl, rfl, rfl, rfl, rfl, ?_, rfl, trivial⟩)
            rw [List.map_append]; rfl
          · rw [if_neg (of_decide_eq_false hb)] at hrun
            exact tr_nil (tr_nil ⟨p + sz, ms, hrun, by omega, rfl, rfl, rfl, rfl, rfl, rfl, rfl, trivial⟩)
        · rintro σ ⟨p, ms, hrun, hml, h1, h2, h3, h4, h5, h6, h7, -⟩
          rw [List.length_map, List.drop_length, markRun] at hrun
          subst hrun
          exact tr_nil ⟨rfl, h1, h2, h3, h4, h5, by rw [h6, intsD_eq], trivial⟩
        · rintro fd σ' ⟨rfl, h⟩
          refine tr_mk (l := [(VL.script, .im (.list (ns.map D.int))), (VL.total, .im (.int tot)), (VL.rulers, .ol (rs.map rulD)), (VL.step, .im (.int d)), (VL.first, .im (.int a)), (VL.marks, .ol (intsD (marksOf a d)))]) ?_ h
          refine tr_freeze VL.marks rfl ?_
          show Tr nmL prog w h₀ os A _ false [_] _ _
          refine tr_cons (trs_append K (x := VL.rulers) (d := rulD (a, d)) rfl (ev_tup (evs_cons (ev_name kk VL.first rfl) (evs_cons (ev_name kk VL.step rfl) (evs_cons (ev_name kk VL.marks rfl) evs_nil))) (by simp)) (by rw [List.length_map]; omega) ?_)
          refine tr_nil (tr_nil ⟨rfl, rs ++ [(a, d)], by simp; omega, fun r hr => ?_, rfl, rfl, ?_, trivial⟩)
          · rcases List.mem_append.mp hr with h | h
            · exact hro r h
            · rw [List.mem_singleton.mp h]; exact ⟨hdm, ha1, had⟩
          · rw [List.map_append]; rfl
end
end Mine

-- L11
namespace Mine
open PySem PySem.Calls PyProof.Rows PySem.W

def nthSt (n : Nat) (l : List Stmt) : Stmt := l[n]?.getD (.Pass ⟨0, 0, 0, 0⟩)
def wsS (b : Nat) : Str := repS (repS " " ((31 : Int) - b) ++ "\t") 2 ++ "\t" ++ repS " " ((b % 3 : Nat) : Int) ++ "x \t"
def wsCn (b : Nat) : List Int := if b = 31 then [3] else 1 :: List.replicate (30 - b) 0 ++ [2]
theorem wsS_all : ∀ b, b < 32 → (wsS b).length ≤ 200 ∧ (wsRun (wsS b).cps.toList [] 0 0 0).1 = wsCn b ∧ (wsRun (wsS b).cps.toList [] 0 0 0).2.1 = b % 3 ∧ (wsRun (wsS b).cps.toList [] 0 0 0).2.2.2 = 3 ∧ (wsCn b).length = 32 - b ∧ (wsCn b).all (fun x => decide (x.natAbs ≤ 100)) = true := by decide +kernel
theorem il_small : ∀ b, b < 32 → ∀ l, l < 33 → 1 ≤ l → ilSum l (wsCn b) ((wsCn b).length - l) = 2 * (((31 - b) / l : Nat) : Int) := by decide +kernel
theorem il_all {b l : Nat} (hb : b < 32) (hl : 1 ≤ l) : ilSum l (wsCn b) ((wsCn b).length - l) = 2 * (((31 - b) / l : Nat) : Int) := by
  by_cases h : l < 33
  · exact il_small b hb l h hl
  · have h1 := (wsS_all b hb).2.2.2.2.1
    have h2 : (wsCn b).length - l = 0 := by omega
    have h3 : (31 - b) / l = 0 := Nat.div_eq_of_lt (by omega)
    rw [h2, h3]; rfl
def wsD (C : Addr) (b : Nat) : D := .ws C (wsCn b) ((b % 3 : Nat) : Int) 3
def colV (l b : Nat) : Int := l * (2 * (((31 - b) / l : Nat) : Int) + 3) + ((b % 3 : Nat) : Int)
def LeadOk (C : Addr) (g : Int → Option D) : Prop := ∀ i d, g i = some d → ∃ b : Nat, b < 32 ∧ i = b ∧ d = wsD C b
def ColOk (g : Int → Option D) : Prop := ∀ i d, g i = some d → ∃ l b : Nat, 0 < l ∧ b < 32 ∧ i = 32 * l + b ∧ d = .int (colV l b)

abbrev SetT := Nat × List Nat × Int
def setD (x : SetT) : D := .tup [.int x.1, .list (intsD x.2.1), .int x.2.2]
def newSet (d Ap s : Nat) (ms : List Nat) (x : SetT) : SetT := (if s &&& Ap = 0 then x.1 * d / Nat.gcd x.1 d else 0, x.2.1.filter (fun p => ms.contains p), -x.2.2)
/-- the set is told rightly -/
def SetFit (x : SetT) : Prop := x.2.1 = [] ∨ (0 < x.1 ∧ x.1 < 2 ^ 20 ∧ ∃ b r, x.2.1 = b :: r ∧ b < 32 ∧ x.2.1.length = (31 - b) / x.1 + 1)

def innerL (tot : Int) (RL : List D) (k d : Nat) (ms : List Nat) (W Ap : Nat) (sd : List SetT) (n1 : Nat) (g1 : Int → Option D) (n2 : Nat) (g2 : Int → Option D) : List (VL × B) :=
  [(VL.total, .im (.int tot)), (VL.rulers, .im (.list RL)), (VL.k, .im (.int k)), (VL.step, .im (.int d)), (VL.marks, .im (.list (intsD ms))), (VL.whole, .im (.int W)), (VL.apart, .im (.int Ap)), (VL.sets, .ol (sd.map setD)), (VL.leads, .od n1 g1), (VL.columns, .od n2 g2)]

def intF (g : Int → D) : D → D
  | .int i => g i
  | _ => .int 0
def intP (p : Int → Bool) : D → Bool
  | .int i => p i
  | _ => false
theorem intsD_filter (p : Int → Bool) (l : List Nat) : ((intsD l).filter (intP p)).map (intF D.int) = intsD (l.filter fun (q : Nat) => p (q : Int)) := by
  induction l with
  | nil => rfl
  | cons q l ih =>
    show (List.filter _ (D.int q :: intsD l)).map _ = _
    rw [List.filter_cons, List.filter_cons]
    show List.map _ (if p q = true then _ else _) = _
    by_cases h : p (q : Int) = true
    · rw [if_pos h, if_pos h, List.map_cons, ih]; rfl
    · rw [if_neg h, if_neg h, ih]
theorem any_contains (ms : List Nat) (q : Nat) : (ms.map Int.ofNat).any (· == (q : Int)) = ms.contains q := by
  rw [List.any_map, List.contains_eq_any_beq]
  congr 1
  funext m
  show ((m : Int) == (q : Int)) = (q == m)
  by_cases h : m = q
  · subst h; simp
  · have h1 : ¬ (m : Int) = q := by omega
    have h2 : ¬ q = m := fun e => h e.symm
    rw [beq_eq_false_iff_ne.mpr h1, beq_eq_false_iff_ne.mpr h2]

section
variable {prog : Program} {w : World} {h₀ : Heap} {os : OsState} {A : Around} {mg mb : Str → Option Value}

theorem specM {n a : Nat} {ad : Addr} (b : Nat) (F : FnAt nmM h₀ ad [.a, .b] (stScope (topSt 11)) (stBody (topSt 11))) : FnSpec nmM prog w h₀ n ad [.a, .b] (stScope (topSt 11)) (stBody (topSt 11)) [.int a, .int b] (.int (Nat.gcd a b : Nat)) where
  fn := F
  inj := nmM_inj
  nodup := by decide
  len := rfl
  flat := trivial
  run := fun A env os hA FE => tr_measure hA.handled FE a b

theorem tr_inner (Y : LawLay prog w h₀ mg mb) {n : Nat} (hA : Ok (n + 6) A) {env : Env} (F : LEnv h₀ env) (tot : Int) (RL : List D) (k d : Nat) (ms : List Nat) (W Ap : Nat) (sd : List SetT) (n1 : Nat) (g1 : Int → Option D) (n2 : Nat) (g2 : Int → Option D) (s : Nat) (x : SetT)
    (hx : sd[s]? = some x) (hsd : sd.length ≤ 100) (hd : 0 < d) (hd2 : d ≤ 32) (hxl : x.1 < 2 ^ 20) (hms : ms.length ≤ 100) (hxc : x.2.1.length ≤ 100) (hfit : SetFit (newSet d Ap s ms x)) {KK : Frag} {C fI fL : Addr} (YW : WsLay KK h₀ mg C fI fL) (hn1 : n1 ≤ 100) (hn2 : n2 ≤ 100) (hg1 : LeadOk C g1) (hg2 : ColOk g2) (hs100 : s ≤ 100) :
    Tr nmL prog w h₀ os A env false (forBody (nthSt 3 (forBody (lawSt 3)))) (mkσ ((VL.s, .im (.int s)) :: innerL tot RL k d ms W Ap sd n1 g1 n2 g2))
      fun fd σ => fd = .next ∧ ∃ n1' g1' n2' g2', n1' ≤ n1 + 1 ∧ n2' ≤ n2 + 1 ∧ LeadOk C g1' ∧ ColOk g2' ∧ SubL σ (innerL tot RL k d ms W Ap (sd ++ [newSet d Ap s ms x]) n1' g1' n2' g2') := by
  obtain ⟨K, hS, hC⟩ := F
  obtain ⟨sc, L, gl, ce, qu, fu, co, fr, bu⟩ := env
  cases hS
  have hC' : ce = cellsFrom (L + 1) (stScope (topSt 13)).names [] := hC
  clear hC
  subst hC'
  have kk := K.kind
  have KE := K.toEnvG
  have hAh := hA.handled
  have lo : ∀ x : VL, (⟨stScope (topSt 13), L, gl, cellsFrom (L + 1) (stScope (topSt 13)).names [], qu, fu, co, fr, bu⟩ : Env).kindOf (nmL x) = some .local → Slot' ⟨stScope (topSt 13), L, gl, cellsFrom (L + 1) (stScope (topSt 13)).names [], qu, fu, co, fr, bu⟩ (nmL x) L := fun x h => .loc h
  obtain ⟨am, gm, fm⟩ := Y.measure
  obtain ⟨l, c, sg⟩ := x
  replace hxc : c.length ≤ 100 := hxc
  replace hxl : l < 2 ^ 20 := hxl
  show Tr nmL prog w h₀ os A _ false [_, _, _, _, _] _ _
  -- length, common, sign = sets[s]
  have hset : (sd.map setD)[(s : Int).toNat]? = some (setD (l, c, sg)) := by rw [Int.toNat_natCast, List.getElem?_map, hx]; rfl
  refine tr_cons (trs_unpack (xs := [(VL.length, _), (VL.common, _), (VL.sign, _)]) K nmL_inj hAh ?_ (ev_item (evl_name kk VL.sets rfl) (ev_name kk VL.s rfl) (by omega) (by omega) hset) rfl rfl rfl rfl rfl rfl ?_)
  · intro x hx
    rcases List.mem_cons.mp hx with rfl | hx
    · exact ⟨_, lo VL.length rfl⟩
    rcases List.mem_cons.mp hx with rfl | hx
    · exact ⟨_, lo VL.common rfl⟩
    · rw [List.mem_singleton.mp hx]; exact ⟨_, lo VL.sign rfl⟩
  show Tr nmL prog w h₀ os A _ false [_, _, _, _] _ _
  refine tr_mk (l := (VL.s, .im (.int s)) :: (VL.length, .im (.int l)) :: (VL.common, .im (.list (intsD c))) :: (VL.sign, .im (.int sg)) :: innerL tot RL k d ms W Ap sd n1 g1 n2 g2) ?_ ⟨rfl, rfl, rfl, rfl, rfl, rfl, rfl, rfl, rfl, rfl, rfl, rfl, rfl, rfl, trivial⟩
  have hand : Builtin.bitAnd (s : Int) (Ap : Int) = ((s &&& Ap : Nat) : Int) := by rw [bitAnd_pp (Int.natCast_nonneg _) (Int.natCast_nonneg _), Int.toNat_natCast, Int.toNat_natCast]
  have hg0 : 0 < Nat.gcd l d := Nat.gcd_pos_of_pos_right _ hd
  have hgd : Nat.gcd l d ≤ d := Nat.gcd_le_right _ hd
  have hq : ((l : Int) * d).fdiv (Nat.gcd l d : Nat) = ((l * d / Nat.gcd l d : Nat) : Int) := by rw [Int.fdiv_eq_ediv_of_nonneg _ (by omega)]; norm_cast
  generalize hl' : (if s &&& Ap = 0 then l * d / Nat.gcd l d else 0) = l'
  have hnew : newSet d Ap s ms (l, c, sg) = (l', c.filter (fun p => ms.contains p), -sg) := by unfold newSet; rw [← hl']
  rw [hnew] at hfit ⊢
  refine tr_cons (trs_asg (x := VL.length) (d := .int l') K nmL_inj (lo VL.length rfl) (ev_ifexp (tst_int (hand ▸ ev_opi (ev_name kk VL.s rfl) (ev_name kk VL.apart rfl) op_and)) (fun hr => ?_) (fun hr => ?_)) ?_)
  · have h0 : ¬ s &&& Ap = 0 := by
      intro h
      rw [h] at hr
      simp at hr
    rw [if_neg h0] at hl'
    subst hl'
    exact ev_int
  · have h0 : s &&& Ap = 0 := by
      have : ((s &&& Ap : Nat) : Int) = 0 := by simpa using hr
      omega
    rw [if_pos h0] at hl'
    subst hl'
    exact hq ▸ ev_opi (ev_opi (ev_name kk VL.length rfl) (ev_name kk VL.step rfl) (op_mul (IntMulOk.of_right (bits_small (by omega))))) (ev_fcall Y.G KE hA (specM d fm) (fun env' => hA.deeper env') rfl gm (by decide) (evs_cons (ev_name kk VL.length rfl) (evs_cons (ev_name kk VL.step rfl) evs_nil))) (op_fdiv hAh (by omega) (by omega))
  show Tr nmL prog w h₀ os A _ false [_, _, _] _ _
  have hcm : ((intsD c).filter (intP fun i => (ms.map Int.ofNat).any (· == i))).map (intF D.int) = intsD (c.filter (fun p => ms.contains p)) := by
    rw [intsD_filter]
    congr 1
    exact List.filter_congr fun q _ => any_contains ms q
  refine tr_cons (trs_asg_comp (y := VL.common) (ds := intsD c) (pz := intP fun i => (ms.map Int.ofNat).any (· == i)) (f := intF D.int) nmL_inj (compok_name (x := VL.place) (x0 := VL.x0) hAh K nmL_inj (cap_mk (cl := [("marks", L + 5)]) (l := [(VL.marks, .list (intsD ms))]) rfl ?_ ?_ rfl ⟨rfl, trivial⟩ ⟨⟨rfl, rfl, rfl, _, rfl⟩, trivial⟩) (src_list hAh (ev_name kk VL.common rfl) ?_) (fun _ => rfl) (by decide) rfl ?_ ?_ ?_) rfl ?_)
  · decide
  · decide
  · unfold intsD; rw [List.length_map]; omega
  · intro d; cases d <;> trivial
  · intro C' dd hdd Kc
    obtain ⟨q, hq, rfl⟩ := List.mem_map.mp hdd
    exact tstl_one (tst_in (ns := ms.map Int.ofNat) (ev_name Kc.kind VL.place rfl) (evl_of (ev_name Kc.kind VL.marks (d := .list ((ms.map Int.ofNat).map D.int)) (by rw [intsD_eq]; rfl))) rfl)
  · intro C' dd hdd Kc hp
    obtain ⟨q, hq, rfl⟩ := List.mem_map.mp hdd
    exact ev_name Kc.kind VL.place rfl
  rw [hcm]
  show Tr nmL prog w h₀ os A _ false [_, _] _ _
  generalize hc' : c.filter (fun p => ms.contains p) = c'
  rw [hc'] at hfit
  have hcl' : c'.length ≤ 100 := by rw [← hc']; exact Nat.le_trans (List.length_filter_le _ _) hxc
  refine tr_mk (l := (VL.length, .im (.int l')) :: (VL.common, .ol (intsD c')) :: (VL.sign, .im (.int sg)) :: innerL tot RL k d ms W Ap sd n1 g1 n2 g2) ?_ ⟨rfl, rfl, rfl, rfl, rfl, rfl, rfl, rfl, rfl, rfl, rfl, rfl, rfl, trivial⟩
  refine tr_freeze VL.common rfl ?_
  refine tr_cons (trs_append K (x := VL.sets) (d := setD (l', c', -sg)) rfl (ev_tup (evs_cons (ev_name kk VL.length rfl) (evs_cons (ev_name kk VL.common rfl) (evs_cons (ev_neg (ev_name kk VL.sign rfl)) evs_nil))) (by simp)) (by rw [List.length_map]; omega) ?_)
  show Tr nmL prog w h₀ os A _ false [_] _ _
  refine tr_mk (l := (VL.length, .im (.int l')) :: (VL.common, .im (.list (intsD c'))) :: innerL tot RL k d ms W Ap (sd ++ [(l', c', -sg)]) n1 g1 n2 g2) ?_ ⟨rfl, rfl, rfl, rfl, rfl, rfl, rfl, rfl, rfl, by rw [List.map_append]; rfl, rfl, rfl, trivial⟩
  have ecn : ∀ {pos : Pos}, EvL nmL prog w h₀ A ⟨stScope (topSt 13), L, gl, cellsFrom (L + 1) (stScope (topSt 13)).names [], qu, fu, co, fr, bu⟩ (mkσ ((VL.length, .im (.int l')) :: (VL.common, .im (.list (intsD c'))) :: innerL tot RL k d ms W Ap (sd ++ [(l', c', -sg)]) n1 g1 n2 g2)) (.Name (nmL VL.common) pos) ((c'.map Int.ofNat).map D.int) := fun {_} => by rw [intsD_eq]; exact evl_of (ev_name kk VL.common rfl)
  refine tr_cons (trs_if (tst_neL (ns := c'.map Int.ofNat) (ms := []) ecn (evl_of (ev_list evs_nil (by simp))) (by have := hA.units; omega) rfl) (fun hb => ?_) (fun hb => ?_))
  · have hne : c' ≠ [] := by
      intro h
      rw [h] at hb
      exact absurd hb (by decide)
    rcases hfit with h | ⟨hl0, hl20, b, r, hcb, hb32, hlen⟩
    · exact absurd h hne
    replace hl0 : 0 < l' := hl0
    replace hl20 : l' < 2 ^ 20 := hl20
    replace hcb : c' = b :: r := hcb
    replace hlen : c'.length = (31 - b) / l' + 1 := hlen
    show Tr nmL prog w h₀ os A _ false [_, _, _, _, _] _ _
    refine tr_cons (trs_if (tst_cmp (ev_name kk VL.length rfl) ev_int cmp_eq rfl) (fun hz => ?_) (fun hz => tr_nil ?_))
    · have : (l' : Int) = 0 := by simpa using hz
      omega
    show Tr nmL prog w h₀ os A _ false [_, _, _, _] _ _
    -- begin, key = ..
    have hh : (intsD c')[(0 : Int).toNat]? = some (D.int b) := by rw [hcb]; rfl
    refine tr_cons (trs_swap2 (x := VL.begin) (y := VL.key) (d := .int b) (d' := .int (32 * l' + b)) K nmL_inj hAh (lo VL.begin rfl) (lo VL.key rfl) (evs_cons (ev_item (evl_of (ev_name kk VL.common rfl)) ev_int (by decide) (by decide) hh) (evs_cons (ev_opi (ev_opi ev_int (ev_name kk VL.length rfl) (op_mul (IntMulOk.of_left (by decide)))) (ev_item (evl_of (ev_name kk VL.common rfl)) ev_int (by decide) (by decide) hh) op_add) evs_nil)) rfl rfl ?_)
    show Tr nmL prog w h₀ os A _ false [_, _, _] _ _
    refine tr_mk (l := (VL.begin, .im (.int b)) :: (VL.key, .im (.int (32 * l' + b))) :: (VL.length, .im (.int l')) :: (VL.common, .im (.list (intsD c'))) :: innerL tot RL k d ms W Ap (sd ++ [(l', c', -sg)]) n1 g1 n2 g2) ?_ ⟨rfl, rfl, rfl, rfl, rfl, rfl, rfl, rfl, rfl, rfl, rfl, rfl, rfl, rfl, trivial⟩
    have hW := wsS_all b hb32
    have b3 : Int.fmod (b : Int) 3 = ((b % 3 : Nat) : Int) := by rw [Int.fmod_eq_emod_of_nonneg _ (by decide)]; rfl
    refine tr_seq (P := fun fd σ => fd = .next ∧ ∃ n1' g1', n1' ≤ n1 + 1 ∧ LeadOk C g1' ∧ g1' (b : Int) = some (wsD C b) ∧ SubL σ ((VL.begin, .im (.int b)) :: (VL.key, .im (.int (32 * l' + b))) :: (VL.length, .im (.int l')) :: (VL.common, .im (.list (intsD c'))) :: innerL tot RL k d ms W Ap (sd ++ [(l', c', -sg)]) n1' g1' n2 g2))
      (trs_if (tst_notind (ev_name kk VL.begin rfl) (evd_name kk VL.leads rfl) rfl) (fun hn => ?_) (fun hn => ?_)) ?_
    · show Tr nmL prog w h₀ os A _ false [_] _ _
      have l1 : (Str.ofString " ").length = 1 := by decide
      have l2 : (Str.ofString "\t").length = 1 := by decide
      have l3 : (Str.ofString "x \t").length = 3 := by decide
      have r1 : (repS " " ((31 : Int) - b)).length ≤ 31 := by rw [repS_len, l1]; omega
      have r2 : (repS " " ((31 : Int) - b) ++ "\t").length ≤ 32 := by rw [Str.length_append, l2]; omega
      have r3 : (repS (repS " " ((31 : Int) - b) ++ "\t") 2).length ≤ 64 := by rw [repS_len]; show _ * 2 ≤ 64; omega
      have r4 : (repS (repS " " ((31 : Int) - b) ++ "\t") 2 ++ "\t").length ≤ 65 := by rw [Str.length_append, l2]; omega
      have r5 : (repS " " ((b % 3 : Nat) : Int)).length ≤ 3 := by rw [repS_len, l1]; omega
      have r6 : (repS (repS " " ((31 : Int) - b) ++ "\t") 2 ++ "\t" ++ repS " " ((b % 3 : Nat) : Int)).length ≤ 68 := by rw [Str.length_append]; omega
      refine tr_cons (trs_setd K (x := VL.leads) (d := wsD C b) rfl (ev_ws (n := n + 4) (x := wsS b) (nn := (wsRun (wsS b).cps.toList [] 0 0 0).2.2.1) Y.G Y.gl Y.bl Y.gt Y.bt YW KE hA hW.1 (Prod.ext hW.2.1 (Prod.ext hW.2.2.1 (Prod.ext rfl hW.2.2.2.1))) rfl
        (ev_sadd (ev_sadd (ev_sadd (ev_smul (ev_sadd (ev_smul ev_str (ev_opi ev_int (ev_name kk VL.begin rfl) op_sub) (by omega) (by omega) (by decide)) ev_str (by rw [l2]; omega)) ev_int (by decide) (by decide) (by omega)) ev_str (by rw [l2]; omega)) (ev_smul ev_str (b3 ▸ ev_opi (ev_name kk VL.begin rfl) ev_int (op_mod hAh (by decide))) (by omega) (by omega) (by decide)) (by omega)) ev_str (by rw [l3]; omega))) (ev_name kk VL.begin rfl) (by omega) ?_)
      refine tr_nil ⟨rfl, n1 + 1, _, by omega, ?_, ?_, rfl, rfl, rfl, rfl, rfl, rfl, rfl, rfl, rfl, rfl, rfl, rfl, rfl, rfl, trivial⟩
      · intro i dd hi
        dsimp only at hi
        by_cases hib : i = b
        · rw [if_pos hib] at hi; cases hi; exact ⟨b, hb32, hib, rfl⟩
        · rw [if_neg hib] at hi; exact hg1 i dd hi
      · exact if_pos rfl
    · have hs : ∃ dd, g1 (b : Int) = some dd := by
        cases e : g1 (b : Int) with
        | none => rw [e] at hn; cases hn
        | some dd => exact ⟨dd, rfl⟩
      obtain ⟨dd, hdd⟩ := hs
      obtain ⟨b', _, e1, rfl⟩ := hg1 _ _ hdd
      have : b' = b := by omega
      subst this
      exact tr_nil ⟨rfl, n1, g1, by omega, hg1, hdd, rfl, rfl, rfl, rfl, rfl, rfl, rfl, rfl, rfl, rfl, rfl, rfl, rfl, rfl, trivial⟩
    rintro fd σ ⟨rfl, n1', g1', hn1', hg1', hgb, hsub⟩
    refine tr_mk ?_ hsub
    clear hsub σ
    show Tr nmL prog w h₀ os A _ false [_, _] _ _
    have hcv : ((b % 3 : Nat) : Int) + l' * (ilSum l' (wsCn b) ((wsCn b).length - l') + 3) = colV l' b := by
      rw [il_all hb32 hl0]; unfold colV; rw [Int.add_comm]
    refine tr_seq (P := fun fd σ => fd = .next ∧ ∃ n2' g2', n2' ≤ n2 + 1 ∧ ColOk g2' ∧ g2' (32 * l' + b) = some (.int (colV l' b)) ∧ SubL σ ((VL.begin, .im (.int b)) :: (VL.key, .im (.int (32 * l' + b))) :: (VL.length, .im (.int l')) :: (VL.common, .im (.list (intsD c'))) :: innerL tot RL k d ms W Ap (sd ++ [(l', c', -sg)]) n1' g1' n2' g2'))
      (trs_if (tst_notind (ev_name kk VL.key rfl) (evd_name kk VL.columns rfl) rfl) (fun hn => ?_) (fun hn => ?_)) ?_
    · show Tr nmL prog w h₀ os A _ false [_] _ _
      refine tr_cons (trs_setd K (x := VL.columns) (d := .int (colV l' b)) rfl (hcv ▸ ev_il (n := n + 5) Y.G Y.gr Y.br Y.gl Y.bl YW hA hl0 (by omega) (by rw [hW.2.2.2.2.1]; omega) (fun x hx => of_decide_eq_true (List.all_eq_true.mp hW.2.2.2.2.2 x hx)) (ev_ditem (evd_name kk VL.leads rfl) (ev_name kk VL.begin rfl) hgb) (ev_name kk VL.length rfl)) (ev_name kk VL.key rfl) (by omega) ?_)
      refine tr_nil ⟨rfl, n2 + 1, _, by omega, ?_, ?_, rfl, rfl, rfl, rfl, rfl, rfl, rfl, rfl, rfl, rfl, rfl, rfl, rfl, rfl, trivial⟩
      · intro i dd hi
        dsimp only at hi
        by_cases hib : i = 32 * l' + b
        · rw [if_pos hib] at hi; cases hi; exact ⟨l', b, hl0, hb32, hib, rfl⟩
        · rw [if_neg hib] at hi; exact hg2 i dd hi
      · exact if_pos rfl
    · have hs : ∃ dd, g2 (32 * l' + b) = some dd := by
        cases e : g2 (32 * l' + b) with
        | none => rw [e] at hn; cases hn
        | some dd => exact ⟨dd, rfl⟩
      obtain ⟨dd, hdd⟩ := hs
      obtain ⟨l2, b2, _, hb2, e1, rfl⟩ := hg2 _ _ hdd
      have e2 : l2 = l' := by omega
      have e3 : b2 = b := by omega
      subst e2; subst e3
      exact tr_nil ⟨rfl, n2, g2, by omega, hg2, hdd, rfl, rfl, rfl, rfl, rfl, rfl, rfl, rfl, rfl, rfl, rfl, rfl, rfl, rfl, trivial⟩
    rintro fd σ ⟨rfl, n2', g2', hn2', hg2', hgk, hsub⟩
    refine tr_mk ?_ hsub
    clear hsub σ
    show Tr nmL prog w h₀ os A _ false [_] _ _
    have hval : (l' : Int) * (2 * ((intsD c').length : Int) + 1) + ((b % 3 : Nat) : Int) = colV l' b := by
      have : (intsD c').length = (31 - b) / l' + 1 := by unfold intsD; rw [List.length_map, hlen]
      rw [this]; unfold colV
      congr 2
    refine tr_cons (trs_if (tst_cmp (ev_ditem (evd_name kk VL.columns rfl) (ev_name kk VL.key rfl) hgk) (hval ▸ ev_opi (ev_opi (ev_name kk VL.length rfl) (ev_opi (ev_opi ev_int (ev_len Y.G KE rfl Y.gl Y.bl (evl_of (ev_name kk VL.common rfl)) (by unfold intsD; rw [List.length_map]; omega)) (op_mul (IntMulOk.of_left (by decide)))) ev_int op_add) (op_mul (IntMulOk.of_left (bits_small (by omega))))) (b3 ▸ ev_opi (ev_name kk VL.begin rfl) ev_int (op_mod hAh (by decide))) op_add) cmp_ne rfl) (fun hz => ?_) (fun hz => tr_nil ?_))
    · exfalso; simp at hz
    · refine tr_nil (tr_nil ⟨rfl, n1', g1', n2', g2', hn1', hn2', hg1', hg2', rfl, rfl, rfl, rfl, rfl, rfl, rfl, rfl, rfl, rfl, trivial⟩)
  · refine tr_nil (tr_nil ⟨rfl, n1, g1, n2, g2, by omega, by omega, hg1, hg2, rfl, rfl, rfl, rfl, rfl, rfl, rfl, rfl, rfl, rfl, trivial⟩)
end
end Mine

-- L12
namespace Mine
open PySem PySem.Calls PyProof.Rows PySem.W

def clash (rs : List (Nat × Nat)) (a d j : Nat) : Bool := match rs[j]? with
  | some r => ((a : Int) - r.1).fmod (Nat.gcd d r.2 : Nat) != 0
  | none => false
def apartL (rs : List (Nat × Nat)) (k a d : Nat) : List Nat := ((List.range k).filter fun j => clash rs a d j).map fun j => 2 ^ j
def apartN (rs : List (Nat × Nat)) (k a d : Nat) : Nat := (apartL rs k a d).sum
theorem castSum (l : List Nat) : (l.map Int.ofNat).sum = ((l.sum : Nat) : Int) := by
  induction l with
  | nil => rfl
  | cons x l ih => rw [List.map_cons, List.sum_cons, List.sum_cons, ih]; push_cast; rfl
theorem upFrom_ints (k : Nat) : upFrom 0 k = intsD (List.range k) := by
  unfold upFrom intsD
  congr 1
  funext i
  rw [Int.zero_add]
theorem ints_fm (p : Int → Bool) (g : Int → D) (l : List Nat) : ((intsD l).filter (intP p)).map (intF g) = (l.filter fun (q : Nat) => p (q : Int)).map fun (q : Nat) => g (q : Int) := by
  induction l with
  | nil => rfl
  | cons q l ih =>
    show (List.filter _ (D.int q :: intsD l)).map _ = _
    rw [List.filter_cons, List.filter_cons]
    show List.map _ (if p q = true then _ else _) = _
    by_cases h : p (q : Int) = true
    · rw [if_pos h, if_pos h, List.map_cons, ih]; rfl
    · rw [if_neg h, if_neg h, ih]
theorem apart_eq (rs : List (Nat × Nat)) (k a d : Nat) : ((upFrom 0 k).filter (intP fun j => clash rs a d j.toNat)).map (intF fun j => .int (2 ^ j.toNat)) = ((apartL rs k a d).map Int.ofNat).map D.int := by
  rw [upFrom_ints, ints_fm]
  unfold apartL
  rw [List.map_map, List.map_map]
  congr 1

def outerL (tot : Int) (RL : List D) (W : Nat) (sd : List SetT) (n1 : Nat) (g1 : Int → Option D) (n2 : Nat) (g2 : Int → Option D) : List (VL × B) :=
  [(VL.total, .im (.int tot)), (VL.rulers, .im (.list RL)), (VL.whole, .im (.int W)), (VL.sets, .ol (sd.map setD)), (VL.leads, .od n1 g1), (VL.columns, .od n2 g2)]
def newSets (d Ap k : Nat) (ms : List Nat) (sd : List SetT) : List SetT := (List.range (2 ^ k)).map fun s => newSet d Ap s ms (sd.getD s (0, [], 0))

section
variable {prog : Program} {w : World} {h₀ : Heap} {os : OsState} {A : Around} {mg mb : Str → Option Value}
theorem tr_two (Y : LawLay prog w h₀ mg mb) {n : Nat} (hA : Ok (n + 6) A) {env : Env} (F : LEnv h₀ env) (tot : Int) (rs : List (Nat × Nat)) (hrs : rs.length ≤ 5) (hro : ∀ r ∈ rs, RulOk r) (k a d : Nat) (hk : k < 5) (hr : rs[k]? = some (a, d)) (W : Nat) (hW : W < 2 ^ 20) (hW0 : 0 < W) (sd : List SetT) (hsl : sd.length = 2 ^ k)
    (n1 : Nat) (g1 : Int → Option D) (n2 : Nat) (g2 : Int → Option D) {KK : Frag} {C fI fL : Addr} (YW : WsLay KK h₀ mg C fI fL) (hn1 : n1 < 2 ^ k) (hn2 : n2 < 2 ^ k) (hg1 : LeadOk C g1) (hg2 : ColOk g2)
    (hfit : ∀ s, s < 2 ^ k → SetFit (newSet d (apartN rs k a d) s (marksOf a d) (sd.getD s (0, [], 0)))) (hsm : ∀ x ∈ sd, x.1 < 2 ^ 20 ∧ x.2.1.length ≤ 100) :
    Tr nmL prog w h₀ os A env false (forBody (lawSt 3)) (mkσ ((VL.k, .im (.int k)) :: outerL tot (rs.map rulD) W sd n1 g1 n2 g2))
      fun fd σ => fd = .next ∧ ∃ n1' g1' n2' g2', n1' < 2 ^ (k + 1) ∧ n2' < 2 ^ (k + 1) ∧ LeadOk C g1' ∧ ColOk g2' ∧ SubL σ (outerL tot (rs.map rulD) (W * d / Nat.gcd W d) (sd ++ newSets d (apartN rs k a d) k (marksOf a d) sd) n1' g1' n2' g2') := by
  have F' := F
  obtain ⟨K, hS, hC⟩ := F
  obtain ⟨sc, L, gl, ce, qu, fu, co, fr, bu⟩ := env
  cases hS
  have hC' : ce = cellsFrom (L + 1) (stScope (topSt 13)).names [] := hC
  clear hC
  subst hC'
  have kk := K.kind
  have KE := K.toEnvG
  have hAh := hA.handled
  have lo : ∀ x : VL, (⟨stScope (topSt 13), L, gl, cellsFrom (L + 1) (stScope (topSt 13)).names [], qu, fu, co, fr, bu⟩ : Env).kindOf (nmL x) = some .local → Slot' ⟨stScope (topSt 13), L, gl, cellsFrom (L + 1) (stScope (topSt 13)).names [], qu, fu, co, fr, bu⟩ (nmL x) L := fun x h => .loc h
  obtain ⟨am, gm, fm⟩ := Y.measure
  have hra := hro _ (List.mem_of_getElem? hr)
  have hd := stepL_pos d hra.1
  show Tr nmL prog w h₀ os A _ false [_, _, _, _] _ _
  -- first, step, marks = rulers[k]
  have hrul : (rs.map rulD)[(k : Int).toNat]? = some (rulD (a, d)) := by rw [Int.toNat_natCast, List.getElem?_map, hr]; rfl
  refine tr_cons (trs_unpack (xs := [(VL.first, _), (VL.step, _), (VL.marks, _)]) K nmL_inj hAh ?_ (ev_item (evl_of (ev_name kk VL.rulers rfl)) (ev_name kk VL.k rfl) (by omega) (by omega) hrul) rfl rfl rfl rfl rfl rfl ?_)
  · intro x hx
    rcases List.mem_cons.mp hx with rfl | hx
    · exact ⟨_, .cell rfl rfl⟩
    rcases List.mem_cons.mp hx with rfl | hx
    · exact ⟨_, .cell rfl rfl⟩
    · rw [List.mem_singleton.mp hx]; exact ⟨_, .cell rfl rfl⟩
  show Tr nmL prog w h₀ os A _ false [_, _, _] _ _
  refine tr_mk (l := (VL.k, .im (.int k)) :: (VL.first, .im (.int a)) :: (VL.step, .im (.int d)) :: (VL.marks, .im (.list (intsD (marksOf a d)))) :: outerL tot (rs.map rulD) W sd n1 g1 n2 g2) ?_ ⟨rfl, rfl, rfl, rfl, rfl, rfl, rfl, rfl, rfl, rfl, trivial⟩
  -- whole
  have hg0 : 0 < Nat.gcd W d := Nat.gcd_pos_of_pos_right _ hd.1
  have hgd : Nat.gcd W d ≤ d := Nat.gcd_le_right _ hd.1
  have hq : ((W : Int) * d).fdiv (Nat.gcd W d : Nat) = ((W * d / Nat.gcd W d : Nat) : Int) := by rw [Int.fdiv_eq_ediv_of_nonneg _ (by omega)]; norm_cast
  refine tr_cons (trs_asg (x := VL.whole) (d := .int (W * d / Nat.gcd W d : Nat)) K nmL_inj (.cell rfl rfl) (hq ▸ ev_opi (ev_opi (ev_name kk VL.whole rfl) (ev_name kk VL.step rfl) (op_mul (IntMulOk.of_right (bits_small (by omega))))) (ev_fcall Y.G KE hA (specM d fm) (fun env' => hA.deeper env') rfl gm (by decide) (evs_cons (ev_name kk VL.whole rfl) (evs_cons (ev_name kk VL.step rfl) evs_nil))) (op_fdiv hAh (by omega) (by omega))) ?_)
  show Tr nmL prog w h₀ os A _ false [_, _] _ _
  generalize W * d / Nat.gcd W d = W'
  refine tr_mk (l := (VL.k, .im (.int k)) :: (VL.first, .im (.int a)) :: (VL.step, .im (.int d)) :: (VL.marks, .im (.list (intsD (marksOf a d)))) :: outerL tot (rs.map rulD) W' sd n1 g1 n2 g2) ?_ ⟨rfl, rfl, rfl, rfl, rfl, rfl, rfl, rfl, rfl, rfl, trivial⟩
  -- apart
  have hk2 : 2 ^ k ≤ 2 ^ 4 := Nat.pow_le_pow_right (by decide) (by omega)
  refine tr_cons (trs_asg (x := VL.apart) (d := .int (apartN rs k a d : Nat)) K nmL_inj (lo VL.apart rfl) ((castSum (apartL rs k a d)) ▸ ev_sum Y.G KE hAh rfl Y.gsum Y.bsum (evl_of ((apart_eq rs k a d) ▸ ev_comp (compok_name (x := VL.j) (x0 := VL.x0) (pz := intP fun j => clash rs a d j.toNat) (f := intF fun j => .int (2 ^ j.toNat)) hAh K nmL_inj
    (cap_mk (cl := [("step", L + 3), ("rulers", L + 1), ("first", L + 4)]) (l := [(VL.first, .int a), (VL.rulers, .list (rs.map rulD)), (VL.step, .int d)]) rfl ?_ ?_ rfl ⟨rfl, rfl, rfl, trivial⟩ ⟨⟨rfl, rfl, rfl, _, rfl⟩, ⟨rfl, rfl, rfl, _, rfl⟩, ⟨rfl, rfl, rfl, _, rfl⟩, trivial⟩)
    (src_rangeP hAh (ev_range Y.G KE rfl Y.gr Y.br (ev_name kk VL.k rfl)) (by decide) (by decide) (by omega) (by omega) (n := k) (by split <;> omega) (by omega)) (fun _ => rfl) (by decide) rfl ?_ ?_ ?_)))) ?_)
  · decide
  · decide
  · intro dd; cases dd <;> trivial
  · intro C' dd hdd Kc
    rw [upFrom_ints] at hdd
    obtain ⟨j, hjm, rfl⟩ := List.mem_map.mp hdd
    have hj : j < k := List.mem_range.mp hjm
    have hkl : k < rs.length := (List.getElem?_eq_some_iff.mp hr).1
    obtain ⟨r', hr'⟩ : ∃ r', rs[j]? = some r' := ⟨_, List.getElem?_eq_getElem (by omega)⟩
    have hrul' : (rs.map rulD)[(j : Int).toNat]? = some (rulD r') := by rw [Int.toNat_natCast, List.getElem?_map, hr']; rfl
    have hg' : 0 < Nat.gcd d r'.2 := Nat.gcd_pos_of_pos_left _ hd.1
    have hcl : (((a : Int) - r'.1).fmod (Nat.gcd d r'.2 : Nat) != 0) = intP (fun j => clash rs a d j.toNat) (.int (j : Int)) := by
      show _ = clash rs a d (j : Int).toNat
      rw [Int.toNat_natCast]; unfold clash; rw [hr']
    rw [← hcl]
    exact tstl_one (tst_int (ev_opi (ev_opi (ev_name Kc.kind VL.first rfl) (ev_titem (ds := [.int r'.1, .int r'.2, .list (intsD (marksOf r'.1 r'.2))]) (ev_item (evl_of (ev_name Kc.kind VL.rulers rfl)) (ev_name Kc.kind VL.j rfl) (by omega) (by omega) hrul') ev_int (by decide) (by decide) rfl) op_sub)
      (ev_fcall Y.G Kc.toEnvG hA (specM r'.2 fm) (fun env' => hA.deeper env') rfl gm (by decide) (evs_cons (ev_name Kc.kind VL.step rfl) (evs_cons (ev_titem (ds := [.int r'.1, .int r'.2, .list (intsD (marksOf r'.1 r'.2))]) (ev_item (evl_of (ev_name Kc.kind VL.rulers rfl)) (ev_name Kc.kind VL.j rfl) (by omega) (by omega) hrul') ev_int (by decide) (by decide) rfl) evs_nil))) (op_mod hAh (by omega))))
  · intro C' dd hdd Kc hp
    rw [upFrom_ints] at hdd
    obtain ⟨j, hjm, rfl⟩ := List.mem_map.mp hdd
    have hj : j < k := List.mem_range.mp hjm
    have h2 : Builtin.Int.intBits 2 = 2 := by decide
    exact ev_opi ev_int (ev_name Kc.kind VL.j rfl) (op_pow (n := j) (by rw [h2]; omega))
  show Tr nmL prog w h₀ os A _ false [_] _ _
  generalize hAp : apartN rs k a d = Ap at hfit ⊢
  refine tr_mk (l := innerL tot (rs.map rulD) k d (marksOf a d) W' Ap sd n1 g1 n2 g2) ?_ ⟨rfl, rfl, rfl, rfl, rfl, rfl, rfl, rfl, rfl, rfl, trivial⟩
  have hp2 : (2 : Int) ^ k = ((2 ^ k : Nat) : Int) := by simp
  have hp0 := Nat.two_pow_pos k
  have hlenN : (newSets d Ap k (marksOf a d) sd).length = 2 ^ k := by simp [newSets]
  refine tr_seq (trs_for (x := VL.s) (Post := fun fd σ => fd = .next ∧ ∃ n1' g1' n2' g2', n1' < 2 ^ (k + 1) ∧ n2' < 2 ^ (k + 1) ∧ LeadOk C g1' ∧ ColOk g2' ∧ SubL σ (innerL tot (rs.map rulD) k d (marksOf a d) W' Ap (sd ++ newSets d Ap k (marksOf a d) sd) n1' g1' n2' g2')) K nmL_inj (lo VL.s rfl)
    (src_rangeP hAh (ev_range Y.G KE rfl Y.gr Y.br (hp2 ▸ ev_opi ev_int (ev_name kk VL.k rfl) (op_pow (n := k) (by rw [show Builtin.Int.intBits 2 = 2 from by decide]; omega)))) (by decide) (by decide) (by omega) (by omega) (n := 2 ^ k) (by split <;> omega) (by omega))
    (fun i σ => ∃ n1' g1' n2' g2', n1' ≤ n1 + i ∧ n2' ≤ n2 + i ∧ LeadOk C g1' ∧ ColOk g2' ∧ SubL σ (innerL tot (rs.map rulD) k d (marksOf a d) W' Ap (sd ++ (newSets d Ap k (marksOf a d) sd).take i) n1' g1' n2' g2')) ⟨n1, g1, n2, g2, by omega, by omega, hg1, hg2, rfl, rfl, rfl, rfl, rfl, rfl, rfl, by rw [List.take_zero, List.append_nil]; rfl, rfl, rfl, trivial⟩ ?_ ?_) ?_
  · rintro i dd σ hdd ⟨n1', g1', n2', g2', hn1', hn2', hg1', hg2', hsub⟩
    obtain ⟨hi, rfl⟩ := upFrom_get hdd
    rw [Int.zero_add]
    have hpow : 2 ^ (k + 1) = 2 * 2 ^ k := by rw [Nat.pow_succ, Nat.mul_comm]
    have hx : ∃ x, sd[i]? = some x := ⟨_, List.getElem?_eq_getElem (by omega)⟩
    obtain ⟨x, hx⟩ := hx
    have hxs := hsm x (List.mem_of_getElem? hx)
    have hgd' : sd.getD i (0, [], 0) = x := by rw [List.getD_eq_getElem?_getD, hx]; rfl
    have hx' : (sd ++ (newSets d Ap k (marksOf a d) sd).take i)[i]? = some x := by rw [List.getElem?_append_left (by omega), hx]
    have hml : (marksOf a d).length ≤ 100 := by
      unfold marksOf
      exact Nat.le_trans (List.length_filter_le _ _) (by simp)
    have T := tr_inner (os := os) Y hA F' tot (rs.map rulD) k d (marksOf a d) W' Ap (sd ++ (newSets d Ap k (marksOf a d) sd).take i) n1' g1' n2' g2' i x hx' (by rw [List.length_append, List.length_take]; omega) (by omega) hd.2 hxs.1 hml hxs.2 (hgd' ▸ hfit i hi) YW (by omega) (by omega) hg1' hg2' (by omega)
    refine tr_mk (l := (VL.s, .im (.int i)) :: innerL tot (rs.map rulD) k d (marksOf a d) W' Ap (sd ++ (newSets d Ap k (marksOf a d) sd).take i) n1' g1' n2' g2') (T.imp ?_) ⟨rfl, ?_⟩
    · rintro fd σ' ⟨rfl, m1, q1, m2, q2, hm1, hm2, hq1, hq2, hs'⟩
      refine ⟨m1, q1, m2, q2, by omega, by omega, hq1, hq2, ?_⟩
      have e : sd ++ (newSets d Ap k (marksOf a d) sd).take i ++ [newSet d Ap i (marksOf a d) x] = sd ++ (newSets d Ap k (marksOf a d) sd).take (i + 1) := by
        rw [List.append_assoc]
        congr 1
        rw [List.take_add_one]
        congr 1
        unfold newSets
        rw [List.getElem?_map, List.getElem?_range (by omega)]
        show _ = [newSet d Ap i (marksOf a d) (sd.getD i (0, [], 0))]
        rw [hgd']
      rw [e] at hs'
      exact hs'
    · obtain ⟨h1, h2, h3, h4, h5, h6, h7, h8, h9, h10, -⟩ := hsub
      exact ⟨h1, h2, h3, h4, h5, h6, h7, h8, h9, h10, trivial⟩
  · rintro σ ⟨n1', g1', n2', g2', hn1', hn2', hg1', hg2', hsub⟩
    rw [upFrom_len] at hn1' hn2' hsub
    rw [List.take_of_length_le (by omega)] at hsub
    have hpow : 2 ^ (k + 1) = 2 * 2 ^ k := by rw [Nat.pow_succ, Nat.mul_comm]
    exact tr_nil ⟨rfl, n1', g1', n2', g2', by omega, by omega, hg1', hg2', hsub⟩
  · rintro fd σ ⟨rfl, n1', g1', n2', g2', hn1', hn2', hg1', hg2', h1, h2, h3, h4, h5, h6, h7, h8, h9, h10, -⟩
    exact tr_nil ⟨rfl, n1', g1', n2', g2', hn1', hn2', hg1', hg2', h1, h2, h6, h8, h9, h10, trivial⟩
end
end Mine

-- L13
namespace Mine
open PySem PySem.Calls PyProof.Rows PySem.W

theorem specP {prog : Program} {w : World} {h₀ : Heap} {mg mb : Str → Option Value} (Y : LawLay prog w h₀ mg mb) {n N : Nat} (hN : N < 2 ^ 60) {ad : Addr} (F : FnAt nmP h₀ ad [.flags] (stScope (topSt 3)) (stBody (topSt 3))) : FnSpec nmP prog w h₀ n ad [.flags] (stScope (topSt 3)) (stBody (topSt 3)) [.int N] (.str (pfS N)) where
  fn := F
  inj := nmP_inj
  nodup := by decide
  len := rfl
  flat := trivial
  run := fun A env os hA FE => by
    obtain ⟨T, gT, tT⟩ := Y.tab
    exact tr_pretty Y.G hA.handled Y.gr Y.br Y.gh Y.bh gT tT FE N hN
theorem specN {prog : Program} {w : World} {h₀ : Heap} {n p : Nat} (hp : p < 32) {ad : Addr} (F : FnAt nmN h₀ ad [.place] (stScope (topSt 10)) (stBody (topSt 10))) : FnSpec nmN prog w h₀ n ad [.place] (stScope (topSt 10)) (stBody (topSt 10)) [.int p] (.str (nameS p)) where
  fn := F
  inj := nmN_inj
  nodup := by decide
  len := rfl
  flat := trivial
  run := fun A env os hA FE => tr_name hA.handled FE p hp

theorem nameS_len : ∀ p, p < 32 → (nameS p).length ≤ 67 := by decide +kernel
theorem evl_eq {V : Type} {nm : V → Str} {prog : Program} {w : World} {h₀ : Heap} {A : Around} {env : Env} {σ : V → Option B} {e : Expr} {ds ds' : List D} (h : EvL nm prog w h₀ A env σ e ds) (hd : ds = ds') : EvL nm prog w h₀ A env σ e ds' := hd ▸ h
theorem ev_eq {V : Type} {nm : V → Str} {prog : Program} {w : World} {h₀ : Heap} {A : Around} {env : Env} {σ : V → Option B} {e : Expr} {d d' : D} (h : Ev nm prog w h₀ A env σ e d) (hd : d = d') : Ev nm prog w h₀ A env σ e d' := hd ▸ h
def bitsN (l : List Nat) : Nat := (l.map fun x => 2 ^ x).sum
def secs : D → List D
  | .tup l => l
  | _ => []
def asI : D → Int
  | .int n => n
  | _ => 0
def sec (i : Nat) (x : D) : Int := asI ((secs x).getD i (.int 0))
def tupP (p : Int → Bool) (x : D) : Bool := p (sec 0 x)
def tupF (g : Int → Int → D) (x : D) : D := g (sec 0 x) (sec 2 x)
def freeZ (W : Nat) (sd : List SetT) : Int := ((sd.filter fun x => x.1 != 0).map fun x => x.2.2 * ((W / x.1 : Nat) : Int)).sum
theorem free_eq (W : Nat) (sd : List SetT) : ((sd.map setD).filter (tupP fun l => l != 0)).map (tupF fun l sg => .int (sg * Int.fdiv W l)) = ((sd.filter fun x => x.1 != 0).map fun x => x.2.2 * ((W / x.1 : Nat) : Int)).map D.int := by
  induction sd with
  | nil => rfl
  | cons x sd ih =>
    obtain ⟨l, c, sg⟩ := x
    show List.map _ (List.filter _ (setD (l, c, sg) :: sd.map setD)) = _
    rw [List.filter_cons, List.filter_cons]
    have e1 : tupP (fun l => l != 0) (setD (l, c, sg)) = (l != 0) := by
      show ((l : Int) != 0) = _
      by_cases h : l = 0
      · subst h; rfl
      · have : ¬ (l : Int) = 0 := by omega
        rw [bne_iff_ne.mpr this, bne_iff_ne.mpr h]
    rw [e1]
    by_cases h : (l != 0) = true
    · rw [if_pos h, if_pos h, List.map_cons, ih, List.map_cons, List.map_cons]
      congr 1
      show D.int (sg * Int.fdiv W l) = D.int (sg * ((W / l : Nat) : Int))
      rw [Int.fdiv_eq_ediv_of_nonneg _ (by omega)]
      norm_cast
    · rw [if_neg h, if_neg h, ih]
theorem bits_eq (l : List Nat) : ((intsD l).filter (fun _ => true)).map (intF fun x => .int (2 ^ x.toNat)) = ((l.map fun x => 2 ^ x).map Int.ofNat).map D.int := by
  rw [List.filter_eq_self.mpr (fun _ _ => rfl)]
  unfold intsD
  rw [List.map_map, List.map_map, List.map_map]
  congr 1
theorem names_eq (l : List Nat) : ((intsD l).filter (fun _ => true)).map (intF fun x => .str (nameS x.toNat)) = (l.map nameS).map D.str := by
  rw [List.filter_eq_self.mpr (fun _ _ => rfl)]
  unfold intsD
  rw [List.map_map, List.map_map]
  congr 1
def seenOf (p k : Nat) (lf : List Nat) : List Nat := (lf.filter fun x => decide (p ≤ x) && decide (x < p + 2 ^ k)).map fun x => x - p
theorem seen_eq (p k : Nat) (lf : List Nat) : ((intsD lf).filter (intP fun x => decide ((p : Int) ≤ x) && decide (x < p + (2 ^ k : Nat)))).map (intF fun x => .int (x - p)) = intsD (seenOf p k lf) := by
  rw [ints_fm]
  unfold seenOf intsD
  rw [List.map_map]
  have e : (lf.filter fun (q : Nat) => decide ((p : Int) ≤ (q : Int)) && decide ((q : Int) < p + (2 ^ k : Nat))) = lf.filter fun x => decide (p ≤ x) && decide (x < p + 2 ^ k) := by
    refine List.filter_congr fun q _ => ?_
    congr 1 <;> (refine decide_eq_decide.mpr ?_; omega)
  rw [e]
  refine List.map_congr_left fun q hq => ?_
  have := (List.mem_filter.mp hq).2
  simp only [Bool.and_eq_true, decide_eq_true_eq] at this
  show D.int ((q : Int) - p) = D.int ((q - p : Nat) : Int)
  congr 1
  omega
theorem left_eq (ms lf : List Nat) : ((intsD lf).filter (intP fun x => !(ms.map Int.ofNat).any (· == x))).map (intF D.int) = intsD (lf.filter fun x => !ms.contains x) := by
  rw [intsD_filter]
  congr 1
  exact List.filter_congr fun q _ => by rw [any_contains]

def threeL (tot : Int) (RL : List D) (W : Nat) (sd : List SetT) (lf : List Nat) : List (VL × B) :=
  [(VL.total, .im (.int tot)), (VL.rulers, .im (.list RL)), (VL.whole, .im (.int W)), (VL.sets, .im (.list (sd.map setD))), (VL.left, .im (.list (intsD lf)))]

section
variable {prog : Program} {w : World} {h₀ : Heap} {os : OsState} {A : Around} {mg mb : Str → Option Value}
theorem tr_three (Y : LawLay prog w h₀ mg mb) {n : Nat} (hA : Ok (n + 6) A) {env : Env} (F : LEnv h₀ env) (tot : Int) (rs : List (Nat × Nat)) (hrs : rs.length ≤ 5) (hro : ∀ r ∈ rs, RulOk r) (k : Nat) (hk : k ≤ rs.length) (W : Nat) (hW : W < 2 ^ 20) (sd : List SetT) (hsl : sd.length ≤ 100)
    (hsm : ∀ x ∈ sd, x.1 < 2 ^ 20 ∧ x.2.2.natAbs ≤ 1) (lf : List Nat) (hlf : lf.length ≤ 32) (hlf2 : ∀ x ∈ lf, x < 32) (hsum : ∀ p, p + 2 ^ k ≤ 32 → pfS (bitsN (seenOf p k lf)) = if freeZ W (sd.take (2 ^ k)) ≠ 0 then Txt.join ", " ((seenOf p k lf).map nameS) else "0x0")
    (hbits : ∀ p, bitsN (seenOf p k lf) < 2 ^ 60) :
    Tr nmL prog w h₀ os A env false (forBody (lawSt 5)) (mkσ ((VL.k, .im (.int k)) :: threeL tot (rs.map rulD) W sd lf))
      fun fd σ => fd = .next ∧ σ VL.free = some (.im (.int (freeZ W (sd.take (2 ^ k))))) ∧ SubL σ (threeL tot (rs.map rulD) W sd (match rs[k]? with | some r => lf.filter fun x => !(marksOf r.1 r.2).contains x | none => lf)) := by
  have F' := F
  obtain ⟨K, hS, hC⟩ := F
  obtain ⟨sc, L, gl, ce, qu, fu, co, fr, bu⟩ := env
  cases hS
  have hC' : ce = cellsFrom (L + 1) (stScope (topSt 13)).names [] := hC
  clear hC
  subst hC'
  have kk := K.kind
  have KE := K.toEnvG
  have hAh := hA.handled
  have lo : ∀ x : VL, (⟨stScope (topSt 13), L, gl, cellsFrom (L + 1) (stScope (topSt 13)).names [], qu, fu, co, fr, bu⟩ : Env).kindOf (nmL x) = some .local → Slot' ⟨stScope (topSt 13), L, gl, cellsFrom (L + 1) (stScope (topSt 13)).names [], qu, fu, co, fr, bu⟩ (nmL x) L := fun x h => .loc h
  obtain ⟨an, gn, fn⟩ := Y.name
  obtain ⟨ap, gp, fp⟩ := Y.pretty
  have hk5 : k ≤ 5 := by omega
  have hk2 : 2 ^ k ≤ 2 ^ 5 := Nat.pow_le_pow_right (by decide) hk5
  have hp2 : (2 : Int) ^ k = ((2 ^ k : Nat) : Int) := by simp
  have hp0 := Nat.two_pow_pos k
  have hb2 : Builtin.Int.intBits 2 = 2 := by decide
  show Tr nmL prog w h₀ os A _ false [_, _, _, _, _] _ _
  -- free
  refine tr_cons (trs_asg (x := VL.free) (d := .int (freeZ W (sd.take (2 ^ k)))) K nmL_inj (lo VL.free rfl) (ev_sum Y.G KE hAh rfl Y.gsum Y.bsum (evl_eq (evl_of (ev_comp (compok_tup (xs := [(VL.length, _), (VL.common, _), (VL.sign, _)]) (x0 := VL.x0) (dss := (sd.take (2 ^ k)).map fun x => [.int x.1, .list (intsD x.2.1), .int x.2.2]) (pz := tupP fun l => l != 0) (f := tupF fun l sg => .int (sg * Int.fdiv W l)) hAh K nmL_inj
    (cap_mk (cl := [("whole", L + 6)]) (l := [(VL.whole, .int W)]) rfl ?_ ?_ rfl ⟨rfl, trivial⟩ ⟨⟨rfl, rfl, rfl, _, rfl⟩, trivial⟩)
    (src_list hAh ?_ ?_) ?_ (by simp) rfl ?_ ?_ (fun _ => rfl) (fun _ => rfl) (fun _ => rfl) ?_ ?_))) ?_)) ?_)
  · decide
  · decide
  · refine ev_eq (ev_upto (n := 2 ^ k) (evl_of (ev_name kk VL.sets rfl)) (hp2 ▸ ev_opi ev_int (ev_name kk VL.k rfl) (op_pow (n := k) (by rw [hb2]; omega))) (by rw [List.length_map]; omega)) ?_
    rw [List.map_map, ← List.map_take]; rfl
  · rw [List.length_map, List.length_map, List.length_take]; omega
  · intro C' x hx
    rcases List.mem_cons.mp hx with rfl | hx
    · rfl
    rcases List.mem_cons.mp hx with rfl | hx
    · rfl
    · rw [List.mem_singleton.mp hx]; rfl
  · exact fun _ => trivial
  · intro ds hds
    obtain ⟨x, _, rfl⟩ := List.mem_map.mp hds
    rfl
  · intro C' ds hds Kc
    obtain ⟨x, _, rfl⟩ := List.mem_map.mp hds
    exact tstl_one (tst_int (ev_name Kc.kind VL.length rfl))
  · intro C' ds hds Kc hp
    obtain ⟨x, hx, rfl⟩ := List.mem_map.mp hds
    have hxs := hsm x (List.mem_of_mem_take hx)
    have hx0 : (x.1 : Int) ≠ 0 := by
      have : ((x.1 : Int) != 0) = true := hp
      simpa using this
    exact ev_opi (ev_name Kc.kind VL.sign rfl) (ev_opi (ev_name Kc.kind VL.whole rfl) (ev_name Kc.kind VL.length rfl) (op_fdiv hAh hx0 (by omega))) (op_mul (IntMulOk.of_left (bits_small (by omega))))
  · rw [List.map_map, ← free_eq]; rfl
  show Tr nmL prog w h₀ os A _ false [_, _, _, _] _ _
  generalize hZ : freeZ W (sd.take (2 ^ k)) = Z at hsum ⊢
  -- spot
  obtain ⟨p, hp, hp33⟩ : ∃ p : Nat, tot.fmod ((33 : Int) - (2 ^ k : Nat)) = p ∧ p + 2 ^ k ≤ 32 := by
    have h1 := Int.fmod_nonneg_of_pos tot (show (0 : Int) < 33 - (2 ^ k : Nat) by omega)
    have h2 := Int.fmod_lt_of_pos tot (show (0 : Int) < 33 - (2 ^ k : Nat) by omega)
    exact ⟨(tot.fmod ((33 : Int) - (2 ^ k : Nat))).toNat, by omega, by omega⟩
  refine tr_cons (trs_asg (x := VL.spot) (d := .int p) K nmL_inj (.cell rfl rfl) (hp ▸ ev_opi (ev_name kk VL.total rfl) (ev_opi ev_int (hp2 ▸ ev_opi ev_int (ev_name kk VL.k rfl) (op_pow (n := k) (by rw [hb2]; omega))) op_sub) (op_mod hAh (by omega))) ?_)
  show Tr nmL prog w h₀ os A _ false [_, _, _] _ _
  refine tr_mk (l := (VL.k, .im (.int k)) :: (VL.free, .im (.int Z)) :: (VL.spot, .im (.int p)) :: threeL tot (rs.map rulD) W sd lf) ?_ ⟨rfl, rfl, rfl, rfl, rfl, rfl, rfl, rfl, trivial⟩
  -- seen
  refine tr_cons (trs_asg_comp (y := VL.seen) (ds := intsD lf) (pz := intP fun x => decide ((p : Int) ≤ x) && decide (x < p + (2 ^ k : Nat))) (f := intF fun x => .int (x - p)) nmL_inj (compok_name (x := VL.place) (x0 := VL.x0) hAh K nmL_inj (cap_mk (cl := [("spot", L + 7), ("k", L + 2)]) (l := [(VL.spot, .int p), (VL.k, .int k)]) rfl ?_ ?_ rfl ⟨rfl, rfl, trivial⟩ ⟨⟨rfl, rfl, rfl, _, rfl⟩, ⟨rfl, rfl, rfl, _, rfl⟩, trivial⟩) (src_list hAh (ev_name kk VL.left rfl) ?_) (fun _ => rfl) (by decide) rfl ?_ ?_ ?_) rfl ?_)
  · decide
  · decide
  · unfold intsD; rw [List.length_map]; omega
  · intro dd; cases dd <;> trivial
  · intro C' dd hdd Kc
    obtain ⟨q, hq, rfl⟩ := List.mem_map.mp hdd
    exact tstl_one (tst_chain2 (ev_name Kc.kind VL.spot rfl) (ev_name Kc.kind VL.place rfl) (ev_opi (ev_name Kc.kind VL.spot rfl) (hp2 ▸ ev_opi ev_int (ev_name Kc.kind VL.k rfl) (op_pow (n := k) (by rw [hb2]; omega))) op_add) cmp_le cmp_lt rfl)
  · intro C' dd hdd Kc hp
    obtain ⟨q, hq, rfl⟩ := List.mem_map.mp hdd
    exact ev_opi (ev_name Kc.kind VL.place rfl) (ev_name Kc.kind VL.spot rfl) op_sub
  rw [seen_eq]
  show Tr nmL prog w h₀ os A _ false [_, _] _ _
  have hsp := hsum p (by omega)
  have hbt := hbits p
  have hsl' : (seenOf p k lf).length ≤ 32 := by
    unfold seenOf; rw [List.length_map]; exact Nat.le_trans (List.length_filter_le _ _) hlf
  have hs32 : ∀ q ∈ seenOf p k lf, q < 32 := by
    intro q hq
    unfold seenOf at hq
    obtain ⟨x, hx, rfl⟩ := List.mem_map.mp hq
    have := hlf2 x (List.mem_filter.mp hx).1
    omega
  generalize seenOf p k lf = sn at hsp hbt hsl' hs32
  refine tr_mk (l := (VL.seen, .ol (intsD sn)) :: (VL.k, .im (.int k)) :: (VL.free, .im (.int Z)) :: threeL tot (rs.map rulD) W sd lf) ?_ ⟨rfl, rfl, rfl, rfl, rfl, rfl, rfl, rfl, trivial⟩
  refine tr_freeze VL.seen rfl ?_
  have hnl : ((sn.map nameS).map (·.length)).sum + (sn.map nameS).length ≤ 1048576 := by
    have h1 : ∀ y ∈ sn.map nameS, y.length ≤ 67 := by
      intro y hy
      obtain ⟨q, hq, rfl⟩ := List.mem_map.mp hy
      exact nameS_len q (hs32 q hq)
    have h2 := sum_le_of _ _ h1
    have h3 : (sn.map nameS).length ≤ 32 := by rw [List.length_map]; exact hsl'
    have h4 : (sn.map nameS).length * 67 ≤ 32 * 67 := Nat.mul_le_mul_right _ h3
    omega
  refine tr_cons (trs_if (tst_cmp (x := .str (pfS (bitsN sn))) (y := .str (if Z ≠ 0 then Txt.join ", " (sn.map nameS) else "0x0")) (ev_fcall (n := n + 5) Y.G KE hA (specP Y hbt fp) (fun env' => hA.deeper env') rfl gp (by decide) (evs_cons (ev_eq (ev_sum Y.G KE hAh rfl Y.gsum Y.bsum (evl_eq (evl_of (ev_comp (compok_name (x := VL.place) (x0 := VL.x0) (ds := intsD sn) (pz := fun _ => true) (f := intF fun x => .int (2 ^ x.toNat)) hAh K nmL_inj (cap_mk (cl := []) (l := []) rfl ?_ ?_ rfl trivial trivial) (src_list hAh (ev_name kk VL.seen rfl) ?_) (fun _ => rfl) (by decide) rfl ?_ ?_ ?_))) (bits_eq sn))) (congrArg D.int (castSum _))) evs_nil))
    (ev_ifexp (tst_int (ev_name kk VL.free rfl)) (fun hz => ?_) (fun hz => ?_)) cmp_nes rfl) (fun hb => ?_) (fun hb => tr_nil ?_))
  · decide
  · decide
  · unfold intsD; rw [List.length_map]; omega
  · intro dd; cases dd <;> trivial
  · intro C' dd hdd Kc
    exact tstl_nil
  · intro C' dd hdd Kc _
    obtain ⟨q, hq, rfl⟩ := List.mem_map.mp hdd
    have := hs32 q hq
    exact ev_opi ev_int (ev_name Kc.kind VL.place rfl) (op_pow (n := q) (by rw [hb2]; omega))
  · have hz' : Z ≠ 0 := by simpa using hz
    rw [if_pos hz']
    refine ev_join (evl_eq (evl_of (ev_comp (compok_name (x := VL.place) (x0 := VL.x0) (ds := intsD sn) (pz := fun _ => true) (f := intF fun x => .str (nameS x.toNat)) hAh K nmL_inj (cap_mk (cl := []) (l := []) rfl ?_ ?_ rfl trivial trivial) (src_list hAh (ev_name kk VL.seen rfl) ?_) (fun _ => rfl) (by decide) rfl ?_ ?_ ?_))) (names_eq sn)) (by decide) hnl
    · decide
    · decide
    · unfold intsD; rw [List.length_map]; omega
    · intro dd; cases dd <;> trivial
    · intro C' dd hdd Kc
      exact tstl_nil
    · intro C' dd hdd Kc _
      obtain ⟨q, hq, rfl⟩ := List.mem_map.mp hdd
      exact ev_fcall (n := n + 5) Y.G Kc.toEnvG hA (specN (hs32 q hq) fn) (fun env' => hA.deeper env') rfl gn (by decide) (evs_cons (ev_name Kc.kind VL.place rfl) evs_nil)
  · have hz' : ¬ Z ≠ 0 := by simpa using hz
    rw [if_neg hz']
    exact ev_str
  · exfalso
    rw [hsp] at hb
    simp at hb
  show Tr nmL prog w h₀ os A _ false [_] _ _
  refine tr_mk (l := (VL.k, .im (.int k)) :: (VL.free, .im (.int Z)) :: threeL tot (rs.map rulD) W sd lf) ?_ ⟨rfl, rfl, rfl, rfl, rfl, rfl, rfl, trivial⟩
  refine tr_cons (trs_if (tst_cmp (ev_name kk VL.k rfl) (ev_len (ds := rs.map rulD) Y.G KE rfl Y.gl Y.bl (evl_of (ev_name kk VL.rulers rfl)) (by rw [List.length_map]; omega)) cmp_lt rfl) (fun hb => ?_) (fun hb => tr_nil ?_))
  · have hkl : k < rs.length := by have := of_decide_eq_true hb; rw [List.length_map] at this; omega
    obtain ⟨r, hr⟩ : ∃ r, rs[k]? = some r := ⟨_, List.getElem?_eq_getElem hkl⟩
    rw [hr]
    have hrul : (rs.map rulD)[(k : Int).toNat]? = some (rulD r) := by rw [Int.toNat_natCast, List.getElem?_map, hr]; rfl
    show Tr nmL prog w h₀ os A _ false [_] _ _
    refine tr_cons (trs_asg_comp (y := VL.left) (ds := intsD lf) (pz := intP fun x => !((marksOf r.1 r.2).map Int.ofNat).any (· == x)) (f := intF D.int) nmL_inj (compok_name (x := VL.place) (x0 := VL.x0) hAh K nmL_inj (cap_mk (cl := [("rulers", L + 1), ("k", L + 2)]) (l := [(VL.rulers, .list (rs.map rulD)), (VL.k, .int k)]) rfl ?_ ?_ rfl ⟨rfl, rfl, trivial⟩ ⟨⟨rfl, rfl, rfl, _, rfl⟩, ⟨rfl, rfl, rfl, _, rfl⟩, trivial⟩) (src_list hAh (ev_name kk VL.left rfl) ?_) (fun _ => rfl) (by decide) rfl ?_ ?_ ?_) rfl ?_)
    · decide
    · decide
    · unfold intsD; rw [List.length_map]; omega
    · intro dd; cases dd <;> trivial
    · intro C' dd hdd Kc
      obtain ⟨q, hq, rfl⟩ := List.mem_map.mp hdd
      exact tstl_one (tst_notin (ns := (marksOf r.1 r.2).map Int.ofNat) (ev_name Kc.kind VL.place rfl) (evl_eq (evl_of (ev_titem (ds := [.int r.1, .int r.2, .list (intsD (marksOf r.1 r.2))]) (ev_item (evl_of (ev_name Kc.kind VL.rulers rfl)) (ev_name Kc.kind VL.k rfl) (by omega) (by omega) hrul) ev_int (by decide) (by decide) rfl)) (intsD_eq _).symm) rfl)
    · intro C' dd hdd Kc _
      obtain ⟨q, hq, rfl⟩ := List.mem_map.mp hdd
      exact ev_name Kc.kind VL.place rfl
    rw [left_eq]
    refine tr_freeze VL.left rfl ?_
    exact tr_nil (tr_nil ⟨rfl, rfl, rfl, rfl, rfl, rfl, rfl, trivial⟩)
  · have hkl : ¬ k < rs.length := by have := of_decide_eq_false hb; rw [List.length_map] at this; omega
    have hr : rs[k]? = none := List.getElem?_eq_none (by omega)
    rw [hr]
    exact tr_nil ⟨rfl, rfl, rfl, rfl, rfl, rfl, rfl, trivial⟩
end
end Mine

-- L14
namespace Mine
open PySem PySem.Calls PyProof.Rows PySem.W

def rulF (g : Int → Int → D) (x : D) : D := g (sec 0 x) (sec 1 x)
def gapsOf (rs : List (Nat × Nat)) (p : Int) : List Int := rs.map fun r => (p + 1 - r.1).fmod r.2
def namedOf (rs : List (Nat × Nat)) : List Nat := (List.range 32).filter fun p => !(gapsOf rs p).any (· == 0)
theorem gaps_eq (rs : List (Nat × Nat)) (p : Int) : ((rs.map rulD).filter (fun _ => true)).map (rulF fun a d => .int ((p + 1 - a).fmod d)) = (gapsOf rs p).map D.int := by
  rw [List.filter_eq_self.mpr (fun _ _ => rfl)]
  unfold gapsOf
  rw [List.map_map, List.map_map]
  congr 1
theorem named_eq (rs : List (Nat × Nat)) : ((upFrom 0 32).filter (intP fun p => !(gapsOf rs p).any (· == 0))).map (intF fun x => .str (nameS x.toNat)) = ((namedOf rs).map nameS).map D.str := by
  rw [upFrom_ints, ints_fm]
  unfold namedOf
  rw [List.map_map]
  congr 1
def hexZ (Z : Nat) : Str := baseText "0x" 16 (Z * 2 ^ 32 : Nat)
def lastS (rs : List (Nat × Nat)) (Z : Nat) : Str := Txt.join ", " ((namedOf rs).map nameS ++ if Z ≠ 0 then [hexZ Z] else [])

section
variable {prog : Program} {w : World} {h₀ : Heap} {os : OsState} {A : Around} {mg mb : Str → Option Value}
theorem tr_last (Y : LawLay prog w h₀ mg mb) {n : Nat} (hA : Ok (n + 6) A) {env : Env} (F : LEnv h₀ env) (rs : List (Nat × Nat)) (hrs : rs.length ≤ 5) (hro : ∀ r ∈ rs, RulOk r) (Z : Nat) (hZ : Z ≤ 20000) (lf : List Nat) (hlf : lf.length ≤ 32) (hlf2 : ∀ x ∈ lf, x < 32) (hb60 : bitsN lf + Z * 2 ^ 32 < 2 ^ 60)
    (hlast : pfS (bitsN lf + Z * 2 ^ 32) = if (lastS rs Z).length = 0 then Str.ofString "0x0" else lastS rs Z) :
    Tr nmL prog w h₀ os A env false [lawSt 6, lawSt 7, lawSt 8] (mkσ [(VL.rulers, .im (.list (rs.map rulD))), (VL.free, .im (.int Z)), (VL.left, .im (.list (intsD lf)))]) fun fd _ => fd = .ret (.bool true) := by
  have F' := F
  obtain ⟨K, hS, hC⟩ := F
  obtain ⟨sc, L, gl, ce, qu, fu, co, fr, bu⟩ := env
  cases hS
  have hC' : ce = cellsFrom (L + 1) (stScope (topSt 13)).names [] := hC
  clear hC
  subst hC'
  have kk := K.kind
  have KE := K.toEnvG
  have hAh := hA.handled
  obtain ⟨an, gn, fn⟩ := Y.name
  obtain ⟨ap, gp, fp⟩ := Y.pretty
  have hb2 : Builtin.Int.intBits 2 = 2 := by decide
  refine tr_cons (trs_asg_comp1 (y := VL.named) (tx := VL.place) (x0 := VL.x0) (ds := upFrom 0 32) (pz := intP fun p => !(gapsOf rs p).any (· == 0)) (f := intF fun x => .str (nameS x.toNat)) nmL_inj hAh K (cap1_mk (cl := [("rulers", L + 1)]) (l := [(VL.rulers, .list (rs.map rulD))]) rfl ?_ (fun _ => rfl) (fun _ => rfl) rfl ⟨rfl, trivial⟩ ⟨⟨rfl, rfl, rfl, _, rfl⟩, trivial⟩ rfl rfl)
    (src_rangeP hAh (ev_range Y.G KE rfl Y.gr Y.br ev_int) (by decide) (by decide) (by decide) (by decide) (n := 32) (by decide) (by decide)) rfl (by decide) ?_ ?_ ?_ rfl ?_ (fun _ => rfl))
  · decide
  · intro dd; cases dd <;> trivial
  · intro C' q dd hdd Kc
    rw [upFrom_ints] at hdd
    obtain ⟨p, hp, rfl⟩ := List.mem_map.mp hdd
    refine tstl_one (tst_notin (ns := gapsOf rs p) ev_int (evl_eq (evl_of (ev_comp (compok_tup (xs := [(VL.first, _), (VL.step, _), (VL.marks, _)]) (x0 := VL.x0) (dss := rs.map fun r => [.int r.1, .int r.2, .list (intsD (marksOf r.1 r.2))]) (pz := fun _ => true) (f := rulF fun a d => .int (((p : Int) + 1 - a).fmod d)) hAh Kc nmL_inj
      (cap_mk (cl := [("place", q)]) (l := [(VL.place, .int p)]) rfl ?_ ?_ rfl ⟨rfl, trivial⟩ ⟨⟨rfl, rfl, rfl, _, rfl⟩, trivial⟩) (src_list hAh (ev_eq (ev_name Kc.kind VL.rulers rfl) ?_) ?_) ?_ (by simp) rfl ?_ ?_ (fun _ => rfl) (fun _ => rfl) (fun _ => rfl) ?_ ?_))) ?_) rfl)
    · decide
    · decide
    · rw [List.map_map]; rfl
    · rw [List.length_map, List.length_map]; omega
    · intro C'' x hx
      rcases List.mem_cons.mp hx with rfl | hx
      · rfl
      rcases List.mem_cons.mp hx with rfl | hx
      · rfl
      · rw [List.mem_singleton.mp hx]; rfl
    · exact fun _ => trivial
    · intro ds hds
      obtain ⟨r, _, rfl⟩ := List.mem_map.mp hds
      rfl
    · intro C'' ds hds Kc'
      exact tstl_nil
    · intro C'' ds hds Kc' _
      obtain ⟨r, hr, rfl⟩ := List.mem_map.mp hds
      have hd := stepL_pos r.2 (hro r hr).1
      exact ev_opi (ev_opi (ev_opi (ev_name Kc'.kind VL.place rfl) ev_int op_add) (ev_name Kc'.kind VL.first rfl) op_sub) (ev_name Kc'.kind VL.step rfl) (op_mod hAh (by omega))
    · rw [List.map_map, ← gaps_eq]; rfl
  · intro C' q dd hdd Kc hp
    rw [upFrom_ints] at hdd
    obtain ⟨p, hpm, rfl⟩ := List.mem_map.mp hdd
    exact ev_fcall (n := n + 5) Y.G Kc.toEnvG hA (specN (List.mem_range.mp hpm) fn) (fun env' => hA.deeper env') rfl gn (by decide) (evs_cons (ev_name Kc.kind VL.place rfl) evs_nil)
  rw [named_eq]
  show Tr nmL prog w h₀ os A _ false [_, _] _ _
  have hN : ∀ y ∈ (namedOf rs).map nameS, y.length ≤ 67 := by
    intro y hy
    obtain ⟨q, hq, rfl⟩ := List.mem_map.mp hy
    exact nameS_len q (List.mem_range.mp (List.mem_filter.mp hq).1)
  have hNl : ((namedOf rs).map nameS).length ≤ 32 := by
    rw [List.length_map]; unfold namedOf; exact Nat.le_trans (List.length_filter_le _ _) (by simp)
  have h232 : (2 : Int) ^ 32 = ((2 ^ 32 : Nat) : Int) := by decide
  have hz : ((Z : Int) * (2 : Int) ^ 32) = ((Z * 2 ^ 32 : Nat) : Int) := by rw [h232, Int.natCast_mul]
  have hzb : ((Z * 2 ^ 32 : Nat) : Int).natAbs < 18446744073709551616 := by rw [Int.natAbs_natCast]; omega
  have hml : IntMulOk (Z : Int) ((2 : Int) ^ 32) := IntMulOk.of_left (bits_small (by omega))
  refine tr_seq (P := fun fd σ => fd = .next ∧ SubL σ [(VL.free, .im (.int Z)), (VL.left, .im (.list (intsD lf))), (VL.named, .ol (((namedOf rs).map nameS ++ if Z ≠ 0 then [hexZ Z] else []).map D.str))])
    (trs_if (tst_int (ev_name kk VL.free rfl)) (fun hb => ?_) (fun hb => ?_)) ?_
  · have hZ0 : Z ≠ 0 := by
      intro h; subst h; exact absurd hb (by decide)
    show Tr nmL prog w h₀ os A _ false [_] _ _
    refine tr_cons (trs_append K (x := VL.named) (d := .str (hexZ Z)) rfl (ev_hex Y.G KE rfl Y.gh Y.bh (hz ▸ ev_opi (ev_name kk VL.free rfl) (ev_opi ev_int ev_int (op_pow (n := 32) (by rw [hb2]; decide))) (op_mul hml)) (hex_fits hzb)) (by rw [List.length_map]; omega) ?_)
    refine tr_nil ⟨rfl, rfl, rfl, ?_, trivial⟩
    rw [if_pos hZ0, List.map_append]; rfl
  · have hZ0 : ¬ Z ≠ 0 := by
      have : (Z : Int) = 0 := bne_eq_false_iff_eq.mp hb
      omega
    refine tr_nil ⟨rfl, rfl, rfl, ?_, trivial⟩
    rw [if_neg hZ0, List.append_nil]; rfl
  rintro fd σ' ⟨rfl, hsub⟩
  refine tr_mk ?_ hsub
  clear hsub σ'
  show Tr nmL prog w h₀ os A _ false [_] _ _
  have hjl : (((namedOf rs).map nameS ++ if Z ≠ 0 then [hexZ Z] else []).map (·.length)).sum + ((namedOf rs).map nameS ++ if Z ≠ 0 then [hexZ Z] else []).length ≤ 10000 := by
    have h1 : ∀ y ∈ ((namedOf rs).map nameS ++ if Z ≠ 0 then [hexZ Z] else []), y.length ≤ 67 := by
      intro y hy
      rcases List.mem_append.mp hy with h | h
      · exact hN y h
      · split at h
        · rw [List.mem_singleton.mp h]; exact hex_small hzb
        · cases h
    have h2 := sum_le_of _ _ h1
    have h3 : ((namedOf rs).map nameS ++ if Z ≠ 0 then [hexZ Z] else []).length ≤ 33 := by
      rw [List.length_append]; split <;> simp <;> (rw [List.length_map] at hNl; omega)
    have h4 := Nat.mul_le_mul_right 67 h3
    omega
  have hjn : (lastS rs Z).length < 2 ^ 63 := by
    have h1 := StrLaws.join_length_le (Str.ofString ", ") ((namedOf rs).map nameS ++ if Z ≠ 0 then [hexZ Z] else [])
    have h2 : (Str.ofString ", ").length = 2 := by decide
    have h3 : lastS rs Z = Str.join (Str.ofString ", ") ((namedOf rs).map nameS ++ if Z ≠ 0 then [hexZ Z] else []) := StrLaws.glued_eq_join _ _
    rw [h3]
    rw [h2] at h1
    omega
  have hsumE : (((lf.map fun x => 2 ^ x).map Int.ofNat).sum + (Z : Int) * (2 : Int) ^ 32) = ((bitsN lf + Z * 2 ^ 32 : Nat) : Int) := by
    rw [castSum, hz, ← Int.natCast_add]; rfl
  refine tr_cons (trs_ret (d := .bool true) (ev_eq (ev_cmp (x := .str (pfS (bitsN lf + Z * 2 ^ 32))) (y := .str (if (lastS rs Z).length = 0 then Str.ofString "0x0" else lastS rs Z)) (ev_fcall (n := n + 5) Y.G KE hA (specP Y hb60 fp) (fun env' => hA.deeper env') rfl gp (by decide) (evs_cons (ev_eq (ev_opi (ev_sum Y.G KE hAh rfl Y.gsum Y.bsum (evl_eq (evl_of (ev_comp (compok_name (x := VL.place) (x0 := VL.x0) (ds := intsD lf) (pz := fun _ => true) (f := intF fun x => .int (2 ^ x.toNat)) hAh K nmL_inj (cap_mk (cl := []) (l := []) rfl ?_ ?_ rfl trivial trivial) (src_list hAh (ev_name kk VL.left rfl) ?_) (fun _ => rfl) (by decide) rfl ?_ ?_ ?_))) (bits_eq lf))) (ev_opi (ev_name kk VL.free rfl) (ev_opi ev_int ev_int (op_pow (n := 32) (by rw [hb2]; decide))) (op_mul hml)) op_add) (congrArg D.int hsumE)) evs_nil))
    (ev_or (ev_join (evl_name kk VL.named rfl) (by decide) (by omega)) ev_str hjn) cmp_eqs rfl) ?_) rfl)
  · decide
  · decide
  · unfold intsD; rw [List.length_map]; omega
  · intro dd; cases dd <;> trivial
  · intro C' dd hdd Kc
    exact tstl_nil
  · intro C' dd hdd Kc _
    obtain ⟨q, hq, rfl⟩ := List.mem_map.mp hdd
    have := hlf2 q hq
    exact ev_opi ev_int (ev_name Kc.kind VL.place rfl) (op_pow (n := q) (by rw [hb2]; omega))
  · rw [hlast]; exact congrArg D.bool (beq_self_eq_true _)
end
end Mine

-- L15
namespace Mine
open PySem PySem.Calls PyProof.Rows PySem.W

def setsAt (rs : List (Nat × Nat)) : Nat → List SetT
  | 0 => [(1, List.range 32, 1)]
  | k + 1 => match rs[k]? with
    | some r => setsAt rs k ++ newSets r.2 (apartN rs k r.1 r.2) k (marksOf r.1 r.2) (setsAt rs k)
    | none => setsAt rs k
def wholeAt (rs : List (Nat × Nat)) : Nat → Nat
  | 0 => 1
  | k + 1 => match rs[k]? with
    | some r => wholeAt rs k * r.2 / Nat.gcd (wholeAt rs k) r.2
    | none => wholeAt rs k
def leftAt (rs : List (Nat × Nat)) : Nat → List Nat
  | 0 => List.range 32
  | k + 1 => match rs[k]? with
    | some r => (leftAt rs k).filter fun x => !(marksOf r.1 r.2).contains x
    | none => leftAt rs k

structure MathOk (rs : List (Nat × Nat)) : Prop where
  len : ∀ k, k ≤ rs.length → (setsAt rs k).length = 2 ^ k
  small : ∀ k, k ≤ rs.length → ∀ x ∈ setsAt rs k, x.1 < 2 ^ 20 ∧ x.2.1.length ≤ 100 ∧ x.2.2.natAbs ≤ 1
  fit : ∀ k a d, rs[k]? = some (a, d) → ∀ s, s < 2 ^ k → SetFit (newSet d (apartN rs k a d) s (marksOf a d) ((setsAt rs k).getD s (0, [], 0)))
  whole : ∀ k, k ≤ rs.length → 0 < wholeAt rs k ∧ wholeAt rs k < 2 ^ 20
  seen : ∀ k, k ≤ rs.length → ∀ p, p + 2 ^ k ≤ 32 → pfS (bitsN (seenOf p k (leftAt rs k))) = if freeZ (wholeAt rs rs.length) ((setsAt rs rs.length).take (2 ^ k)) ≠ 0 then Txt.join ", " ((seenOf p k (leftAt rs k)).map nameS) else "0x0"
  bits : ∀ k p, bitsN (seenOf p k (leftAt rs k)) < 2 ^ 60
  last : ∃ Z : Nat, freeZ (wholeAt rs rs.length) (setsAt rs rs.length) = Z ∧ Z ≤ 20000 ∧ bitsN (leftAt rs rs.length) + Z * 2 ^ 32 < 2 ^ 60 ∧ pfS (bitsN (leftAt rs rs.length) + Z * 2 ^ 32) = if (lastS rs Z).length = 0 then Str.ofString "0x0" else lastS rs Z
def LawMath : Prop := ∀ rs : List (Nat × Nat), rs.length ≤ 5 → (∀ r ∈ rs, RulOk r) → MathOk rs

theorem hx_of {is : List (TI VL)} (h : ∀ a ∈ is.map (·.x), ∀ b ∈ is.map (·.g), a ≠ b) : ∀ i ∈ is, ∀ j ∈ is, i.x ≠ j.g := fun i hi j hj => h _ (List.mem_map.mpr ⟨i, hi, rfl⟩) _ (List.mem_map.mpr ⟨j, hj, rfl⟩)
theorem leftAt_ok (rs : List (Nat × Nat)) : ∀ k, (leftAt rs k).length ≤ 32 ∧ ∀ x ∈ leftAt rs k, x < 32
  | 0 => ⟨by simp [leftAt], fun x hx => List.mem_range.mp hx⟩
  | k + 1 => by
    have ih := leftAt_ok rs k
    unfold leftAt
    split
    · exact ⟨Nat.le_trans (List.length_filter_le _ _) ih.1, fun x hx => ih.2 x (List.mem_filter.mp hx).1⟩
    · exact ih

section
variable {prog : Program} {w : World} {h₀ : Heap} {os : OsState} {A : Around} {mg mb : Str → Option Value}
theorem tr_law (Y : LawLay prog w h₀ mg mb) {n : Nat} (hA : Ok (n + 6) A) {env : Env} (F : LEnv h₀ env) (hT : ToldSpec prog w h₀ os A env) (MM : LawMath) (ns : List Int) (hns : ns.length ≤ 63) :
    Tr nmL prog w h₀ os A env false (stBody (topSt 13)) (mkσ [(VL.script, .im (.list (ns.map D.int)))]) fun fd _ => fd = .ret (.bool true) := by
  have F' := F
  obtain ⟨K, hS, hC⟩ := F
  obtain ⟨sc, L, gl, ce, qu, fu, co, fr, bu⟩ := env
  cases hS
  have hC' : ce = cellsFrom (L + 1) (stScope (topSt 13)).names [] := hC
  clear hC
  subst hC'
  have kk := K.kind
  have KE := K.toEnvG
  have hAh := hA.handled
  have lo : ∀ x : VL, (⟨stScope (topSt 13), L, gl, cellsFrom (L + 1) (stScope (topSt 13)).names [], qu, fu, co, fr, bu⟩ : Env).kindOf (nmL x) = some .local → Slot' ⟨stScope (topSt 13), L, gl, cellsFrom (L + 1) (stScope (topSt 13)).names [], qu, fu, co, fr, bu⟩ (nmL x) L := fun x h => .loc h
  obtain ⟨KK, C, fI, fL, YW⟩ := Y.ws
  show Tr nmL prog w h₀ os A _ false [_, _, _, _, _, _, _, _, _] _ _
  -- rulers, total
  refine tr_cons (trs_tup (is := [⟨VL.rulers, _, VL.g1, _, .ol []⟩, ⟨VL.total, _, VL.g2, _, .im (.int ns.sum)⟩]) K nmL_inj hAh ?_ (hx_of (show ∀ a ∈ [VL.rulers, VL.total], ∀ b ∈ [VL.g1, VL.g2], a ≠ b from by decide)) (show [VL.g1, VL.g2].Nodup from by decide) ?_ ?_ (by simp) rfl rfl rfl rfl rfl rfl ?_)
  · intro i hi
    rcases List.mem_cons.mp hi with rfl | hi
    · exact ⟨_, .cell rfl rfl⟩
    · rw [List.mem_singleton.mp hi]; exact ⟨_, lo VL.total rfl⟩
  · intro i hi
    rcases List.mem_cons.mp hi with rfl | hi
    · rfl
    · rw [List.mem_singleton.mp hi]; rfl
  · intro i hi
    rcases List.mem_cons.mp hi with rfl | hi
    · exact evo_nil
    · rw [List.mem_singleton.mp hi]; exact ev_sum Y.G KE hAh rfl Y.gsum Y.bsum (evl_of (ev_name kk VL.script rfl))
  generalize ns.sum = tot
  refine tr_mk (l := [(VL.script, .im (.list (ns.map D.int))), (VL.total, .im (.int tot)), (VL.rulers, .ol (([] : List (Nat × Nat)).map rulD))]) ?_ ⟨rfl, rfl, rfl, trivial⟩
  show Tr nmL prog w h₀ os A _ false [_, _, _, _, _, _, _, _] _ _
  -- the first loop
  refine tr_seq (trs_for (x := VL.k) (Post := fun fd σ => fd = .next ∧ ∃ rs : List (Nat × Nat), rs.length ≤ 5 ∧ (∀ r ∈ rs, RulOk r) ∧ SubL σ [(VL.total, .im (.int tot)), (VL.rulers, .ol (rs.map rulD))]) K nmL_inj (.cell rfl rfl)
    (src_rangeP hAh (ev_range Y.G KE rfl Y.gr Y.br ev_int) (by decide) (by decide) (by decide) (by decide) (n := 5) (by decide) (by decide))
    (fun i σ => ∃ rs : List (Nat × Nat), rs.length ≤ i ∧ (∀ r ∈ rs, RulOk r) ∧ SubL σ [(VL.script, .im (.list (ns.map D.int))), (VL.total, .im (.int tot)), (VL.rulers, .ol (rs.map rulD))]) ⟨[], by simp, (fun r hr => nomatch hr), rfl, rfl, rfl, trivial⟩ ?_ ?_) ?_
  · rintro i d σ hd ⟨rs, hrs, hro, h1, h2, h3, -⟩
    obtain ⟨hi, rfl⟩ := upFrom_get hd
    rw [Int.zero_add]
    refine tr_mk (l := [(VL.script, .im (.list (ns.map D.int))), (VL.total, .im (.int tot)), (VL.rulers, .ol (rs.map rulD)), (VL.k, .im (.int i))]) ((tr_one Y hAh F' hT ns hns tot i hi rs hrs hro).imp ?_) ⟨h1, h2, h3, rfl, trivial⟩
    rintro fd σ' ⟨rfl, h⟩
    exact h
  · rintro σ ⟨rs, hrs, hro, h1, h2, h3, -⟩
    exact tr_nil ⟨rfl, rs, hrs, hro, h2, h3, trivial⟩
  rintro fd σ ⟨rfl, rs, hrs, hro, hsub⟩
  have mo := MM rs hrs hro
  refine tr_mk ?_ hsub
  clear hsub σ
  refine tr_freeze VL.rulers rfl ?_
  refine tr_mk (l := [(VL.total, .im (.int tot)), (VL.rulers, .im (.list (rs.map rulD)))]) ?_ ⟨rfl, rfl, trivial⟩
  show Tr nmL prog w h₀ os A _ false [_, _, _, _, _, _, _] _ _
  -- whole, sets, leads, columns
  refine tr_cons (trs_tup (is := [⟨VL.whole, _, VL.g1, _, .im (.int 1)⟩, ⟨VL.sets, _, VL.g2, _, .ol ((setsAt rs 0).map setD)⟩, ⟨VL.leads, _, VL.g3, _, .od 0 fun _ => none⟩, ⟨VL.columns, _, VL.g4, _, .od 0 fun _ => none⟩]) K nmL_inj hAh ?_
    (hx_of (show ∀ a ∈ [VL.whole, VL.sets, VL.leads, VL.columns], ∀ b ∈ [VL.g1, VL.g2, VL.g3, VL.g4], a ≠ b from by decide)) (show [VL.g1, VL.g2, VL.g3, VL.g4].Nodup from by decide) ?_ ?_ (by simp) rfl rfl rfl rfl rfl rfl ?_)
  · intro i hi
    rcases List.mem_cons.mp hi with rfl | hi
    · exact ⟨_, .cell rfl rfl⟩
    rcases List.mem_cons.mp hi with rfl | hi
    · exact ⟨_, lo VL.sets rfl⟩
    rcases List.mem_cons.mp hi with rfl | hi
    · exact ⟨_, lo VL.leads rfl⟩
    · rw [List.mem_singleton.mp hi]; exact ⟨_, lo VL.columns rfl⟩
  · intro i hi
    rcases List.mem_cons.mp hi with rfl | hi
    · rfl
    rcases List.mem_cons.mp hi with rfl | hi
    · rfl
    rcases List.mem_cons.mp hi with rfl | hi
    · rfl
    · rw [List.mem_singleton.mp hi]; rfl
  · intro i hi
    rcases List.mem_cons.mp hi with rfl | hi
    · exact ev_int
    rcases List.mem_cons.mp hi with rfl | hi
    · exact evo_list (os := os) (evs_cons (ev_tup (evs_cons ev_int (evs_cons (ev_eq (ev_listrange (n := 32) Y.G KE hAh rfl Y.gli Y.bli (ev_range Y.G KE rfl Y.gr Y.br ev_int) (by decide)) (by rw [upFrom_ints])) (evs_cons ev_int evs_nil))) (by simp)) evs_nil) (by simp [setsAt])
    rcases List.mem_cons.mp hi with rfl | hi
    · exact evo_dict
    · rw [List.mem_singleton.mp hi]; exact evo_dict
  refine tr_mk (l := outerL tot (rs.map rulD) (wholeAt rs 0) (setsAt rs 0) 0 (fun _ => none) 0 (fun _ => none)) ?_ ⟨rfl, rfl, rfl, rfl, rfl, rfl, trivial⟩
  show Tr nmL prog w h₀ os A _ false [_, _, _, _, _, _] _ _
  -- the second loop
  refine tr_seq (trs_for (x := VL.k) (Post := fun fd σ => fd = .next ∧ ∃ n1 g1 n2 g2, SubL σ (outerL tot (rs.map rulD) (wholeAt rs rs.length) (setsAt rs rs.length) n1 g1 n2 g2)) K nmL_inj (.cell rfl rfl)
    (src_rangeP hAh (ev_range Y.G KE rfl Y.gr Y.br (ev_len (ds := rs.map rulD) Y.G KE rfl Y.gl Y.bl (evl_of (ev_name kk VL.rulers rfl)) (by rw [List.length_map]; omega))) (by decide) (by decide) (by omega) (by rw [List.length_map]; omega) (n := rs.length) (by rw [List.length_map]; split <;> omega) (by omega))
    (fun i σ => ∃ n1 g1 n2 g2, n1 < 2 ^ i ∧ n2 < 2 ^ i ∧ LeadOk C g1 ∧ ColOk g2 ∧ SubL σ (outerL tot (rs.map rulD) (wholeAt rs i) (setsAt rs i) n1 g1 n2 g2)) ⟨0, _, 0, _, by decide, by decide, (fun i d h => nomatch (show (none : Option D) = some d from h)), (fun i d h => nomatch (show (none : Option D) = some d from h)), rfl, rfl, rfl, rfl, rfl, rfl, trivial⟩ ?_ ?_) ?_
  · rintro i d σ hd ⟨n1, g1, n2, g2, hn1, hn2, hg1, hg2, h1, h2, h3, h4, h5, h6, -⟩
    obtain ⟨hi, rfl⟩ := upFrom_get hd
    rw [Int.zero_add]
    obtain ⟨a, dd, hr⟩ : ∃ a dd, rs[i]? = some (a, dd) := ⟨_, _, List.getElem?_eq_getElem hi⟩
    have hw := mo.whole i (by omega)
    refine tr_mk (l := (VL.k, .im (.int i)) :: outerL tot (rs.map rulD) (wholeAt rs i) (setsAt rs i) n1 g1 n2 g2) ((tr_two Y hA F' tot rs hrs hro i a dd (by omega) hr (wholeAt rs i) hw.2 hw.1 (setsAt rs i) (mo.len i (by omega)) n1 g1 n2 g2 YW hn1 hn2 hg1 hg2 (mo.fit i a dd hr) (fun x hx => ⟨(mo.small i (by omega) x hx).1, (mo.small i (by omega) x hx).2.1⟩)).imp ?_) ⟨rfl, h1, h2, h3, h4, h5, h6, trivial⟩
    rintro fd σ' ⟨rfl, m1, q1, m2, q2, hm1, hm2, hq1, hq2, hs'⟩
    refine ⟨m1, q1, m2, q2, hm1, hm2, hq1, hq2, ?_⟩
    have e1 : wholeAt rs (i + 1) = wholeAt rs i * dd / Nat.gcd (wholeAt rs i) dd := by show (match rs[i]? with | some r => _ | none => _) = _; rw [hr]
    have e2 : setsAt rs (i + 1) = setsAt rs i ++ newSets dd (apartN rs i a dd) i (marksOf a dd) (setsAt rs i) := by show (match rs[i]? with | some r => _ | none => _) = _; rw [hr]
    rw [e1, e2]
    exact hs'
  · rintro σ ⟨n1, g1, n2, g2, hn1, hn2, hg1, hg2, hs⟩
    rw [upFrom_len] at hs
    exact tr_nil ⟨rfl, n1, g1, n2, g2, hs⟩
  rintro fd σ ⟨rfl, n1, g1, n2, g2, hs⟩
  refine tr_mk ?_ hs
  clear hs σ
  have hsmall := mo.small rs.length (Nat.le_refl _)
  have hslen := mo.len rs.length (Nat.le_refl _)
  have hp5 : 2 ^ rs.length ≤ 2 ^ 5 := Nat.pow_le_pow_right (by decide) hrs
  refine tr_freeze VL.sets rfl ?_
  show Tr nmL prog w h₀ os A _ false [_, _, _, _, _] _ _
  refine tr_cons (trs_asg (x := VL.left) (d := .list (intsD (leftAt rs 0))) K nmL_inj (lo VL.left rfl) (ev_eq (ev_listrange (n := 32) Y.G KE hAh rfl Y.gli Y.bli (ev_range Y.G KE rfl Y.gr Y.br ev_int) (by decide)) (by rw [upFrom_ints]; rfl)) ?_)
  show Tr nmL prog w h₀ os A _ false [_, _, _, _] _ _
  refine tr_mk (l := threeL tot (rs.map rulD) (wholeAt rs rs.length) (setsAt rs rs.length) (leftAt rs 0)) ?_ ⟨rfl, rfl, rfl, rfl, rfl, trivial⟩
  -- the third loop
  obtain ⟨Z, hZ, hZ2, hZ3, hZ4⟩ := mo.last
  refine tr_seq (trs_for (x := VL.k) (Post := fun fd σ => fd = .next ∧ σ VL.free = some (.im (.int Z)) ∧ SubL σ (threeL tot (rs.map rulD) (wholeAt rs rs.length) (setsAt rs rs.length) (leftAt rs rs.length))) K nmL_inj (.cell rfl rfl)
    (src_rangeP hAh (ev_range Y.G KE rfl Y.gr Y.br (ev_opi (ev_len (ds := rs.map rulD) Y.G KE rfl Y.gl Y.bl (evl_of (ev_name kk VL.rulers rfl)) (by rw [List.length_map]; omega)) ev_int op_add)) (by decide) (by decide) (by omega) (by rw [List.length_map]; omega) (n := rs.length + 1) (by rw [List.length_map]; split <;> omega) (by omega))
    (fun i σ => (∀ j, i = j + 1 → σ VL.free = some (.im (.int (freeZ (wholeAt rs rs.length) ((setsAt rs rs.length).take (2 ^ j)))))) ∧ SubL σ (threeL tot (rs.map rulD) (wholeAt rs rs.length) (setsAt rs rs.length) (leftAt rs i))) ⟨(fun j h => nomatch h), rfl, rfl, rfl, rfl, rfl, trivial⟩ ?_ ?_) ?_
  · rintro i d σ hd ⟨-, h1, h2, h3, h4, h5, -⟩
    obtain ⟨hi, rfl⟩ := upFrom_get hd
    rw [Int.zero_add]
    have hl := leftAt_ok rs i
    refine tr_mk (l := (VL.k, .im (.int i)) :: threeL tot (rs.map rulD) (wholeAt rs rs.length) (setsAt rs rs.length) (leftAt rs i)) ((tr_three Y hA F' tot rs hrs hro i (by omega) (wholeAt rs rs.length) (mo.whole _ (Nat.le_refl _)).2 (setsAt rs rs.length) (by omega) (fun x hx => ⟨(hsmall x hx).1, (hsmall x hx).2.2⟩) (leftAt rs i) hl.1 hl.2 (mo.seen i (by omega)) (mo.bits i)).imp ?_) ⟨rfl, h1, h2, h3, h4, h5, trivial⟩
    rintro fd σ' ⟨rfl, hf, hs'⟩
    refine ⟨fun j hj => ?_, hs'⟩
    have : i = j := by omega
    subst this
    exact hf
  · rintro σ ⟨hf, hs⟩
    rw [upFrom_len] at hf hs
    have hf' := hf _ rfl
    rw [List.take_of_length_le (by omega), hZ] at hf'
    have e : leftAt rs (rs.length + 1) = leftAt rs rs.length := by
      show (match rs[rs.length]? with | some r => _ | none => _) = _
      rw [List.getElem?_eq_none (Nat.le_refl _)]
    rw [e] at hs
    exact tr_nil ⟨rfl, hf', hs⟩
  rintro fd σ ⟨rfl, hf, h1, h2, h3, h4, h5, -⟩
  have hl := leftAt_ok rs rs.length
  exact tr_mk (l := [(VL.rulers, .im (.list (rs.map rulD))), (VL.free, .im (.int Z)), (VL.left, .im (.list (intsD (leftAt rs rs.length))))]) (tr_last Y hA F' rs hrs hro Z hZ2 (leftAt rs rs.length) hl.1 hl.2 hZ3 hZ4) ⟨h2, hf, h5, trivial⟩
end
end Mine

-- P1
namespace Mine

/-- u (x + 1) - w * u x, again and again -/
def Dq (u : Int → Int) (w : Int) : Int → Int := fun x => u (x + 1) - w * u x
def Ds : List Int → (Int → Int) → Int → Int
  | [], u => u
  | w :: ws, u => Ds ws (Dq u w)
theorem Ds_add (u v : Int → Int) : ∀ (ws : List Int) , Ds ws (fun x => u x + v x) = fun x => Ds ws u x + Ds ws v x := by
  intro ws
  induction ws generalizing u v with
  | nil => rfl
  | cons w ws ih =>
    show Ds ws (Dq (fun x => u x + v x) w) = _
    have : Dq (fun x => u x + v x) w = fun x => Dq u w x + Dq v w x := by
      funext x; unfold Dq; dsimp only; rw [Int.mul_add]; omega
    rw [this, ih]; rfl
theorem Ds_smul (c : Int) (u : Int → Int) : ∀ (ws : List Int), Ds ws (fun x => c * u x) = fun x => c * Ds ws u x := by
  intro ws
  induction ws generalizing u with
  | nil => rfl
  | cons w ws ih =>
    show Ds ws (Dq (fun x => c * u x) w) = _
    have : Dq (fun x => c * u x) w = fun x => c * Dq u w x := by
      funext x; unfold Dq; rw [Int.mul_sub, Int.mul_left_comm w c]
    rw [this, ih]; rfl
theorem Ds_comm (u : Int → Int) (w : Int) : ∀ ws : List Int, Ds ws (Dq u w) = Dq (Ds ws u) w := by
  intro ws
  induction ws generalizing u with
  | nil => rfl
  | cons w' ws ih =>
    show Ds ws (Dq (Dq u w) w') = Dq (Ds ws (Dq u w')) w
    have : Dq (Dq u w) w' = Dq (Dq u w') w := by
      funext x; unfold Dq
      rw [Int.mul_sub, Int.mul_sub, Int.mul_left_comm w' w]; omega
    rw [this, ih]
theorem Ds_append (u : Int → Int) (ws' : List Int) : ∀ ws : List Int, Ds (ws ++ ws') u = Ds ws' (Ds ws u) := by
  intro ws
  induction ws generalizing u with
  | nil => rfl
  | cons w ws ih => show Ds (ws ++ ws') (Dq u w) = _; rw [ih]; rfl
def Zer (p : Int) (u : Int → Int) : Prop := ∀ x, p ∣ u x
theorem Zer.Ds {p : Int} : ∀ (ws : List Int) {u : Int → Int}, Zer p u → Zer p (Ds ws u)
  | [], _, h => h
  | w :: ws, u, h => Zer.Ds ws (u := Dq u w) fun x => Int.dvd_sub (h _) (Int.dvd_mul_of_dvd_right (h x))
theorem Ds_swap (u : Int → Int) (ws' : List Int) : ∀ ws : List Int, Ds ws' (Ds ws u) = Ds ws (Ds ws' u) := by
  intro ws
  induction ws generalizing u with
  | nil => rfl
  | cons w ws ih => show Ds ws' (Ds ws (Dq u w)) = Ds ws (Dq (Ds ws' u) w); rw [ih, Ds_comm]
/-- sums -/
theorem kill_add {p : Int} {u v : Int → Int} {ws ws' : List Int} (hu : Zer p (Ds ws u)) (hv : Zer p (Ds ws' v)) : Zer p (Ds (ws ++ ws') fun x => u x + v x) := by
  rw [Ds_append, Ds_add, Ds_add]
  intro x
  refine Int.dvd_add (Zer.Ds ws' hu x) ?_
  rw [Ds_swap]
  exact Zer.Ds ws hv x
/-- congruent sequences -/
theorem kill_congr {p : Int} {u v : Int → Int} {ws : List Int} (h : ∀ x, p ∣ u x - v x) (hv : Zer p (Ds ws v)) : Zer p (Ds ws u) := by
  have e : u = fun x => (u x - v x) + v x := by funext x; omega
  rw [e, Ds_add]
  intro x
  exact Int.dvd_add (Zer.Ds ws (u := fun x => u x - v x) h x) (hv x)
/-- times an exponential -/
theorem kill_mul {p v : Int} {g : Int → Int} (hg : ∀ x, p ∣ g (x + 1) - v * g x) : ∀ (ws : List Int) (u : Int → Int), Zer p (Ds ws u) → Zer p (Ds (ws.map fun w => w * v) fun x => g x * u x)
  | [], u, h => fun x => Int.dvd_mul_of_dvd_right (h x)
  | w :: ws, u, h => by
    show Zer p (Ds (ws.map fun w => w * v) (Dq (fun x => g x * u x) (w * v)))
    refine kill_congr (v := fun x => v * (g x * Dq u w x)) (fun x => ?_) ?_
    · have e : Dq (fun x => g x * u x) (w * v) x - v * (g x * Dq u w x) = (g (x + 1) - v * g x) * u (x + 1) := by
        unfold Dq
        dsimp only
        rw [Int.sub_mul, Int.mul_sub, Int.mul_sub]
        have h1 : w * v * (g x * u x) = v * (g x * (w * u x)) := by
          rw [Int.mul_comm w v, Int.mul_assoc, Int.mul_left_comm w (g x)]
        have h2 : v * (g x * u (x + 1)) = v * g x * u (x + 1) := (Int.mul_assoc _ _ _).symm
        rw [h1, h2]; omega
      rw [e]
      exact Int.dvd_mul_of_dvd_left (hg x)
    · rw [Ds_smul]
      intro x
      exact Int.dvd_mul_of_dvd_right (kill_mul hg ws (Dq u w) h x)
/-- nought on as many places as there are factors: nought everywhere -/
theorem kill_all {p : Int} : ∀ (ws : List Int) (u : Int → Int), (∀ w ∈ ws, ∀ z : Int, p ∣ w * z → p ∣ z) → Zer p (Ds ws u) → ∀ q : Int, (∀ i : Nat, i < ws.length → p ∣ u (q + i)) → Zer p u
  | [], u, _, h, _, _ => h
  | w :: ws, u, hw, h, q, hq => by
    have h1 : Zer p (Dq u w) := kill_all ws (Dq u w) (fun w' hw' => hw w' (.tail _ hw')) h q fun i hi => by
      unfold Dq
      refine Int.dvd_sub ?_ (Int.dvd_mul_of_dvd_right (hq i (by simp; omega)))
      have := hq (i + 1) (by simp; omega)
      rwa [show q + ((i + 1 : Nat) : Int) = q + i + 1 from by omega] at this
    have up : ∀ n : Nat, p ∣ u (q + n) := by
      intro n
      induction n with
      | zero => exact hq 0 (by simp)
      | succ n ih =>
        have h2 := Int.dvd_add (h1 (q + n)) (Int.dvd_mul_of_dvd_right (b := w) ih)
        have e : Dq u w (q + n) + w * u (q + n) = u (q + ((n + 1 : Nat) : Int)) := by
          unfold Dq
          rw [show q + ((n + 1 : Nat) : Int) = q + n + 1 from by omega]; omega
        rwa [e] at h2
    have down : ∀ n : Nat, p ∣ u (q - n) := by
      intro n
      induction n with
      | zero => have := hq 0 (by simp); simpa using this
      | succ n ih =>
        refine hw w (.head _) _ ?_
        have h2 := Int.dvd_sub ih (h1 (q - ((n + 1 : Nat) : Int)))
        have e : u (q - n) - Dq u w (q - ((n + 1 : Nat) : Int)) = w * u (q - ((n + 1 : Nat) : Int)) := by
          unfold Dq
          rw [show q - ((n + 1 : Nat) : Int) + 1 = q - n from by omega]; omega
        rwa [e] at h2
    intro x
    rcases Int.le_total q x with hx | hx
    · have := up (x - q).toNat
      rwa [show q + ((x - q).toNat : Int) = x from by omega] at this
    · have := down (q - x).toNat
      rwa [show q - ((q - x).toNat : Int) = x from by omega] at this
end Mine

-- P2m
namespace Mine

def PP : Nat := 20161
theorem PP_small : ∀ m, m < 143 → 2 ≤ m → PP % m ≠ 0 := by decide +kernel
theorem PP_cop (r : Nat) (hr : r < PP) (h0 : 0 < r) : Nat.gcd r PP = 1 := by
  have hg : Nat.gcd r PP ∣ PP := Nat.gcd_dvd_right _ _
  have hgr : Nat.gcd r PP ≤ r := Nat.gcd_le_left _ h0
  have hg0 : 0 < Nat.gcd r PP := Nat.gcd_pos_of_pos_left _ h0
  generalize Nat.gcd r PP = g at hg hgr hg0
  obtain ⟨k, hk⟩ := hg
  have hP : PP = 20161 := rfl
  by_cases h1 : g = 1
  · exact h1
  exfalso
  by_cases h2 : g < 143
  · exact PP_small g h2 (by omega) (by rw [hk]; exact Nat.mul_mod_right _ _)
  · have hk2 : 2 ≤ k := by
      rcases k with _ | _ | k
      · omega
      · omega
      · omega
    have hk3 : k < 143 := by
      rcases Nat.lt_or_ge k 143 with h | h
      · exact h
      · have := Nat.mul_le_mul (show 143 ≤ g by omega) h
        omega
    exact PP_small k hk3 hk2 (by rw [hk]; exact Nat.mul_mod_left _ _)
theorem PP_prime {a b : Int} (h : (PP : Int) ∣ a * b) : (PP : Int) ∣ a ∨ (PP : Int) ∣ b := by
  by_cases ha : (PP : Int) ∣ a
  · exact .inl ha
  · right
    have hnat : PP ∣ a.natAbs * b.natAbs := by
      have := Int.natAbs_dvd_natAbs.mpr h
      rwa [Int.natAbs_natCast, Int.natAbs_mul] at this
    have hr : 0 < a.natAbs % PP := by
      rcases Nat.eq_zero_or_pos (a.natAbs % PP) with h0 | h0
      · exfalso
        have h1 : PP ∣ a.natAbs := Nat.dvd_of_mod_eq_zero h0
        exact ha (Int.ofNat_dvd_left.mpr h1)
      · exact h0
    have hg : Nat.gcd (a.natAbs % PP) PP = 1 := PP_cop _ (Nat.mod_lt _ (by decide)) hr
    have hc : Nat.Coprime PP a.natAbs := by
      show Nat.gcd PP a.natAbs = 1
      rw [Nat.gcd_rec]; exact hg
    have := Nat.Coprime.dvd_of_dvd_mul_left hc hnat
    exact Int.ofNat_dvd_left.mpr this
/-- an element of order d -/
def rootOf (d : Nat) : Nat := ([(2, 20160), (4, 13291), (8, 15355), (16, 8474), (32, 18774), (3, 13986), (6, 13987), (12, 16655), (5, 12871), (9, 11332), (7, 18008), (24, 1738)].lookup d).getD 0
theorem root_ok : ∀ d ∈ stepL, rootOf d ^ d % PP = 1 ∧ (∀ i, i < d → 0 < i → rootOf d ^ i % PP ≠ 1) ∧ 0 < rootOf d ∧ rootOf d < PP := by decide +kernel
/-- the place x's factor for the ruler (a, d) -/
def expo (r : Nat × Nat) (x : Int) : Nat := ((x + 1 - r.1) % (r.2 : Int)).toNat
def gF (r : Nat × Nat) (x : Int) : Int := ((rootOf r.2 ^ expo r x : Nat) : Int)
end Mine

-- P3
namespace Mine

theorem pow_mod_one {v d : Nat} (h : v ^ d % PP = 1) : (PP : Int) ∣ ((v ^ d : Nat) : Int) - 1 := by
  have : ((v ^ d : Nat) : Int) - 1 = ((PP * (v ^ d / PP) : Nat) : Int) := by
    have := Nat.div_add_mod (v ^ d) PP
    omega
  rw [this]
  exact ⟨((v ^ d / PP : Nat) : Int), by rw [Int.natCast_mul]⟩
theorem expo_lt {r : Nat × Nat} (hd : 0 < r.2) (x : Int) : expo r x < r.2 := by
  unfold expo
  have h1 := Int.emod_nonneg (x + 1 - r.1) (show (r.2 : Int) ≠ 0 by omega)
  have h2 := Int.emod_lt_of_pos (x + 1 - r.1) (show (0 : Int) < r.2 by omega)
  omega
theorem expo_step {r : Nat × Nat} (hd : 0 < r.2) (x : Int) : expo r (x + 1) = if expo r x + 1 = r.2 then 0 else expo r x + 1 := by
  unfold expo
  have h1 := Int.emod_nonneg (x + 1 - r.1) (show (r.2 : Int) ≠ 0 by omega)
  have h2 := Int.emod_lt_of_pos (x + 1 - r.1) (show (0 : Int) < r.2 by omega)
  have e : (x + 1 + 1 - r.1) % (r.2 : Int) = ((x + 1 - r.1) % (r.2 : Int) + 1) % (r.2 : Int) := by
    rw [Int.emod_add_emod]; congr 1; omega
  rw [e]
  generalize (x + 1 - r.1) % (r.2 : Int) = m at h1 h2
  by_cases h : m.toNat + 1 = r.2
  · rw [if_pos h]
    have : m + 1 = r.2 := by omega
    rw [this, Int.emod_self]; rfl
  · rw [if_neg h, Int.emod_eq_of_lt (by omega) (by omega)]
    omega
theorem gF_step {r : Nat × Nat} (hd : r.2 ∈ stepL) (x : Int) : (PP : Int) ∣ gF r (x + 1) - (rootOf r.2 : Int) * gF r x := by
  have hp := (stepL_pos r.2 hd).1
  unfold gF
  rw [expo_step hp]
  by_cases h : expo r x + 1 = r.2
  · rw [if_pos h]
    have h1 := pow_mod_one (root_ok r.2 hd).1
    have e : (rootOf r.2 : Int) * ((rootOf r.2 ^ expo r x : Nat) : Int) = ((rootOf r.2 ^ r.2 : Nat) : Int) := by
      rw [← Int.natCast_mul]
      congr 1
      rw [← Nat.pow_succ', Nat.succ_eq_add_one, h]
    rw [e, Nat.pow_zero]
    have := Int.dvd_neg.mpr h1
    rwa [show -(((rootOf r.2 ^ r.2 : Nat) : Int) - 1) = ((1 : Nat) : Int) - ((rootOf r.2 ^ r.2 : Nat) : Int) from by omega] at this
  · rw [if_neg h, Nat.pow_succ', Int.natCast_mul, Int.sub_self]
    exact Int.dvd_zero _
end Mine

-- P4
namespace Mine

def onR (r : Nat × Nat) (x : Int) : Bool := (x + 1 - r.1) % (r.2 : Int) == 0
theorem gF_one {r : Nat × Nat} (hd : r.2 ∈ stepL) (x : Int) : (PP : Int) ∣ 1 - gF r x ↔ onR r x = true := by
  have hp := (stepL_pos r.2 hd).1
  have hr := root_ok r.2 hd
  have he := expo_lt hp x
  have hon : onR r x = true ↔ expo r x = 0 := by
    unfold onR expo
    have h1 := Int.emod_nonneg (x + 1 - r.1) (show (r.2 : Int) ≠ 0 by omega)
    rw [beq_iff_eq]
    omega
  rw [hon]
  constructor
  · intro h
    rcases Nat.eq_zero_or_pos (expo r x) with h0 | h0
    · exact h0
    · exfalso
      refine hr.2.1 _ he h0 ?_
      unfold gF at h
      obtain ⟨c, hc⟩ := h
      have hv : ((rootOf r.2 ^ expo r x : Nat) : Int) % (PP : Int) = 1 := by
        have : ((rootOf r.2 ^ expo r x : Nat) : Int) = 1 + (PP : Int) * (-c) := by rw [Int.mul_neg, ← hc]; omega
        rw [this, Int.add_mul_emod_self_left]; decide
      have h9 : ((rootOf r.2 ^ expo r x % PP : Nat) : Int) = 1 := by rw [Int.natCast_emod]; exact hv
      exact Int.ofNat.inj h9
  · intro h
    unfold gF
    rw [h, Nat.pow_zero]
    exact ⟨0, by simp⟩
/-- the product over the rulers -/
def prodF (rs : List (Nat × Nat)) (x : Int) : Int := match rs with
  | [] => 1
  | r :: rs => (1 - gF r x) * prodF rs x
def unitsF : List (Nat × Nat) → List Int
  | [] => [1]
  | r :: rs => unitsF rs ++ (unitsF rs).map fun w => w * (rootOf r.2 : Int)
theorem unitsF_len : ∀ rs : List (Nat × Nat), (unitsF rs).length = 2 ^ rs.length
  | [] => rfl
  | r :: rs => by
    unfold unitsF
    rw [List.length_append, List.length_map, unitsF_len rs, List.length_cons, Nat.pow_succ]; omega
theorem prodF_zero : ∀ {rs : List (Nat × Nat)}, (∀ r ∈ rs, r.2 ∈ stepL) → ∀ x, (PP : Int) ∣ prodF rs x ↔ ∃ r ∈ rs, onR r x = true
  | [], _, x => by
    constructor
    · intro h; exact absurd (show (PP : Int) ∣ 1 from h) (by decide)
    · rintro ⟨_, h, _⟩; cases h
  | r :: rs, h, x => by
    have ih := prodF_zero (rs := rs) (fun r hr => h r (.tail _ hr)) x
    have h1 := gF_one (h r (.head _)) x
    constructor
    · intro hd
      rcases PP_prime hd with h2 | h2
      · exact ⟨r, .head _, h1.mp h2⟩
      · obtain ⟨r', hr', ho⟩ := ih.mp h2
        exact ⟨r', .tail _ hr', ho⟩
    · rintro ⟨r', hr', ho⟩
      show (PP : Int) ∣ (1 - gF r x) * prodF rs x
      rcases List.mem_cons.mp hr' with rfl | hr'
      · exact Int.dvd_mul_of_dvd_left (h1.mpr ho)
      · exact Int.dvd_mul_of_dvd_right (ih.mpr ⟨r', hr', ho⟩)
theorem unitsF_unit : ∀ {rs : List (Nat × Nat)}, (∀ r ∈ rs, r.2 ∈ stepL) → ∀ w ∈ unitsF rs, ∀ z : Int, (PP : Int) ∣ w * z → (PP : Int) ∣ z
  | [], _, w, hw, z, h => by
    rw [List.mem_singleton.mp hw, Int.one_mul] at h; exact h
  | r :: rs, h, w, hw, z, hz => by
    have ih := unitsF_unit (rs := rs) fun r hr => h r (.tail _ hr)
    rcases List.mem_append.mp hw with h' | h'
    · exact ih w h' z hz
    · obtain ⟨w', hw', rfl⟩ := List.mem_map.mp h'
      have hr := root_ok r.2 (h r (.head _))
      rw [Int.mul_assoc] at hz
      have h2 := ih w' hw' _ hz
      rcases PP_prime h2 with h3 | h3
      · exfalso
        have := Int.natCast_dvd_natCast.mp h3
        have := Nat.le_of_dvd hr.2.2.1 this
        omega
      · exact h3
theorem prodF_kill : ∀ {rs : List (Nat × Nat)}, (∀ r ∈ rs, r.2 ∈ stepL) → Zer PP (Ds (unitsF rs) (prodF rs))
  | [], _ => fun x => ⟨0, by show (1 : Int) - 1 * 1 = _; rfl⟩
  | r :: rs, h => by
    have ih := prodF_kill (rs := rs) fun r hr => h r (.tail _ hr)
    have e : prodF (r :: rs) = fun x => prodF rs x + (-1) * (gF r x * prodF rs x) := by
      funext x
      show (1 - gF r x) * prodF rs x = _
      rw [Int.sub_mul, Int.one_mul]; omega
    rw [e]
    refine kill_add ih ?_
    rw [Ds_smul]
    intro x
    exact Int.dvd_mul_of_dvd_right (kill_mul (gF_step (h r (.head _))) (unitsF rs) (prodF rs) ih x)
/-- Crittenden and Vanden Eynden -/
theorem cve {rs : List (Nat × Nat)} (h : ∀ r ∈ rs, r.2 ∈ stepL) (q : Int) (hq : ∀ i : Nat, i < 2 ^ rs.length → ∃ r ∈ rs, onR r (q + i) = true) (x : Int) : ∃ r ∈ rs, onR r x = true := by
  refine (prodF_zero h x).mp (kill_all (unitsF rs) (prodF rs) (unitsF_unit h) (prodF_kill h) q (fun i hi => ?_) x)
  rw [unitsF_len] at hi
  exact (prodF_zero h _).mpr (hq i hi)
end Mine

-- P7
namespace Mine
def bq (m : Nat) (q : Nat → Bool) : Nat := bitsN ((List.range m).filter q)
theorem bitsN_append (a b : List Nat) : bitsN (a ++ b) = bitsN a + bitsN b := by unfold bitsN; rw [List.map_append, List.sum_append]
theorem bq_succ (m : Nat) (q : Nat → Bool) : bq (m + 1) q = bq m q + if q m then 2 ^ m else 0 := by
  unfold bq
  rw [List.range_succ, List.filter_append, bitsN_append]
  cases h : q m <;> simp [h, bitsN]
theorem bq_lt (q : Nat → Bool) : ∀ m, bq m q < 2 ^ m
  | 0 => by simp [bq, bitsN]
  | m + 1 => by
    have := bq_lt q m
    rw [bq_succ, Nat.pow_succ]
    split <;> omega
theorem bq_bit (q : Nat → Bool) (j : Nat) : ∀ m, (bq m q).testBit j = (decide (j < m) && q j)
  | 0 => by simp [bq, bitsN]
  | m + 1 => by
    have ih := bq_bit q j m
    have hl := bq_lt q m
    rw [bq_succ]
    cases hq : q m with
    | false =>
      simp only [Bool.false_eq_true, if_false, Nat.add_zero]
      rw [ih]
      by_cases h : j = m
      · subst h; rw [hq]; simp
      · have : (j < m + 1) ↔ (j < m) := by omega
        simp [this]
    | true =>
      simp only [if_true]
      rw [Nat.add_comm]
      by_cases h : j = m
      · subst h
        rw [Nat.testBit_two_pow_add_eq, Nat.testBit_lt_two_pow hl, hq]; simp
      · by_cases h2 : j < m
        · rw [Nat.testBit_two_pow_add_gt h2, ih]
          have : j < m + 1 := by omega
          simp [h2, this]
        · have h3 : ¬ j < m + 1 := by omega
          rw [Nat.testBit_lt_two_pow (Nat.lt_of_lt_of_le (show 2 ^ m + bq m q < 2 ^ (m + 1) by rw [Nat.pow_succ]; omega) (Nat.pow_le_pow_right (by decide) (by omega)))]
          simp [h3]
end Mine

-- P5
namespace Mine

def apartQ (rs : List (Nat × Nat)) (a d : Nat) (k : Nat) : Nat := bq k fun j => clash rs a d j
theorem apartN_eq (rs : List (Nat × Nat)) (k a d : Nat) : apartN rs k a d = bq k fun j => clash rs a d j := rfl
theorem and_zero {s m : Nat} {q : Nat → Bool} : s &&& bq m q = 0 ↔ ∀ j, j < m → s.testBit j = true → q j = false := by
  constructor
  · intro h j hj hs
    have := congrArg (fun x => x.testBit j) h
    simp only [Nat.testBit_and, hs, Bool.true_and, bq_bit, Nat.zero_testBit] at this
    simpa [hj] using this
  · intro h
    refine Nat.eq_of_testBit_eq fun j => ?_
    rw [Nat.testBit_and, bq_bit, Nat.zero_testBit]
    by_cases hj : j < m
    · cases hs : s.testBit j with
      | false => rfl
      | true => rw [h j hj hs]; simp
    · simp [hj]

/-- the rulers that s's bits choose among the first k -/
def sel (rs : List (Nat × Nat)) : Nat → Nat → List (Nat × Nat)
  | 0, _ => []
  | k + 1, s => if s < 2 ^ k then sel rs k s else sel rs k (s - 2 ^ k) ++ (match rs[k]? with | some r => [r] | none => [])
theorem sel_mem (rs : List (Nat × Nat)) (t : Nat × Nat) : ∀ k s, s < 2 ^ k → (t ∈ sel rs k s ↔ ∃ j, j < k ∧ s.testBit j = true ∧ rs[j]? = some t)
  | 0, s, _ => by simp [sel]
  | k + 1, s, hs => by
    unfold sel
    by_cases h : s < 2 ^ k
    · rw [if_pos h, sel_mem rs t k s h]
      constructor
      · rintro ⟨j, h1, h2, h3⟩; exact ⟨j, by omega, h2, h3⟩
      · rintro ⟨j, h1, h2, h3⟩
        refine ⟨j, ?_, h2, h3⟩
        by_cases hj : j = k
        · subst hj; rw [Nat.testBit_lt_two_pow h] at h2; cases h2
        · omega
    · rw [if_neg h]
      have hs' : s - 2 ^ k < 2 ^ k := by rw [Nat.pow_succ] at hs; omega
      have e : s = 2 ^ k + (s - 2 ^ k) := by omega
      rw [List.mem_append, sel_mem rs t k _ hs']
      constructor
      · rintro (⟨j, h1, h2, h3⟩ | h1)
        · refine ⟨j, by omega, ?_, h3⟩
          rw [e, Nat.testBit_two_pow_add_gt h1]; exact h2
        · refine ⟨k, by omega, ?_, ?_⟩
          · rw [e, Nat.testBit_two_pow_add_eq, Nat.testBit_lt_two_pow hs']; rfl
          · cases hr : rs[k]? with
            | none => rw [hr] at h1; cases h1
            | some r => rw [hr] at h1; rw [List.mem_singleton.mp h1]
      · rintro ⟨j, h1, h2, h3⟩
        by_cases hj : j = k
        · subst hj; right; rw [h3]; exact List.mem_singleton.mpr rfl
        · left
          refine ⟨j, by omega, ?_, h3⟩
          rw [e, Nat.testBit_two_pow_add_gt (by omega)] at h2; exact h2
end Mine

-- P6
namespace Mine

def compat (t r : Nat × Nat) : Bool := ((r.1 : Int) - t.1).fmod (Nat.gcd r.2 t.2 : Nat) == 0
def lcmL (T : List (Nat × Nat)) : Nat := T.foldl (fun l r => l * r.2 / Nat.gcd l r.2) 1
def okT : List (Nat × Nat) → Bool
  | [] => true
  | t :: T => T.all (compat t) && okT T
def lenOf (T : List (Nat × Nat)) : Nat := if okT T then lcmL T else 0
def comOf (T : List (Nat × Nat)) : List Nat := (List.range 32).filter fun p => T.all fun r => (marksOf r.1 r.2).contains p
def signOf (T : List (Nat × Nat)) : Int := T.foldl (fun s _ => -s) 1
def setOf (T : List (Nat × Nat)) : SetT := (lenOf T, comOf T, signOf T)
theorem okT_snoc (r : Nat × Nat) : ∀ T, okT (T ++ [r]) = (okT T && T.all fun t => compat t r)
  | [] => rfl
  | t :: T => by
    show (List.all (T ++ [r]) (compat t) && okT (T ++ [r])) = ((T.all (compat t) && okT T) && (compat t r && T.all fun t => compat t r))
    rw [okT_snoc r T, List.all_append]
    simp only [List.all_cons, List.all_nil, Bool.and_true]
    cases T.all (compat t) <;> cases compat t r <;> cases okT T <;> simp
theorem lcmL_snoc (T : List (Nat × Nat)) (r : Nat × Nat) : lcmL (T ++ [r]) = lcmL T * r.2 / Nat.gcd (lcmL T) r.2 := by
  unfold lcmL; rw [List.foldl_append]; rfl
theorem setOf_snoc (rs : List (Nat × Nat)) (k s : Nat) (r : Nat × Nat) (hs : s < 2 ^ k) : setOf (sel rs k s ++ [r]) = newSet r.2 (apartN rs k r.1 r.2) s (marksOf r.1 r.2) (setOf (sel rs k s)) := by
  have hz : (s &&& apartN rs k r.1 r.2 = 0) ↔ (sel rs k s).all (fun t => compat t r) = true := by
    rw [apartN_eq, and_zero, List.all_eq_true]
    constructor
    · intro h t ht
      obtain ⟨j, h1, h2, h3⟩ := (sel_mem rs t k s hs).mp ht
      have := h j h1 h2
      unfold clash at this
      rw [h3] at this
      unfold compat
      simpa using this
    · intro h j h1 h2
      unfold clash
      cases h3 : rs[j]? with
      | none => rfl
      | some t =>
        have := h t ((sel_mem rs t k s hs).mpr ⟨j, h1, h2, h3⟩)
        unfold compat at this
        simpa using this
  unfold newSet setOf
  refine Prod.ext ?_ (Prod.ext ?_ ?_)
  · show lenOf _ = if s &&& _ = 0 then lenOf _ * r.2 / Nat.gcd (lenOf _) r.2 else 0
    unfold lenOf
    rw [okT_snoc, lcmL_snoc]
    by_cases h : (sel rs k s).all (fun t => compat t r) = true
    · rw [if_pos (hz.mpr h), h, Bool.and_true]
      by_cases h2 : okT (sel rs k s) = true
      · rw [if_pos h2, if_pos h2]
      · rw [if_neg h2, if_neg h2]; simp
    · rw [if_neg (fun h' => h (hz.mp h'))]
      rw [Bool.not_eq_true] at h
      rw [h, Bool.and_false]; rfl
  · show comOf _ = (comOf _).filter _
    unfold comOf
    rw [List.filter_filter]
    refine List.filter_congr fun p _ => ?_
    rw [List.all_append, Bool.and_comm]
    simp
  · show signOf _ = - signOf _
    unfold signOf; rw [List.foldl_append]; rfl
end Mine

-- P8
namespace Mine
theorem setsAt_eq (rs : List (Nat × Nat)) : ∀ k, k ≤ rs.length → setsAt rs k = (List.range (2 ^ k)).map fun s => setOf (sel rs k s)
  | 0, _ => rfl
  | k + 1, hk => by
    obtain ⟨r, hr⟩ : ∃ r, rs[k]? = some r := ⟨_, List.getElem?_eq_getElem (by omega)⟩
    have ih := setsAt_eq rs k (by omega)
    have e : setsAt rs (k + 1) = setsAt rs k ++ newSets r.2 (apartN rs k r.1 r.2) k (marksOf r.1 r.2) (setsAt rs k) := by
      show (match rs[k]? with | some r => _ | none => _) = _
      rw [hr]
    have e2 : (2 : Nat) ^ (k + 1) = 2 ^ k + 2 ^ k := by rw [Nat.pow_succ]; omega
    rw [e, e2, List.range_add, List.map_append, List.map_map]
    congr 1
    · rw [ih]
      refine List.map_congr_left fun s hs => ?_
      have := List.mem_range.mp hs
      show setOf (sel rs k s) = setOf (if s < 2 ^ k then _ else _)
      rw [if_pos this]
    · unfold newSets
      refine List.map_congr_left fun s hs => ?_
      have hs' := List.mem_range.mp hs
      have hg : (setsAt rs k).getD s (0, [], 0) = setOf (sel rs k s) := by
        rw [ih, List.getD_eq_getElem?_getD, List.getElem?_map, List.getElem?_range hs']; rfl
      rw [hg, ← setOf_snoc rs k s r hs']
      show _ = setOf (if 2 ^ k + s < 2 ^ k then _ else _)
      rw [if_neg (by omega), hr, Nat.add_sub_cancel_left]
end Mine

-- P9
namespace Mine
theorem marks_on {r : Nat × Nat} (h : RulOk r) {p : Nat} (hp : p < 32) : (marksOf r.1 r.2).contains p = onR r p := by
  have hd := stepL_pos r.2 h.1
  have e : ((p : Int) + 1 - r.1) % (r.2 : Int) = (((p + 1 + r.2 - r.1) % r.2 : Nat) : Int) := by
    have h1 : ((p + 1 + r.2 - r.1 : Nat) : Int) = (p : Int) + 1 - r.1 + r.2 := by have := h.2.2; omega
    rw [Int.natCast_emod, h1, Int.add_emod_right]
  have hb : onR r p = ((p + 1 + r.2 - r.1) % r.2 == 0) := by
    unfold onR
    rw [e]
    by_cases h0 : (p + 1 + r.2 - r.1) % r.2 = 0
    · rw [h0]; rfl
    · have : ¬ (((p + 1 + r.2 - r.1) % r.2 : Nat) : Int) = 0 := by omega
      rw [beq_eq_false_iff_ne.mpr this, beq_eq_false_iff_ne.mpr h0]
  rw [hb]
  unfold marksOf
  cases hq : ((p + 1 + r.2 - r.1) % r.2 == 0) with
  | true => exact List.contains_iff_mem.mpr (List.mem_filter.mpr ⟨List.mem_range.mpr hp, hq⟩)
  | false =>
    rw [← Bool.not_eq_true, List.contains_iff_mem]
    intro hm
    have := (List.mem_filter.mp hm).2
    rw [hq] at this; cases this
end Mine

-- P10
namespace Mine
def divsL : List Nat := [1, 2, 3, 4, 5, 6, 7, 8, 9, 10, 12, 14, 15, 16, 18, 20, 21, 24, 28, 30, 32, 35, 36, 40, 42, 45, 48, 56, 60, 63, 70, 72, 80, 84, 90, 96, 105, 112, 120, 126, 140, 144, 160, 168, 180, 210, 224, 240, 252, 280, 288, 315, 336, 360, 420, 480, 504, 560, 630, 672, 720, 840, 1008, 1120, 1260, 1440, 1680, 2016, 2520, 3360, 5040, 10080]
theorem divs_lcm : ∀ L ∈ divsL, ∀ d ∈ stepL, Nat.lcm L d ∈ divsL := by decide +kernel
theorem divs_gcd : ∀ L ∈ divsL, ∀ d ∈ stepL, ∀ e ∈ stepL, Nat.lcm (Nat.gcd L e) (Nat.gcd d e) % Nat.gcd (Nat.lcm L d) e = 0 := by decide +kernel
theorem solve_small : ∀ d ∈ stepL, ∀ l, l < d → ∀ m, m < d → m % Nat.gcd l d = 0 → ∃ i, i < d ∧ (l * i + m) % d = 0 := by decide +kernel
theorem divs_pos : ∀ L ∈ divsL, 0 < L ∧ L ≤ 10080 ∧ 10080 % L = 0 := by decide +kernel
end Mine

-- P11
namespace Mine
/-- one congruence more -/
theorem solve_one {L d : Nat} (hL : 0 < L) (hd : d ∈ stepL) {x0 c : Int} (h : ((Nat.gcd L d : Nat) : Int) ∣ x0 - c) : ∃ x1, (L : Int) ∣ x1 - x0 ∧ (d : Int) ∣ x1 - c := by
  have hp := stepL_pos d hd
  have hm0 := Int.emod_nonneg (x0 - c) (show (d : Int) ≠ 0 by omega)
  have hm1 := Int.emod_lt_of_pos (x0 - c) (show (0 : Int) < d by omega)
  obtain ⟨m, hm⟩ : ∃ m : Nat, (x0 - c) % (d : Int) = m := ⟨((x0 - c) % (d : Int)).toNat, by omega⟩
  have hgd : ((Nat.gcd L d : Nat) : Int) ∣ (d : Int) := Int.natCast_dvd_natCast.mpr (Nat.gcd_dvd_right _ _)
  have hgm : ((Nat.gcd L d : Nat) : Int) ∣ (m : Int) := by
    rw [← hm]
    have := Int.emod_add_mul_ediv (x0 - c) d
    have e : (x0 - c) % (d : Int) = (x0 - c) - (d : Int) * ((x0 - c) / (d : Int)) := by omega
    rw [e]
    exact Int.dvd_sub h (Int.dvd_mul_of_dvd_left hgd)
  have hgm' : Nat.gcd L d ∣ m := Int.natCast_dvd_natCast.mp hgm
  obtain ⟨i, hi, hi2⟩ := solve_small d hd (L % d) (Nat.mod_lt _ (by omega)) m (by omega) (by
    rw [← Nat.gcd_rec, Nat.gcd_comm]; exact Nat.mod_eq_zero_of_dvd hgm')
  refine ⟨x0 + L * i, ⟨i, by omega⟩, ?_⟩
  have h1 : (d : Int) ∣ ((L % d * i + m : Nat) : Int) := Int.natCast_dvd_natCast.mpr (Nat.dvd_of_mod_eq_zero hi2)
  have h2 : (d : Int) ∣ (x0 - c) - m := by
    rw [← hm]
    have := Int.emod_add_mul_ediv (x0 - c) d
    exact ⟨(x0 - c) / (d : Int), by omega⟩
  have h3 : (d : Int) ∣ ((L : Int) - ((L % d : Nat) : Int)) * i := by
    refine Int.dvd_mul_of_dvd_left ?_
    have := Nat.div_add_mod L d
    exact ⟨((L / d : Nat) : Int), by rw [← Int.natCast_mul]; omega⟩
  have h4 := Int.dvd_add (Int.dvd_add h1 h2) h3
  have e : ((L % d * i + m : Nat) : Int) + ((x0 - c) - m) + ((L : Int) - ((L % d : Nat) : Int)) * i = x0 + L * i - c := by
    rw [Int.sub_mul, Int.natCast_add, Int.natCast_mul]; omega
  rwa [e] at h4
end Mine

-- P12
namespace Mine
theorem onR_iff {r : Nat × Nat} {x : Int} : onR r x = true ↔ (r.2 : Int) ∣ x - ((r.1 : Int) - 1) := by
  unfold onR
  rw [beq_iff_eq, show x + 1 - (r.1 : Int) = x - ((r.1 : Int) - 1) from by omega]
  exact (Int.dvd_iff_emod_eq_zero).symm
theorem compat_iff {t r : Nat × Nat} : compat t r = true ↔ ((Nat.gcd r.2 t.2 : Nat) : Int) ∣ (r.1 : Int) - t.1 := by
  unfold compat
  rw [beq_iff_eq, Int.fmod_eq_emod_of_nonneg _ (by omega)]
  exact (Int.dvd_iff_emod_eq_zero).symm
theorem int_lcm_dvd {m n : Nat} {z : Int} (h1 : (m : Int) ∣ z) (h2 : (n : Int) ∣ z) : ((Nat.lcm m n : Nat) : Int) ∣ z :=
  Int.ofNat_dvd_left.mpr (Nat.lcm_dvd (Int.ofNat_dvd_left.mp h1) (Int.ofNat_dvd_left.mp h2))
theorem int_dvd_of {m n : Nat} {z : Int} (h : m ∣ n) (h1 : (n : Int) ∣ z) : (m : Int) ∣ z := Int.dvd_trans (Int.natCast_dvd_natCast.mpr h) h1

theorem crt : ∀ (T : List (Nat × Nat)) (L : Nat) (x0 : Int), L ∈ divsL → (∀ t ∈ T, t.2 ∈ stepL) → okT T = true → (∀ t ∈ T, ((Nat.gcd L t.2 : Nat) : Int) ∣ x0 - ((t.1 : Int) - 1)) →
    ∃ x1 : Int, ∀ x : Int, ((L : Int) ∣ x - x0 ∧ ∀ t ∈ T, onR t x = true) ↔ ((T.foldl (fun l r => l * r.2 / Nat.gcd l r.2) L : Nat) : Int) ∣ x - x1
  | [], L, x0, _, _, _, _ => ⟨x0, fun x => ⟨fun h => h.1, fun h => ⟨h, fun _ h => nomatch h⟩⟩⟩
  | t :: T, L, x0, hL, hd, hok, hg => by
    have htd := hd t (.head _)
    obtain ⟨x1, h1, h2⟩ := solve_one (divs_pos L hL).1 htd (hg t (.head _))
    unfold okT at hok
    rw [Bool.and_eq_true, List.all_eq_true] at hok
    obtain ⟨x2, h3⟩ := crt T (Nat.lcm L t.2) x1 (divs_lcm L hL t.2 htd) (fun r hr => hd r (.tail _ hr)) hok.2 fun r hr => by
      have hrd := hd r (.tail _ hr)
      refine int_dvd_of (Nat.dvd_of_mod_eq_zero (divs_gcd L hL t.2 htd r.2 hrd)) (int_lcm_dvd ?_ ?_)
      · have a1 : ((Nat.gcd L r.2 : Nat) : Int) ∣ x1 - x0 := int_dvd_of (Nat.gcd_dvd_left _ _) h1
        have a2 := Int.dvd_add a1 (hg r (.tail _ hr))
        rwa [show x1 - x0 + (x0 - ((r.1 : Int) - 1)) = x1 - ((r.1 : Int) - 1) from by omega] at a2
      · have a1 : ((Nat.gcd t.2 r.2 : Nat) : Int) ∣ x1 - ((t.1 : Int) - 1) := int_dvd_of (Nat.gcd_dvd_left _ _) h2
        have a2 := compat_iff.mp (hok.1 r hr)
        rw [Nat.gcd_comm] at a2
        have a3 := Int.dvd_sub a1 a2
        rwa [show x1 - ((t.1 : Int) - 1) - ((r.1 : Int) - t.1) = x1 - ((r.1 : Int) - 1) from by omega] at a3
    refine ⟨x2, fun x => ?_⟩
    rw [List.foldl_cons]
    show _ ↔ ((T.foldl (fun l r => l * r.2 / Nat.gcd l r.2) (Nat.lcm L t.2) : Nat) : Int) ∣ x - x2
    rw [← h3 x]
    constructor
    · rintro ⟨b1, b2⟩
      have b3 := onR_iff.mp (b2 t (.head _))
      refine ⟨int_lcm_dvd ?_ ?_, fun r hr => b2 r (.tail _ hr)⟩
      · have := Int.dvd_sub b1 h1
        rwa [show x - x0 - (x1 - x0) = x - x1 from by omega] at this
      · have := Int.dvd_sub b3 h2
        rwa [show x - ((t.1 : Int) - 1) - (x1 - ((t.1 : Int) - 1)) = x - x1 from by omega] at this
    · rintro ⟨b1, b2⟩
      refine ⟨?_, fun r hr => ?_⟩
      · have := Int.dvd_add (int_dvd_of (Nat.dvd_lcm_left L t.2) b1) h1
        rwa [show x - x1 + (x1 - x0) = x - x0 from by omega] at this
      · rcases List.mem_cons.mp hr with rfl | hr
        · have := Int.dvd_add (int_dvd_of (Nat.dvd_lcm_right L r.2) b1) h2
          rw [show x - x1 + (x1 - ((r.1 : Int) - 1)) = x - ((r.1 : Int) - 1) from by omega] at this
          exact onR_iff.mpr this
        · exact b2 r hr
end Mine

-- P13
namespace Mine
def ind (b : Bool) : Int := if b then 1 else 0
def cnt (W : Nat) (p : Int → Bool) : Int := ((List.range W).map fun (x : Nat) => ind (p (x : Int))).sum
theorem cnt_zero (p : Int → Bool) : cnt 0 p = 0 := rfl
theorem cnt_succ (W : Nat) (p : Int → Bool) : cnt (W + 1) p = cnt W p + ind (p W) := by
  unfold cnt
  rw [List.range_succ, List.map_append, List.sum_append]
  simp
theorem cnt_congr {W : Nat} {p q : Int → Bool} (h : ∀ x, p x = q x) : cnt W p = cnt W q := by
  have : p = q := funext h
  rw [this]
theorem cnt_nonneg (p : Int → Bool) : ∀ W, 0 ≤ cnt W p ∧ cnt W p ≤ W
  | 0 => by simp [cnt]
  | W + 1 => by
    have := cnt_nonneg p W
    rw [cnt_succ]
    unfold ind
    split <;> omega
theorem cnt_false : ∀ W, cnt W (fun _ => false) = 0
  | 0 => rfl
  | W + 1 => by rw [cnt_succ, cnt_false W]; rfl
/-- multiples of L, seen from any place: as many below W as W / L, if L divides W -/
theorem cnt_shift (L : Nat) (p : Int → Bool) (W : Nat) : ∀ n, cnt (W + n) p = cnt W p + cnt n fun x => p (W + x)
  | 0 => by rw [cnt_zero]; show cnt W p = _; omega
  | n + 1 => by
    rw [← Nat.add_assoc, cnt_succ, cnt_shift L p W n, cnt_succ, Int.natCast_add]
    omega
def dv (L : Nat) (c x : Int) : Bool := decide ((L : Int) ∣ x - c)
theorem cnt_one (c : Int) (L : Nat) (hL : 0 < L) : ∀ n, n ≤ L → cnt n (dv L c) = if (c % (L : Int)) < n then 1 else 0
  | 0, _ => by
    have := Int.emod_nonneg c (show (L : Int) ≠ 0 by omega)
    rw [cnt_zero, if_neg (by omega)]
  | n + 1, hn => by
    have h0 := Int.emod_nonneg c (show (L : Int) ≠ 0 by omega)
    have h1 := Int.emod_lt_of_pos c (show (0 : Int) < L by omega)
    rw [cnt_succ, cnt_one c L hL n (by omega)]
    have e : dv L c n = decide (c % (L : Int) = n) := by
      unfold dv
      refine decide_eq_decide.mpr ?_
      have hd := Int.emod_add_mul_ediv c L
      constructor
      · intro ⟨q, hq⟩
        have h2 : ((n : Int)) % (L : Int) = c % (L : Int) := by
          have : (n : Int) = c + L * q := by omega
          rw [this, Int.add_mul_emod_self_left]
        rw [Int.emod_eq_of_lt (by omega) (by omega)] at h2
        exact h2.symm
      · intro h
        exact ⟨-(c / L), by rw [Int.mul_neg]; omega⟩
    rw [e]
    unfold ind
    rw [Int.natCast_add]
    by_cases h2 : c % (L : Int) = n
    · have a1 : ¬ c % (L : Int) < n := by omega
      have a2 : c % (L : Int) < n + (1 : Nat) := by omega
      rw [if_neg a1, if_pos a2, decide_eq_true h2]
      rfl
    · rw [decide_eq_false h2]
      by_cases h3 : c % (L : Int) < n
      · have a2 : c % (L : Int) < n + (1 : Nat) := by omega
        rw [if_pos h3, if_pos a2]; rfl
      · have a2 : ¬ c % (L : Int) < n + (1 : Nat) := by omega
        rw [if_neg h3, if_neg a2]; rfl
theorem cnt_dv (c : Int) (L : Nat) (hL : 0 < L) : ∀ m, cnt (L * m) (dv L c) = m
  | 0 => by rw [Nat.mul_zero, cnt_zero]; rfl
  | m + 1 => by
    rw [Nat.mul_succ, cnt_shift L, cnt_dv c L hL m]
    have e : cnt L (fun x => dv L c ((L * m : Nat) + x)) = cnt L (dv L c) := by
      refine cnt_congr fun x => ?_
      unfold dv
      refine decide_eq_decide.mpr ?_
      have e2 : ((L * m : Nat) : Int) + x - c = (x - c) + L * m := by rw [Int.natCast_mul]; omega
      rw [e2]
      constructor
      · intro h
        have := Int.dvd_sub h (Int.dvd_mul_right (L : Int) m)
        rwa [Int.add_sub_cancel] at this
      · intro h; exact Int.dvd_add h (Int.dvd_mul_right (L : Int) m)
    have h1 := Int.emod_lt_of_pos c (show (0 : Int) < L by omega)
    rw [e, cnt_one c L hL L (Nat.le_refl _), if_pos (by omega)]
    omega

-- the rulers
theorem foldl_mem : ∀ (T : List (Nat × Nat)) (L : Nat), L ∈ divsL → (∀ t ∈ T, t.2 ∈ stepL) → T.foldl (fun l r => l * r.2 / Nat.gcd l r.2) L ∈ divsL
  | [], L, h, _ => h
  | t :: T, L, h, ht => foldl_mem T (Nat.lcm L t.2) (divs_lcm L h t.2 (ht t (.head _))) fun r hr => ht r (.tail _ hr)
theorem lcmL_mem {T : List (Nat × Nat)} (h : ∀ t ∈ T, t.2 ∈ stepL) : lcmL T ∈ divsL := foldl_mem T 1 (by decide) h
theorem foldl_dvd (M : Nat) : ∀ (T : List (Nat × Nat)) (L : Nat), T.foldl (fun l r => l * r.2 / Nat.gcd l r.2) L ∣ M ↔ (L ∣ M ∧ ∀ t ∈ T, t.2 ∣ M)
  | [], L => ⟨fun h => ⟨h, fun _ h => nomatch h⟩, fun h => h.1⟩
  | t :: T, L => by
    show T.foldl _ (Nat.lcm L t.2) ∣ M ↔ _
    rw [foldl_dvd M T (Nat.lcm L t.2), Nat.lcm_dvd_iff]
    constructor
    · rintro ⟨⟨h1, h2⟩, h3⟩
      exact ⟨h1, fun r hr => by rcases List.mem_cons.mp hr with rfl | hr; exact h2; exact h3 r hr⟩
    · rintro ⟨h1, h2⟩
      exact ⟨⟨h1, h2 t (.head _)⟩, fun r hr => h2 r (.tail _ hr)⟩
theorem lcmL_dvd {M : Nat} {T : List (Nat × Nat)} : lcmL T ∣ M ↔ ∀ t ∈ T, t.2 ∣ M := by
  unfold lcmL
  rw [foldl_dvd]
  exact ⟨fun h => h.2, fun h => ⟨Nat.one_dvd _, h⟩⟩
theorem crt1 {T : List (Nat × Nat)} (hd : ∀ t ∈ T, t.2 ∈ stepL) (ho : okT T = true) : ∃ c : Int, ∀ x : Int, (T.all fun t => onR t x) = dv (lcmL T) c x := by
  obtain ⟨c, hc⟩ := crt T 1 0 (by decide) hd ho (fun t _ => by rw [Nat.gcd_one_left]; exact ⟨_, (Int.one_mul _).symm⟩)
  refine ⟨c, fun x => ?_⟩
  have := hc x
  unfold dv
  rw [Bool.eq_iff_iff, List.all_eq_true, decide_eq_true_eq]
  unfold lcmL
  rw [← this]
  exact ⟨fun h => ⟨⟨_, (Int.one_mul _).symm⟩, h⟩, fun h => h.2⟩
theorem on_compat {t r : Nat × Nat} {x : Int} (h1 : onR t x = true) (h2 : onR r x = true) : compat t r = true := by
  rw [onR_iff] at h1 h2
  rw [compat_iff]
  have a1 := int_dvd_of (Nat.gcd_dvd_right r.2 t.2) h1
  have a2 := int_dvd_of (Nat.gcd_dvd_left r.2 t.2) h2
  have := Int.dvd_sub a1 a2
  rwa [show x - ((t.1 : Int) - 1) - (x - ((r.1 : Int) - 1)) = (r.1 : Int) - t.1 from by omega] at this
theorem all_ok {x : Int} : ∀ {T : List (Nat × Nat)}, (∀ t ∈ T, onR t x = true) → okT T = true
  | [], _ => rfl
  | t :: T, h => by
    unfold okT
    rw [Bool.and_eq_true, List.all_eq_true]
    exact ⟨fun r hr => on_compat (h t (.head _)) (h r (.tail _ hr)), all_ok fun r hr => h r (.tail _ hr)⟩
theorem cnt_all {T : List (Nat × Nat)} (hd : ∀ t ∈ T, t.2 ∈ stepL) {W : Nat} (hW : lcmL T ∣ W) : cnt W (fun x => T.all fun t => onR t x) = if lenOf T = 0 then 0 else ((W / lenOf T : Nat) : Int) := by
  have hpos := (divs_pos _ (lcmL_mem hd)).1
  unfold lenOf
  by_cases ho : okT T = true
  · rw [if_pos ho, if_neg (by omega)]
    obtain ⟨c, hc⟩ := crt1 hd ho
    rw [cnt_congr hc]
    obtain ⟨m, rfl⟩ := hW
    rw [cnt_dv c _ hpos, Nat.mul_div_cancel_left _ hpos]
  · rw [if_neg ho, if_pos rfl, ← cnt_false W]
    refine cnt_congr fun x => ?_
    rw [← Bool.not_eq_true]
    intro h
    exact ho (all_ok (List.all_eq_true.mp h))
end Mine

-- P14
namespace Mine
theorem ind_and (a b : Bool) : ind (a && b) = ind a * ind b := by cases a <;> cases b <;> rfl
theorem ind_not (a : Bool) : ind (!a) = 1 - ind a := by cases a <;> rfl
theorem sum_mulr {α : Type} (f : α → Int) (c : Int) (l : List α) : (l.map fun x => f x * c).sum = (l.map f).sum * c := by
  induction l with
  | nil => simp
  | cons x l ih => rw [List.map_cons, List.sum_cons, ih, List.map_cons, List.sum_cons, Int.add_mul]
theorem sum_mull {α : Type} (f : α → Int) (c : Int) (l : List α) : (l.map fun x => c * f x).sum = c * (l.map f).sum := by
  induction l with
  | nil => simp
  | cons x l ih => rw [List.map_cons, List.sum_cons, ih, List.map_cons, List.sum_cons, Int.mul_add]
theorem sum_add {α : Type} (f g : α → Int) (l : List α) : (l.map fun x => f x + g x).sum = (l.map f).sum + (l.map g).sum := by
  induction l with
  | nil => rfl
  | cons x l ih => rw [List.map_cons, List.sum_cons, ih, List.map_cons, List.sum_cons, List.map_cons, List.sum_cons]; omega
theorem sum_swap {α β : Type} (f : α → β → Int) (l : List α) (m : List β) : (l.map fun x => (m.map fun y => f x y).sum).sum = (m.map fun y => (l.map fun x => f x y).sum).sum := by
  induction l with
  | nil => induction m with
    | nil => rfl
    | cons y m ih => rw [List.map_cons, List.sum_cons, ← ih]; rfl
  | cons x l ih =>
    rw [List.map_cons, List.sum_cons, ih, ← sum_add]
    congr 1
theorem sel_lt {rs : List (Nat × Nat)} {k s : Nat} (hs : s < 2 ^ k) : sel rs (k + 1) s = sel rs k s := by
  show (if s < 2 ^ k then _ else _) = _
  rw [if_pos hs]
theorem sel_ge {rs : List (Nat × Nat)} {k s : Nat} {r : Nat × Nat} (hr : rs[k]? = some r) : sel rs (k + 1) (2 ^ k + s) = sel rs k s ++ [r] := by
  show (if 2 ^ k + s < 2 ^ k then _ else _) = _
  rw [if_neg (by omega), hr, Nat.add_sub_cancel_left]
theorem signOf_snoc (T : List (Nat × Nat)) (r : Nat × Nat) : signOf (T ++ [r]) = - signOf T := by
  unfold signOf; rw [List.foldl_append]; rfl
theorem take_snoc {rs : List (Nat × Nat)} {k : Nat} {r : Nat × Nat} (hr : rs[k]? = some r) : rs.take (k + 1) = rs.take k ++ [r] := by
  rw [List.take_add_one, hr]; rfl
/-- in and out, place by place -/
theorem inout (rs : List (Nat × Nat)) (x : Int) : ∀ k, k ≤ rs.length → ((List.range (2 ^ k)).map fun s => signOf (sel rs k s) * ind ((sel rs k s).all fun t => onR t x)).sum = ind ((rs.take k).all fun t => !onR t x)
  | 0, _ => rfl
  | k + 1, hk => by
    obtain ⟨r, hr⟩ : ∃ r, rs[k]? = some r := ⟨_, List.getElem?_eq_getElem (by omega)⟩
    have ih := inout rs x k (by omega)
    have e2 : (2 : Nat) ^ (k + 1) = 2 ^ k + 2 ^ k := by rw [Nat.pow_succ]; omega
    rw [e2, List.range_add, List.map_append, List.map_map, List.sum_append]
    have e3 : ((List.range (2 ^ k)).map fun s => signOf (sel rs (k + 1) s) * ind ((sel rs (k + 1) s).all fun t => onR t x)).sum = ind ((rs.take k).all fun t => !onR t x) := by
      rw [← ih]
      congr 1
      refine List.map_congr_left fun s hs => ?_
      rw [sel_lt (List.mem_range.mp hs)]
    have e4 : ((List.range (2 ^ k)).map ((fun s => signOf (sel rs (k + 1) s) * ind ((sel rs (k + 1) s).all fun t => onR t x)) ∘ fun s => 2 ^ k + s)).sum = ind ((rs.take k).all fun t => !onR t x) * (- ind (onR r x)) := by
      rw [← ih, ← sum_mulr]
      congr 1
      refine List.map_congr_left fun s hs => ?_
      show signOf (sel rs (k + 1) (2 ^ k + s)) * ind ((sel rs (k + 1) (2 ^ k + s)).all fun t => onR t x) = _
      rw [sel_ge hr, signOf_snoc, List.all_append, ind_and]
      have : ind ([r].all fun t => onR t x) = ind (onR r x) := by simp
      rw [this, Int.neg_mul, Int.mul_neg, Int.mul_assoc]
    rw [e3, e4, take_snoc hr, List.all_append, ind_and]
    have : ind ([r].all fun t => !onR t x) = 1 - ind (onR r x) := by rw [← ind_not]; simp
    rw [this, Int.mul_sub, Int.mul_one, Int.mul_neg]
    omega
theorem signOf_abs : ∀ (T : List (Nat × Nat)) (z : Int), z.natAbs ≤ 1 → (T.foldl (fun s _ => -s) z).natAbs ≤ 1
  | [], _, h => h
  | _ :: T, z, h => signOf_abs T (-z) (by omega)
theorem sel_sub {rs : List (Nat × Nat)} {k s : Nat} (hs : s < 2 ^ k) {t : Nat × Nat} (ht : t ∈ sel rs k s) : t ∈ rs := by
  obtain ⟨j, _, _, h⟩ := (sel_mem rs t k s hs).mp ht
  exact List.mem_of_getElem? h
theorem sum_ite {α : Type} (f : α → Int) (p : α → Bool) (l : List α) : ((l.filter p).map f).sum = (l.map fun x => if p x then f x else 0).sum := by
  induction l with
  | nil => rfl
  | cons x l ih =>
    rw [List.filter_cons, List.map_cons, List.sum_cons, ← ih]
    by_cases h : p x = true
    · rw [if_pos h, if_pos h, List.map_cons, List.sum_cons]
    · rw [if_neg h, if_neg h, Int.zero_add]
theorem setsAt_take (rs : List (Nat × Nat)) (k : Nat) : ∀ n, k ≤ n → n ≤ rs.length → (setsAt rs n).take (2 ^ k) = setsAt rs k := by
  intro n hk hn
  have hlen : ∀ m, m ≤ rs.length → (setsAt rs m).length = 2 ^ m := fun m hm => by rw [setsAt_eq rs m hm]; simp
  induction n with
  | zero =>
    have : k = 0 := by omega
    subst this; rfl
  | succ n ih =>
    by_cases h : k = n + 1
    · subst h
      exact List.take_of_length_le (by rw [hlen _ hn]; exact Nat.le_refl _)
    · obtain ⟨r, hr⟩ : ∃ r, rs[n]? = some r := ⟨_, List.getElem?_eq_getElem (by omega)⟩
      have e : setsAt rs (n + 1) = setsAt rs n ++ newSets r.2 (apartN rs n r.1 r.2) n (marksOf r.1 r.2) (setsAt rs n) := by
        show (match rs[n]? with | some r => _ | none => _) = _
        rw [hr]
      rw [e, List.take_append_of_le_length (by rw [hlen n (by omega)]; exact Nat.pow_le_pow_right (by decide) (by omega)), ih (by omega) (by omega)]
/-- what is left of W places in a row, told by in and out -/
theorem free_cnt (rs : List (Nat × Nat)) (hd : ∀ t ∈ rs, t.2 ∈ stepL) {W : Nat} (hW : ∀ t ∈ rs, t.2 ∣ W) (k : Nat) (hk : k ≤ rs.length) : freeZ W (setsAt rs k) = cnt W fun x => (rs.take k).all fun t => !onR t x := by
  have e1 : (cnt W fun x => (rs.take k).all fun t => !onR t x) = ((List.range (2 ^ k)).map fun s => signOf (sel rs k s) * cnt W fun x => (sel rs k s).all fun t => onR t x).sum := by
    unfold cnt
    rw [show ((List.range W).map fun (x : Nat) => ind ((rs.take k).all fun t => !onR t (x : Int))) = ((List.range W).map fun (x : Nat) => ((List.range (2 ^ k)).map fun s => signOf (sel rs k s) * ind ((sel rs k s).all fun t => onR t (x : Int))).sum) from List.map_congr_left fun x _ => (inout rs x k hk).symm]
    rw [sum_swap]
    congr 1
    refine List.map_congr_left fun s _ => ?_
    rw [sum_mull]
  rw [e1, setsAt_eq rs k hk]
  unfold freeZ
  rw [sum_ite, List.map_map]
  congr 1
  refine List.map_congr_left fun s hs => ?_
  have hs' := List.mem_range.mp hs
  have h1 : ∀ t ∈ sel rs k s, t.2 ∈ stepL := fun t ht => hd t (sel_sub hs' ht)
  rw [cnt_all h1 (lcmL_dvd.mpr fun t ht => hW t (sel_sub hs' ht))]
  show (if (lenOf (sel rs k s) != 0) = true then signOf (sel rs k s) * ((W / lenOf (sel rs k s) : Nat) : Int) else 0) = _
  by_cases h : lenOf (sel rs k s) = 0
  · rw [if_pos h, if_neg (by simp [h]), Int.mul_zero]
  · rw [if_neg h, if_pos (by simp [h])]
theorem wholeAt_eq (rs : List (Nat × Nat)) : ∀ k, k ≤ rs.length → wholeAt rs k = lcmL (rs.take k)
  | 0, _ => rfl
  | k + 1, hk => by
    obtain ⟨r, hr⟩ : ∃ r, rs[k]? = some r := ⟨_, List.getElem?_eq_getElem (by omega)⟩
    have e : wholeAt rs (k + 1) = wholeAt rs k * r.2 / Nat.gcd (wholeAt rs k) r.2 := by
      show (match rs[k]? with | some r => _ | none => _) = _
      rw [hr]
    rw [e, wholeAt_eq rs k (by omega), take_snoc hr, lcmL_snoc]
theorem leftAt_eq (rs : List (Nat × Nat)) (hok : ∀ r ∈ rs, RulOk r) : ∀ k, k ≤ rs.length → leftAt rs k = (List.range 32).filter fun (p : Nat) => (rs.take k).all fun t => !onR t (p : Int)
  | 0, _ => (List.filter_eq_self.mpr fun _ _ => rfl).symm
  | k + 1, hk => by
    obtain ⟨r, hr⟩ : ∃ r, rs[k]? = some r := ⟨_, List.getElem?_eq_getElem (by omega)⟩
    have e : leftAt rs (k + 1) = (leftAt rs k).filter fun x => !(marksOf r.1 r.2).contains x := by
      show (match rs[k]? with | some r => _ | none => _) = _
      rw [hr]
    rw [e, leftAt_eq rs hok k (by omega), List.filter_filter]
    refine List.filter_congr fun p hp => ?_
    rw [marks_on (hok r (List.mem_of_getElem? hr)) (List.mem_range.mp hp), take_snoc hr, List.all_append]
    simp [Bool.and_comm]
end Mine

-- P15
namespace Mine
open PySem

theorem div_step (L m : Nat) (hL : 0 < L) : (m + 1) / L = m / L + if L ∣ m + 1 then 1 else 0 := by
  have h1 := Nat.div_add_mod m L
  have h2 := Nat.mod_lt m hL
  by_cases h : m % L + 1 = L
  · have e : m + 1 = L * (m / L + 1) := by rw [Nat.mul_succ]; omega
    rw [if_pos ⟨_, e⟩]
    conv => lhs; rw [e, Nat.mul_div_cancel_left _ hL]
  · have h3 : (m + 1) / L = m / L := by
      have e : m + 1 = (m % L + 1) + L * (m / L) := by omega
      rw [e, Nat.add_mul_div_left _ _ hL, Nat.div_eq_of_lt (by omega), Nat.zero_add]
    have h4 : ¬ L ∣ m + 1 := by
      intro hd
      have e : m + 1 = (m % L + 1) + L * (m / L) := by omega
      have := Nat.mod_eq_zero_of_dvd hd
      rw [e, Nat.add_mul_mod_self_left, Nat.mod_eq_of_lt (by omega)] at this
      omega
    rw [if_neg h4, h3, Nat.add_zero]
theorem mult_len (L : Nat) (hL : 0 < L) : ∀ m, ((List.range (m + 1)).filter fun i => decide (L ∣ i)).length = m / L + 1
  | 0 => by simp [List.range_succ]
  | m + 1 => by
    rw [List.range_succ, List.filter_append, List.length_append, mult_len L hL m, div_step L m hL]
    by_cases h : L ∣ m + 1
    · simp [h]
    · simp [h]
theorem head_of {q : Nat → Bool} {b : Nat} {r : List Nat} : ∀ n, (List.range n).filter q = b :: r → b < n ∧ q b = true ∧ ∀ p, p < b → q p = false := by
  intro n h
  have hm : b ∈ (List.range n).filter q := by rw [h]; exact .head _
  have h1 := List.mem_filter.mp hm
  refine ⟨List.mem_range.mp h1.1, h1.2, fun p hp => ?_⟩
  have hb := List.mem_range.mp h1.1
  cases hq : q p with
  | false => rfl
  | true =>
    exfalso
    have e : List.range n = List.range b ++ (List.range (n - b)).map (b + ·) := by
      have := List.range_add (n := b) (m := n - b)
      rwa [show b + (n - b) = n from by omega] at this
    rw [e, List.filter_append] at h
    have hp2 : p ∈ (List.range b).filter q := List.mem_filter.mpr ⟨List.mem_range.mpr hp, hq⟩
    cases hl : (List.range b).filter q with
    | nil => rw [hl] at hp2; cases hp2
    | cons y l =>
      rw [hl] at h
      have hy : y ∈ (List.range b).filter q := by rw [hl]; exact .head _
      have hyb := List.mem_range.mp (List.mem_filter.mp hy).1
      have : y = b := by injection h
      omega
theorem len_of {q : Nat → Bool} {b L : Nat} {r : List Nat} (hL : 0 < L) (h : (List.range 32).filter q = b :: r) (hq : ∀ i, q (b + i) = decide (L ∣ i)) : ((List.range 32).filter q).length = (31 - b) / L + 1 := by
  obtain ⟨hb, _, hlo⟩ := head_of 32 h
  have e : List.range 32 = List.range b ++ (List.range (31 - b + 1)).map (b + ·) := by
    have := List.range_add (n := b) (m := 31 - b + 1)
    rwa [show b + (31 - b + 1) = 32 from by omega] at this
  rw [e, List.filter_append, List.length_append, List.filter_eq_nil_iff.mpr (fun p hp => by rw [hlo p (List.mem_range.mp hp)]; exact Bool.false_ne_true), List.filter_map, List.length_map, List.length_nil, Nat.zero_add]
  rw [show (q ∘ fun i => b + i) = fun i => decide (L ∣ i) from funext fun i => hq i]
  exact mult_len L hL _
theorem comOf_on {T : List (Nat × Nat)} (h : ∀ t ∈ T, RulOk t) : comOf T = (List.range 32).filter fun (p : Nat) => T.all fun t => onR t (p : Int) := by
  unfold comOf
  refine List.filter_congr fun p hp => ?_
  rw [Bool.eq_iff_iff, List.all_eq_true, List.all_eq_true]
  constructor
  · intro h1 t ht
    have := h1 t ht
    rwa [marks_on (h t ht) (List.mem_range.mp hp)] at this
  · intro h1 t ht
    rw [marks_on (h t ht) (List.mem_range.mp hp)]
    exact h1 t ht
theorem setFit {T : List (Nat × Nat)} (h : ∀ t ∈ T, RulOk t) : SetFit (setOf T) := by
  have hd : ∀ t ∈ T, t.2 ∈ stepL := fun t ht => (h t ht).1
  have hp := divs_pos _ (lcmL_mem hd)
  show comOf T = [] ∨ (0 < lenOf T ∧ lenOf T < 2 ^ 20 ∧ ∃ b r, comOf T = b :: r ∧ b < 32 ∧ (comOf T).length = (31 - b) / lenOf T + 1)
  cases hc : comOf T with
  | nil => exact .inl rfl
  | cons b r =>
    right
    rw [comOf_on h] at hc
    obtain ⟨hb, hqb, _⟩ := head_of 32 hc
    have ho : okT T = true := all_ok (x := (b : Int)) (List.all_eq_true.mp hqb)
    have hl : lenOf T = lcmL T := by unfold lenOf; rw [if_pos ho]
    have h20 : (2 : Nat) ^ 20 = 1048576 := by decide
    rw [hl]
    refine ⟨hp.1, by omega, b, r, rfl, hb, ?_⟩
    rw [← hc]
    obtain ⟨c, hcc⟩ := crt1 hd ho
    refine len_of hp.1 hc fun i => ?_
    have hqb' : dv (lcmL T) c b = true := by rw [← hcc]; exact hqb
    show (T.all fun t => onR t ((b + i : Nat) : Int)) = _
    rw [hcc]
    unfold dv at hqb' ⊢
    rw [decide_eq_true_eq] at hqb'
    refine decide_eq_decide.mpr ?_
    constructor
    · intro h1
      have h2 := Int.dvd_sub h1 hqb'
      rw [show ((b + i : Nat) : Int) - c - (b - c) = (i : Int) from by omega] at h2
      exact Int.natCast_dvd_natCast.mp h2
    · intro h1
      have h2 := Int.dvd_add hqb' (Int.natCast_dvd_natCast.mpr h1)
      rwa [show (b : Int) - c + i = ((b + i : Nat) : Int) - c from by omega] at h2

-- what is seen
theorem seen_list (p n m : Nat) (q : Nat → Bool) : ((((List.range m).filter q).filter fun x => decide (p ≤ x) && decide (x < p + n)).map fun x => x - p) = (List.range (m - p)).filter fun i => decide (i < n) && q (p + i) := by
  rw [List.filter_filter]
  by_cases h : m ≤ p
  · rw [show m - p = 0 from by omega, List.filter_eq_nil_iff.mpr]
    · rfl
    · intro x hx
      have := List.mem_range.mp hx
      rw [decide_eq_false (show ¬ p ≤ x by omega)]; simp
  · have e : List.range m = List.range p ++ (List.range (m - p)).map (p + ·) := by
      have := List.range_add (n := p) (m := m - p)
      rwa [show p + (m - p) = m from by omega] at this
    rw [e, List.filter_append, (List.filter_eq_nil_iff (l := List.range p)).mpr, List.nil_append, List.filter_map, List.map_map]
    · have e1 : ((fun x => x - p) ∘ fun i => p + i) = id := by funext i; show p + i - p = i; omega
      rw [e1, List.map_id]
      refine List.filter_congr fun i _ => ?_
      show ((decide (p ≤ p + i) && decide (p + i < p + n)) && q (p + i)) = _
      rw [decide_eq_true (show p ≤ p + i by omega), Bool.true_and]
      congr 1
      exact decide_eq_decide.mpr (by omega)
    · intro x hx
      have := List.mem_range.mp hx
      rw [decide_eq_false (show ¬ p ≤ x by omega)]; simp
theorem filter_cut {m : Nat} (hm : m ≤ 32) (q : Nat → Bool) : ((List.range 32).filter fun j => decide (j < m) && q j) = (List.range m).filter q := by
  have e : List.range 32 = List.range m ++ (List.range (32 - m)).map (m + ·) := by
    have := List.range_add (n := m) (m := 32 - m)
    rwa [show m + (32 - m) = 32 from by omega] at this
  rw [e, List.filter_append, (List.filter_eq_nil_iff (l := (List.range (32 - m)).map (m + ·))).mpr, List.append_nil]
  · refine List.filter_congr fun j hj => ?_
    rw [decide_eq_true (List.mem_range.mp hj), Bool.true_and]
  · intro x hx
    obtain ⟨i, _, rfl⟩ := List.mem_map.mp hx
    rw [decide_eq_false (show ¬ m + i < m by omega)]; simp
theorem names_bq {m : Nat} (hm : m ≤ 32) (q : Nat → Bool) (Z : Nat) : pfNames (bq m q + Z * 2 ^ 32) 32 = ((List.range m).filter q).map nameS := by
  unfold pfNames
  congr 1
  rw [← filter_cut hm q]
  refine List.filter_congr fun j hj => ?_
  have hj' := List.mem_range.mp hj
  have hlt : bq m q < 2 ^ 32 := Nat.lt_of_lt_of_le (bq_lt q m) (Nat.pow_le_pow_right (by decide) hm)
  rw [Nat.add_comm, Nat.mul_comm, Nat.testBit_two_pow_mul_add _ hlt, if_pos hj', bq_bit]
theorem bq_div {m : Nat} (hm : m ≤ 32) (q : Nat → Bool) (Z : Nat) : (bq m q + Z * 2 ^ 32) / 2 ^ 32 = Z := by
  have hlt : bq m q < 2 ^ 32 := Nat.lt_of_lt_of_le (bq_lt q m) (Nat.pow_le_pow_right (by decide) hm)
  rw [Nat.add_mul_div_right _ _ (by decide), Nat.div_eq_of_lt hlt, Nat.zero_add]
theorem bq_zero {m : Nat} (q : Nat → Bool) : bq m q = 0 ↔ (List.range m).filter q = [] := by
  constructor
  · intro h
    refine List.filter_eq_nil_iff.mpr fun j hj hq => ?_
    have := bq_bit q j m
    rw [h, Nat.zero_testBit, hq, decide_eq_true (List.mem_range.mp hj)] at this
    cases this
  · intro h
    unfold bq
    rw [h]; rfl
theorem pf_low {m : Nat} (hm : m ≤ 32) (q : Nat → Bool) : pfS (bq m q) = if (List.range m).filter q = [] then Str.ofString "0x0" else Txt.join ", " (((List.range m).filter q).map nameS) := by
  have h1 := names_bq hm q 0
  have h2 := bq_div hm q 0
  rw [Nat.zero_mul, Nat.add_zero] at h1 h2
  unfold pfS pfOut
  rw [h1, h2]
  by_cases h : bq m q = 0
  · rw [if_neg (fun h' => h'.2 h), if_pos ((bq_zero q).mp h), (bq_zero q).mp h, h]
    decide +kernel
  · rw [if_pos ⟨rfl, h⟩, if_neg (fun h' => h ((bq_zero q).mpr h'))]
end Mine

-- P16
namespace Mine
open PySem

theorem join_len_pos (s : Str) : ∀ (l : List Str), (∃ x ∈ l, x.length ≠ 0) → (Txt.join s l).length ≠ 0 := by
  intro l ⟨x, hx, h0⟩
  have h1 := PyProof.Rows.len_join_ge_sum s l
  have h2 : ∀ (m : List Nat) (y : Nat), y ∈ m → y ≤ m.sum := by
    intro m
    induction m with
    | nil => intro y hy; cases hy
    | cons z m ih =>
      intro y hy
      rw [List.sum_cons]
      rcases List.mem_cons.mp hy with rfl | hy
      · omega
      · have := ih y hy; omega
  have h3 := h2 (l.map (·.length)) x.length (List.mem_map.mpr ⟨x, hx, rfl⟩)
  omega
theorem cnt_pos {p : Int → Bool} : ∀ (W : Nat) (y : Nat), y < W → p y = true → cnt W p ≠ 0
  | 0, _, h, _ => absurd h (by omega)
  | W + 1, y, h, hp => by
    rw [cnt_succ]
    have h0 := (cnt_nonneg p W).1
    by_cases hy : y = W
    · subst hy
      rw [hp]
      show cnt y p + 1 ≠ 0
      omega
    · have := cnt_pos W y (by omega) hp
      unfold ind
      split <;> omega
theorem onR_mod {t : Nat × Nat} {W x : Nat} (h : t.2 ∣ W) : onR t ((x % W : Nat) : Int) = onR t (x : Int) := by
  rw [Bool.eq_iff_iff, onR_iff, onR_iff]
  have h1 : (t.2 : Int) ∣ (x : Int) - ((x % W : Nat) : Int) := by
    have h2 := Nat.div_add_mod x W
    have h3 : (x : Int) - ((x % W : Nat) : Int) = ((W * (x / W) : Nat) : Int) := by omega
    rw [h3]
    exact Int.natCast_dvd_natCast.mpr (Nat.dvd_trans h (Nat.dvd_mul_right _ _))
  constructor
  · intro h2
    have := Int.dvd_add h1 h2
    rwa [show (x : Int) - ((x % W : Nat) : Int) + (((x % W : Nat) : Int) - ((t.1 : Int) - 1)) = (x : Int) - ((t.1 : Int) - 1) from by omega] at this
  · intro h2
    have := Int.dvd_sub h2 h1
    rwa [show (x : Int) - ((t.1 : Int) - 1) - ((x : Int) - ((x % W : Nat) : Int)) = ((x % W : Nat) : Int) - ((t.1 : Int) - 1) from by omega] at this
theorem named_left (rs : List (Nat × Nat)) : namedOf rs = (List.range 32).filter fun (p : Nat) => rs.all fun t => !onR t (p : Int) := by
  unfold namedOf gapsOf
  refine List.filter_congr fun p _ => ?_
  rw [Bool.eq_iff_iff, Bool.not_eq_true', ← Bool.not_eq_true, List.any_eq_true, List.all_eq_true]
  constructor
  · intro h t ht
    cases ho : onR t (p : Int) with
    | false => rfl
    | true =>
      exfalso
      refine h ⟨_, List.mem_map.mpr ⟨t, ht, rfl⟩, ?_⟩
      unfold onR at ho
      rw [Int.fmod_eq_emod_of_nonneg _ (by omega)]
      exact ho
  · rintro h ⟨x, hx, h0⟩
    obtain ⟨t, ht, rfl⟩ := List.mem_map.mp hx
    have := h t ht
    unfold onR at this
    rw [Int.fmod_eq_emod_of_nonneg _ (by omega)] at h0
    rw [h0] at this
    cases this
theorem hexZ_len (Z : Nat) : (hexZ Z).length ≠ 0 := by
  unfold hexZ baseText
  rw [Str.length_append, Str.length_append]
  have e2 : (Str.ofString "0x").length = 2 := by rw [PyProof.Rows.ofString_len]; rfl
  omega
theorem nameS_pos : ∀ p, p < 32 → (nameS p).length ≠ 0 := by decide +kernel
theorem mathOk : LawMath := by
  intro rs hlen hok
  have hd : ∀ t ∈ rs, t.2 ∈ stepL := fun t ht => (hok t ht).1
  have h20 : (2 : Nat) ^ 20 = 1048576 := by decide
  have hW : wholeAt rs rs.length = lcmL rs := by rw [wholeAt_eq rs _ (Nat.le_refl _), List.take_length]
  have hdW : ∀ t ∈ rs, t.2 ∣ lcmL rs := lcmL_dvd.mp (Nat.dvd_refl _)
  have hWp := divs_pos _ (lcmL_mem hd)
  have hfree : ∀ k, k ≤ rs.length → freeZ (wholeAt rs rs.length) ((setsAt rs rs.length).take (2 ^ k)) = cnt (lcmL rs) fun x => (rs.take k).all fun t => !onR t x := fun k hk => by
    rw [hW, setsAt_take rs k rs.length hk (Nat.le_refl _), free_cnt rs hd hdW k hk]
  constructor
  · intro k hk; rw [setsAt_eq rs k hk]; simp
  · intro k hk x hx
    rw [setsAt_eq rs k hk] at hx
    obtain ⟨s, hs, rfl⟩ := List.mem_map.mp hx
    have hs' := List.mem_range.mp hs
    refine ⟨?_, ?_, signOf_abs _ _ (by decide)⟩
    · show lenOf _ < _
      unfold lenOf
      split
      · have := (divs_pos _ (lcmL_mem (T := sel rs k s) fun t ht => hd t (sel_sub hs' ht))).2.1
        omega
      · omega
    · show (comOf _).length ≤ _
      unfold comOf
      exact Nat.le_trans (List.length_filter_le _ _) (by simp)
  · intro k a d hr s hs
    have hk : k ≤ rs.length := by
      have := (List.getElem?_eq_some_iff.mp hr).1
      omega
    have e : (setsAt rs k).getD s (0, [], 0) = setOf (sel rs k s) := by
      rw [setsAt_eq rs k hk, List.getD_eq_getElem?_getD, List.getElem?_map, List.getElem?_range hs]; rfl
    rw [e, ← setOf_snoc rs k s (a, d) hs]
    refine setFit fun t ht => ?_
    rcases List.mem_append.mp ht with h | h
    · exact hok t (sel_sub hs h)
    · rw [List.mem_singleton.mp h]; exact hok _ (List.mem_of_getElem? hr)
  · intro k hk
    rw [wholeAt_eq rs k hk]
    have := divs_pos _ (lcmL_mem (T := rs.take k) fun t ht => hd t (List.mem_of_mem_take ht))
    omega
  · intro k hk p hp
    rw [hfree k hk]
    have hs : seenOf p k (leftAt rs k) = (List.range (32 - p)).filter fun i => decide (i < 2 ^ k) && ((rs.take k).all fun t => !onR t ((p + i : Nat) : Int)) := by
      rw [leftAt_eq rs hok k hk]
      exact seen_list p (2 ^ k) 32 _
    have hb : bitsN (seenOf p k (leftAt rs k)) = bq (32 - p) fun i => decide (i < 2 ^ k) && ((rs.take k).all fun t => !onR t ((p + i : Nat) : Int)) := by rw [hs]; rfl
    rw [hb, pf_low (by omega), ← hs]
    by_cases h0 : seenOf p k (leftAt rs k) = []
    · rw [if_pos h0]
      have hall : ∀ x : Int, ∃ r ∈ rs.take k, onR r x = true := by
        intro x
        refine cve (rs := rs.take k) (fun t ht => hd t (List.mem_of_mem_take ht)) (p : Int) (fun i hi => ?_) x
        rw [List.length_take, Nat.min_eq_left hk] at hi
        rw [hs] at h0
        have := List.filter_eq_nil_iff.mp h0 i (List.mem_range.mpr (by omega))
        rw [decide_eq_true hi, Bool.true_and, List.all_eq_true] at this
        by_cases hx : ∃ r ∈ rs.take k, onR r ((p + i : Nat) : Int) = true
        · obtain ⟨r, h1, h2⟩ := hx
          exact ⟨r, h1, by rw [Int.natCast_add] at h2; exact h2⟩
        · exfalso
          refine this fun t ht => ?_
          cases h2 : onR t ((p + i : Nat) : Int) with
          | false => rfl
          | true => exact absurd ⟨t, ht, h2⟩ hx
      have hz : (cnt (lcmL rs) fun x => (rs.take k).all fun t => !onR t x) = 0 := by
        rw [← cnt_false (lcmL rs)]
        refine cnt_congr fun x => ?_
        obtain ⟨r, h1, h2⟩ := hall x
        rw [← Bool.not_eq_true, List.all_eq_true]
        intro h
        have := h r h1
        rw [h2] at this; cases this
      rw [hz, if_neg (fun h => h rfl)]
    · rw [if_neg h0]
      have hz : (cnt (lcmL rs) fun x => (rs.take k).all fun t => !onR t x) ≠ 0 := by
        obtain ⟨i, hi⟩ := List.exists_mem_of_ne_nil _ h0
        rw [hs] at hi
        have h1 := (List.mem_filter.mp hi).2
        rw [Bool.and_eq_true, List.all_eq_true] at h1
        refine cnt_pos (lcmL rs) ((p + i) % lcmL rs) (Nat.mod_lt _ hWp.1) ?_
        rw [List.all_eq_true]
        intro t ht
        rw [onR_mod (hdW t (List.mem_of_mem_take ht))]
        exact h1.2 t ht
      rw [if_pos hz]
  · intro k p
    have e : ∃ q : Nat → Bool, leftAt rs k = (List.range 32).filter q := by
      rcases Nat.lt_or_ge rs.length k with hk | hk
      · have hst : ∀ j, leftAt rs (rs.length + j) = leftAt rs rs.length := by
          intro j
          induction j with
          | zero => rfl
          | succ j ih =>
            rw [← ih]
            show (match rs[rs.length + j]? with | some r => _ | none => _) = _
            rw [List.getElem?_eq_none (by omega)]
            rfl
        have := hst (k - rs.length)
        rw [show rs.length + (k - rs.length) = k from by omega] at this
        rw [this]
        exact ⟨_, leftAt_eq rs hok _ (Nat.le_refl _)⟩
      · exact ⟨_, leftAt_eq rs hok k hk⟩
    obtain ⟨q, hq⟩ := e
    rw [hq]
    have hb : bitsN (seenOf p k ((List.range 32).filter q)) = bq (32 - p) fun i => decide (i < 2 ^ k) && q (p + i) := by
      unfold seenOf
      rw [seen_list p (2 ^ k) 32 q]; rfl
    rw [hb]
    exact Nat.lt_of_lt_of_le (bq_lt _ _) (Nat.pow_le_pow_right (by decide) (by omega))
  · have h1 := hfree rs.length (Nat.le_refl _)
    rw [setsAt_take rs rs.length rs.length (Nat.le_refl _) (Nat.le_refl _)] at h1
    have h2 := cnt_nonneg (fun x => (rs.take rs.length).all fun t => !onR t x) (lcmL rs)
    obtain ⟨Z, hZ⟩ : ∃ Z : Nat, (cnt (lcmL rs) fun x => (rs.take rs.length).all fun t => !onR t x) = Z := ⟨_, (Int.toNat_of_nonneg h2.1).symm⟩
    rw [hZ] at h1 h2
    have hl : leftAt rs rs.length = namedOf rs := by rw [leftAt_eq rs hok _ (Nat.le_refl _), List.take_length, named_left]
    obtain ⟨q, hq⟩ : ∃ q : Nat → Bool, namedOf rs = (List.range 32).filter q := ⟨_, rfl⟩
    have hb : bitsN (leftAt rs rs.length) = bq 32 q := by rw [hl, hq]; rfl
    have hlt := bq_lt q 32
    have e32 : (2 : Nat) ^ 32 = 4294967296 := by decide
    have e60 : (2 : Nat) ^ 60 = 1152921504606846976 := by decide
    refine ⟨Z, h1, by omega, by rw [hb]; omega, ?_⟩
    rw [hb]
    have n1 := names_bq (Nat.le_refl 32) q Z
    have n2 := bq_div (Nat.le_refl 32) q Z
    have n3 := bq_zero (m := 32) q
    rw [← hq] at n1 n3
    unfold pfS pfOut pfRest
    rw [n1, n2]
    unfold lastS
    have hpos : namedOf rs ≠ [] → (Txt.join ", " ((namedOf rs).map nameS)).length ≠ 0 := by
      intro h0
      obtain ⟨p, hp⟩ := List.exists_mem_of_ne_nil _ h0
      have hp32 : p < 32 := by
        unfold namedOf at hp
        exact List.mem_range.mp (List.mem_filter.mp hp).1
      exact join_len_pos _ _ ⟨_, List.mem_map.mpr ⟨p, hp, rfl⟩, nameS_pos p hp32⟩
    by_cases hz : Z = 0
    · subst hz
      rw [Nat.zero_mul, Nat.add_zero, if_neg (fun h : (0 : Nat) ≠ 0 => h rfl), List.append_nil]
      by_cases h0 : namedOf rs = []
      · rw [if_neg (fun h => h.2 (n3.mpr h0)), h0]
        decide +kernel
      · rw [if_pos ⟨rfl, fun h => h0 (n3.mp h)⟩, if_neg (hpos h0)]
    · rw [if_neg (fun h => hz h.1), if_pos hz]
      have hj : (Txt.join ", " ((namedOf rs).map nameS ++ [hexZ Z])).length ≠ 0 := join_len_pos _ _ ⟨hexZ Z, by simp, hexZ_len Z⟩
      rw [if_neg hj]
      rfl
end Mine

-- G1
namespace Mine
open PySem PySem.Calls PyProof.Rows PySem.W

section
variable {M : Model} {A : Around} {R : GenEnd} {Y : Protocol} {n : Nat} {s₀ : Shared} {c : Code} {fs : List Frame} {s : Shared} {env : Env}
  {K : Flow → Sem Fin} {H : Value → Sem Fin} {gd : Bool → Bool} {lv : List Value → List Value}

theorem seg_If {test : Expr} {body orelse : List Stmt} {pos : Pos}
    (h : wpAny M (A.over c fs) (isTrue test env (eval test env)) (fun b s' => if b = true then Seg M A R Y n s₀ c ((execs body env).wrap K H gd lv) fs s' else Seg M A R Y n s₀ c ((execs orelse env).wrap K H gd lv) fs s')
      (fun x s' => Seg M A R Y n s₀ c (H x) fs s') s) : Seg M A R Y n s₀ c ((exec (.If test body orelse pos) env).wrap K H gd lv) fs s := by
  rw [arm_exec_If]
  refine seg_bind_wrap (wpAny_standAt (seg_bind_wrap (wpAny_mono h (fun b s' hb => ?_) fun _ _ x => x)))
  cases b with
  | true => exact hb
  | false => exact hb
theorem seg_For {target iter : Expr} {body orelse : List Stmt} {pos : Pos}
    (h : wpAny M (A.over c fs) (eval iter env) (fun x s₁ => wpAny M (A.over c fs) (pyIter x) (fun it s₂ => ∀ p, Seg M A R Y n s₀ (.forLoop target it body orelse env) (M.den (.forLoop target it body orelse env))
      (.ret (fun r => ((match r with | .ok f => (.pure f : Sem Flow) | .error e => .raise e).onRaise fun (x : Value) => do
        if (← field x 1) == Value.none then unsupported "frame.own-activation:exception-without-traceback"
        setFlight x env.frame).wrap K H gd lv) none (gd false) (lv []) c p [] :: fs) s₂) (fun x s' => Seg M A R Y n s₀ c (H x) fs s') s₁) (fun x s' => Seg M A R Y n s₀ c (H x) fs s') s)
    (hs : ∀ x, foldedSetIterable iter env x = pure x := by intro _; rfl) :
    Seg M A R Y n s₀ c ((exec (.For target iter body orelse pos) env).wrap K H gd lv) fs s := by
  rw [exec_For]
  refine seg_bind_wrap (wpAny_standAt (seg_bind_wrap (wpAny_mono h (fun x s₁ h₁ => seg_bind_wrap (wpAny_of_eq (hs x) (seg_bind_wrap (wpAny_standAt (seg_bind_wrap (wpAny_holding (wpAny_mono h₁ (fun it s₂ h₂ => ?_) fun _ _ x => x))))))) fun _ _ x => x)))
  exact seg_call h₂
end
section
variable {prog : Program} {w : World} {A : Around} {R : GenEnd} {Y : Protocol} {n : Nat} {s₀ : Shared} {fs : List Frame} {s : Shared} {env : Env}

/-- the end of a loop that raises -/
abbrev segOut (env : Env) (e : Value) : Sem Fin := (do noteFrame e env; theTreesLotGoes e : Sem Unit).wrap (fun _ => .raise e) .raise id id
theorem seg_forLoop {x : Str} {px : Pos} {it : Value} {body orelse : List Stmt}
    (h : wpAny (model prog w) (A.over (.forLoop (.Name x px) it body orelse env) fs) (pyNext it) (fun r s' => match r with
        | none => Seg (model prog w) A R Y n s₀ (.block orelse env) ((model prog w).den (.block orelse env)) fs s'
        | some v => wpAny (model prog w) (A.over (.forLoop (.Name x px) it body orelse env) fs) (storeName env x v) (fun _ s₂ =>
          Seg (model prog w) A R Y n s₀ (.forLoop (.Name x px) it body orelse env) ((execs body env).wrap (fun f => match f with
            | .next | .cont => .pure (.again (.forLoop (.Name x px) it body orelse env))
            | .brk => .pure (.done .next)
            | .ret v => .pure (.done (.ret v))) (segOut env) id id) fs s₂) (fun _ _ => False) s') (fun _ _ => False) s) :
    Seg (model prog w) A R Y n s₀ (.forLoop (.Name x px) it body orelse env) ((model prog w).den (.forLoop (.Name x px) it body orelse env)) fs s := by
  show Seg _ A R Y n s₀ _ ((forTurn (.Name x px) it body orelse env).onRaise (fun x => do noteFrame x env; theTreesLotGoes x)) fs s
  unfold forTurn
  rw [Sem.onRaise_eq_wrap]
  refine seg_bind_wrap (wpAny_standAt (seg_bind_wrap (wpAny_onRaise (wpAny_mono h (fun r s' hr => ?_) fun _ _ f => f.elim))))
  cases r with
  | none => exact seg_again rfl hr
  | some v =>
    refine seg_bind_wrap (wpAny_of_eq (rfl : letOwnedTupleGo (.Name x px) it v = pure ()) ?_)
    refine seg_bind_wrap (wpAny_assign_Name (wpAny_mono hr (fun _ s₂ h₂ => ?_) fun _ _ f => f.elim))
    rw [Sem.bind_eq_wrap', Sem.wrap_wrap]
    rw [Sem.wrap_congr (execs body env) _ _ (K' := fun f => match f with
            | .next | .cont => .pure (.again (.forLoop (.Name x px) it body orelse env))
            | .brk => .pure (.done .next)
            | .ret v => .pure (.done (.ret v))) (H' := segOut env)
        (fun f => by cases f <;> rfl)
        (fun e => by first | exact Sem.bind_eq_wrap _ _ | (show (do noteFrame e env; theTreesLotGoes e : Sem Unit).bind (fun _ => .raise e) = _; rw [Sem.bind_eq_wrap]))]
    exact h₂
theorem seg_block_nil (h : Seg (model prog w) A R Y n s₀ (.block [] env) (leafOf (.ok .next)) fs s) : Seg (model prog w) A R Y n s₀ (.block [] env) ((model prog w).den (.block [] env)) fs s := h
end
end Mine

-- G2
namespace Mine
open PySem PySem.Calls PyProof.Rows PySem.W

inductive VG where
  | grouping | interval | last
deriving DecidableEq
def nmG : VG → Str
  | .grouping => "grouping"
  | .interval => "interval"
  | .last => "last_interval"
theorem nmG_inj : ∀ x y, nmG x = nmG y → x = y := by
  intro x y h
  cases x <;> cases y <;> first | rfl | (revert h; decide)

/-- the generator's frame -/
structure GEnv (h₀ : Heap) (env : Env) : Prop where
  ok : EnvOk h₀ env
  scope : env.scope = stScope (topSt 6)
  cells : env.cells = []
  frame : env.frame = some env.locals

def optD : Option Int → D
  | none => .none
  | some l => .int l
def gσ (last iv : Option Int) : VG → Option B
  | .grouping => none
  | .last => some (.im (optD last))
  | .interval => iv.map fun x => .im (.int x)
def gW (L I : Addr) : Addr → Prop := fun b => b = L ∨ b = I

section
variable {V : Type} {nm : V → Str} {prog : Program} {w : World} {h₀ : Heap} {A : Around} {env : Env} {σ : V → Option B}
theorem ev_none {k : Nat} {pos : Pos} : Ev nm prog w h₀ A env σ (.Constant .none k pos) .none := ⟨fun s mu S => by
  with_reducible exact Constant_none ⟨kp_refl s, rd_none.mpr rfl⟩⟩
theorem ev_bool {b : Bool} {k : Nat} {pos : Pos} : Ev nm prog w h₀ A env σ (.Constant (.bool b) k pos) (.bool b) := ⟨fun s mu S => by
  with_reducible exact Constant_bool ⟨kp_refl s, rd_bool.mpr rfl⟩⟩
theorem tst_bool {e : Expr} {b : Bool} (h : Ev nm prog w h₀ A env σ e (.bool b)) (he : isTrue e env (eval e env) = (do let v ← eval e env; standAt e.pos; holding [v] (truthy v)) := by rfl) : Tst nm prog w h₀ A env σ e b := ⟨fun s mu S => by
  rw [he]
  refine wpAny_bind (ev_then h S fun v s₁ k₁ _ r => ?_)
  obtain rfl := rd_bool.mp r
  exact wpAny_bind (wpAny_standAt (wpAny_holding (wpAny_truthy_bool ⟨k₁, rfl⟩)))⟩
theorem cmp_isn {l : Option Int} : CmpI prog w A .Is (optD l) .none l.isNone := ⟨fun s mu u v e e' => by
  obtain rfl := rd_none.mp e'
  cases l with
  | none =>
    obtain rfl := rd_none.mp e
    exact is_none_none ⟨kp_refl s, rfl⟩
  | some x =>
    obtain ⟨t, rfl⟩ := rd_int.mp e
    exact is_int_none ⟨kp_refl s, rfl⟩⟩
theorem ev_gint {mg mb : Str → Option Value} (G : Glo h₀ mg mb) (K : EnvG env) {x : Str} {i : Int} {t : Tok} {pos : Pos} (hx : env.kindOf x = some .globalImplicit) (hv : mg x = some (.int i t)) (hd : (x == ("__debug__" : Str)) = false := by decide) : Ev nm prog w h₀ A env σ (.Name x pos) (.int i) := ⟨fun s mu S => by
  with_reducible exact wp_gname G K S.up hx hv ⟨kp_refl s, rd_int.mpr ⟨_, rfl⟩⟩ hd⟩
end

/-- the generator between two statements of its loop -/
structure GSt (prog : Program) (w : World) (h₀ : Heap) (os : OsState) (env : Env) (I a : Addr) (vs : List Value) (i : Nat) (σ : VG → Option B) (s : Shared) : Prop where
  st : StO nmG prog w h₀ os env (fun _ => none) σ s
  it : s.heap.IsListIter I a i
  li : s.heap.IsList a (List.toArray vs)

/-- what the frame around must leave as it was -/
def GAfter (h₀ : Heap) (os : OsState) (L I a : Addr) (s s'' : Shared) : Prop :=
  (∀ b o, (b = L ∨ b = I ∨ b = a) → s.heap.get? b = some o → s''.heap.get? b = some o) ∧ Up h₀ s''.heap ∧ OldK h₀ s''.heap ∧ AllBare s''.gens ∧ s''.os = os
def genY (h₀ : Heap) (os : OsState) (L I a : Addr) (N : Nat) (gl : List Int) : Protocol := fun m s₀ v s kap =>
  (∃ x t, gl[N - 1 - m]? = some x ∧ v = .int x t) ∧ KeepsX (gW L I) s₀ s ∧ (0 < m → ∀ s'' : Shared, GAfter h₀ os L I a s s'' → kap (.send .none) s'')
def genR (L I : Addr) (N : Nat) (gl : List Int) : GenEnd := fun n s₀ r s => r = .ok (.ret .none) ∧ gl.length + n = N ∧ KeepsX (gW L I) s₀ s

section
variable {prog : Program} {w : World} {h₀ : Heap} {os : OsState} {A : Around} {env : Env} {mg mb : Str → Option Value} {I a : Addr} {vs : List Value} {sz : List Int}

theorem gmu {q : Addr} (F : GEnv h₀ env) (h : Mu env (fun _ : VG => none) q) : q = env.locals := by
  rcases h with h | ⟨c, hc, _⟩ | ⟨y, h⟩
  · exact h
  · rw [F.cells] at hc; cases hc
  · cases h
theorem gst_after (F : GEnv h₀ env) {i : Nat} {last iv : Option Int} {s s'' : Shared} (S : GSt prog w h₀ os env I a vs i (gσ last iv) s) (k : GAfter h₀ os env.locals I a s s'') : GSt prog w h₀ os env I a vs i (gσ last iv) s'' := by
  obtain ⟨k1, k2, k3, k4, k5⟩ := k
  have hns := S.st.ns
  have li' : s''.heap.IsList a (List.toArray vs) := S.li.at fun o e => k1 a o (.inr (.inr rfl)) e
  have rdn : ∀ n v, RdN env s.heap n v → RdN env s''.heap n v := by
    intro n v r
    rcases r with ⟨e, m, ⟨o, es, ep, ho, r⟩, hm⟩ | ⟨e, c, hc, _⟩
    · exact .inl ⟨e, m, ⟨o, es, ep, k1 _ o (.inl rfl) ho, r⟩, hm⟩
    · rw [F.cells] at hc; cases hc
  refine ⟨⟨k2, k3, fun x d hx => ?_, fun x b hx hb => ?_, fun x y q h => (nomatch h), fun x q h => (nomatch h), ?_, fun c hc => ?_, k4, k5⟩, S.it.at fun o e => k1 I o (.inr (.inl rfl)) e, li'⟩
  · obtain ⟨v, r, hd⟩ := S.st.im x d hx
    refine ⟨v, rdn _ _ r, ?_⟩
    cases x with
    | grouping => cases hx
    | interval =>
      cases iv with
      | none => cases hx
      | some x => cases hx; exact rd_int.mpr (rd_int.mp hd)
    | last =>
      cases hx
      cases last with
      | none => exact rd_none.mpr (rd_none.mp hd)
      | some x => exact rd_int.mpr (rd_int.mp hd)
  · cases x with
    | grouping => cases hx
    | interval =>
      cases iv with
      | none => cases hx
      | some x => cases hx; cases hb
    | last => cases hx; cases hb
  · obtain ⟨m, o, es, ep, ho, r⟩ := hns
    exact ⟨m, o, es, ep, k1 _ o (.inl rfl) ho, r⟩
  · rw [F.cells] at hc; cases hc
end
end Mine

-- G3
namespace Mine
open PySem PySem.Calls PyProof.Rows PySem.W

section
variable {prog : Program} {w : World} {h₀ : Heap} {os : OsState} {A : Around} {env : Env} {mg mb : Str → Option Value} {I a : Addr} {vs : List Value} {sz : List Int}

theorem upd_none_none (x : VG) : upd (fun _ : VG => (none : Option Addr)) x none = fun _ => none := by
  funext y; unfold upd; split <;> rfl
/-- a plain value for one of the generator's names -/
theorem g_store (F : GEnv h₀ env) {σ : VG → Option B} {s s₁ : Shared} {x : VG} {d : D} {v : Value} {Q : Unit → Shared → Prop} {E : Value → Shared → Prop} (S : StO nmG prog w h₀ os env (fun _ => none) σ s) (k : Keeps s s₁) (hv : Rd s₁.heap (Mu env fun _ : VG => none) d v)
    (hx : env.kindOf (nmG x) = some .local) (h : ∀ s₂, StO nmG prog w h₀ os env (fun _ => none) (upd σ x (some (.im d))) s₂ → KeepsX (fun q => q = env.locals) s s₂ → Q () s₂) : wpAny (model prog w) A (storeName env (nmG x) v) Q E s₁ := by
  refine wp_store (str := true) F.ok nmG_inj (b := .im d) S k (newb_im hv) (.loc hx) fun s₂ S₂ t k₂ => ?_
  have e : adrOf (.im d) v = none := rfl
  rw [e, upd_none_none] at S₂
  exact h s₂ S₂ (kx_trans (kx_of k) k₂)
theorem gst_store {i : Nat} {σ σ' : VG → Option B} {s s₂ : Shared} (hIL : I ≠ env.locals) (haL : a ≠ env.locals) (S : GSt prog w h₀ os env I a vs i σ s) (S₂ : StO nmG prog w h₀ os env (fun _ => none) σ' s₂) (k : KeepsX (fun q => q = env.locals) s s₂) : GSt prog w h₀ os env I a vs i σ' s₂ :=
  ⟨S₂, S.it.at fun o e => kx_heap k I o hIL e, S.li.at fun o e => kx_heap k a o haL e⟩
theorem gst_keeps {i : Nat} {σ : VG → Option B} {s s₂ : Shared} (S : GSt prog w h₀ os env I a vs i σ s) (k : Keeps s s₂) : GSt prog w h₀ os env I a vs i σ s₂ :=
  ⟨(st_keeps (str := true) S.st k).1, S.it.at fun o e => kp_heap k I o e, S.li.at fun o e => kp_heap k a o e⟩
theorem gst_sub {i : Nat} {σ σ' : VG → Option B} {s : Shared} (S : GSt prog w h₀ os env I a vs i σ s) (h : ∀ y b, σ' y = some b → σ y = some b) : GSt prog w h₀ os env I a vs i σ' s := ⟨st_sub S.st h, S.it, S.li⟩

theorem over_ret (A : Around) (c : Code) (k : Result → Sem Fin) (g : Bool) (l : List Value) (c₁ : Code) (p : Pos) (kp : List Value) (fs : List Frame) (h : (A.over c fs).handled = A.handled) : (A.over c (.ret k none g l c₁ p kp :: fs)).handled = A.handled := h
theorem over_nil (A : Around) (c : Code) : (A.over c []).handled = A.handled := rfl

/-- while True: yield last -/
theorem seg_rep (F : GEnv h₀ env) (hIL : I ≠ env.locals) {N : Nat} {gl : List Int} {l : Int} {iv : Option Int} {i : Nat} {test : Expr} {px py pp : Pos} {fs : List Frame} (ht : ∀ (A : Around) σ, Tst nmG prog w h₀ A env σ test true) (hfs : splitAtGen fs = none) (hfg : fs.any Frame.guarded = false) :
    ∀ (n : Nat) (s₀ s : Shared), n < N → (∀ k, k ≤ n → gl[N - 1 - k]? = some l) → GSt prog w h₀ os env I a vs i (gσ (some l) iv) s → KeepsX (gW env.locals I) s₀ s →
      Seg (model prog w) A (genR env.locals I N gl) (genY h₀ os env.locals I a N gl) (n + 1) s₀ (.whileLoop test [.Expr (.Yield (some (.Name "last_interval" px)) py) pp] [] env)
        ((model prog w).den (.whileLoop test [.Expr (.Yield (some (.Name "last_interval" px)) py) pp] [] env)) fs s := by
  intro n
  induction n with
  | zero =>
    intro s₀ s hn hgl S k
    refine seg_whileLoop (tst_then (ht _ _) S.st.stt fun s₁ k₁ S₁ => ?_)
    rw [if_pos rfl]
    refine seg_execs_cons (seg_Expr_Yield hfs rfl hfg (ev_then (ev_name F.ok.kind VG.last rfl) S₁ fun v s₂ k₂ S₂ r => ?_) (by rw [F.scope]; rfl) (by unfold interactive; rw [F.scope]; rfl))
    intro kap hk
    obtain ⟨t, rfl⟩ := rd_int.mp r
    exact ⟨⟨l, t, hgl 0 (Nat.le_refl _), rfl⟩, kx_trans k (kx_of (kp_trans k₁ k₂)), fun h => absurd h (by omega)⟩
  | succ n ih =>
    intro s₀ s hn hgl S k
    refine seg_whileLoop (tst_then (ht _ _) S.st.stt fun s₁ k₁ S₁ => ?_)
    rw [if_pos rfl]
    refine seg_execs_cons (seg_Expr_Yield hfs rfl hfg (ev_then (ev_name F.ok.kind VG.last rfl) S₁ fun v s₂ k₂ S₂ r => ?_) (by rw [F.scope]; rfl) (by unfold interactive; rw [F.scope]; rfl))
    intro kap hk
    obtain ⟨t, rfl⟩ := rd_int.mp r
    refine ⟨⟨l, t, hgl (n + 1) (Nat.le_refl _), rfl⟩, kx_trans k (kx_of (kp_trans k₁ k₂)), fun _ s'' haf => hk _ _ ?_⟩
    have S' := gst_after F (gst_keeps S (kp_trans k₁ k₂)) haf
    show Seg _ _ _ _ _ _ _ (Sem.pure (.again _)) fs s''
    exact seg_again rfl (ih s'' s'' (by omega) (fun k hk => hgl k (by omega)) S' (kx_refl _ _))
end
end Mine

-- G4
namespace Mine
open PySem PySem.Calls PyProof.Rows PySem.W

def genFor : Stmt := (stBody (topSt 6))[1]?.getD (.Pass ⟨0, 0, 0, 0⟩)
def genIn : List Stmt := forBody genFor

section
variable {prog : Program} {w : World} {h₀ : Heap} {os : OsState} {A : Around} {env : Env} {mg mb : Str → Option Value} {I a : Addr} {vs : List Value} {sz : List Int}

theorem gσ_iv (last iv : Option Int) (x : Int) : ∀ y b, gσ last (some x) y = some b → upd (gσ last iv) VG.interval (some (.im (.int x))) y = some b := by
  intro y b h
  cases y with
  | grouping => cases h
  | interval => exact h
  | last => exact h
theorem gσ_last (last : Option Int) (x : Int) : ∀ y b, gσ (some x) (some x) y = some b → upd (gσ last (some x)) VG.last (some (.im (.int x))) y = some b := by
  intro y b h
  cases y with
  | grouping => cases h
  | interval => exact h
  | last => exact h
theorem ints_get : ∀ {vs : List Value} {sz : List Int} {i : Nat} {x : Int}, IntsAre vs sz → sz[i]? = some x → ∃ t, vs[i]? = some (.int x t) := by
  intro vs sz i x h
  induction h generalizing i with
  | nil => intro hx; simp at hx
  | cons y t h ih =>
    intro hx
    cases i with
    | zero => simp at hx; subst hx; exact ⟨t, rfl⟩
    | succ i => rw [List.getElem?_cons_succ] at hx ⊢; exact ih hx
theorem ints_len : ∀ {vs : List Value} {sz : List Int}, IntsAre vs sz → vs.length = sz.length := by
  intro vs sz h
  induction h with
  | nil => rfl
  | cons y t h ih => rw [List.length_cons, List.length_cons, ih]

theorem seg_gloop (F : GEnv h₀ env) (G : Glo h₀ mg mb) {tc : Tok} (gcm : mg "CHAR_MAX" = some (.int 127 tc)) (hA : A.handled = none) (hIL : I ≠ env.locals) (haL : a ≠ env.locals) (haI : a ≠ I) (hI0 : h₀.get? I = none) (hvs : IntsAre vs sz) {N : Nat} {gl : List Int} {px : Pos} {kf : Result → Sem Fin} {c₁ : Code} {p : Pos} {kp : List Value} {lv : List Value}
    (hend : ∀ c n s₀ s f, (f = .next ∨ f = .ret .none) → genR env.locals I N gl n s₀ (.ok (.ret .none)) s → Seg (model prog w) A (genR env.locals I N gl) (genY h₀ os env.locals I a N gl) n s₀ c (leafOf (.ok f)) [.ret kf none false lv c₁ p kp] s) :
    ∀ (rest pre : List Int) (m : Nat) (last iv : Option Int) (tail : List Int) (s₀ s : Shared), sz = pre ++ rest → N = pre.length + (m + 1) → genTake rest last (m + 1) = some tail → gl = pre ++ tail →
      GSt prog w h₀ os env I a vs pre.length (gσ last iv) s → KeepsX (gW env.locals I) s₀ s →
      Seg (model prog w) A (genR env.locals I N gl) (genY h₀ os env.locals I a N gl) (m + 1) s₀ (.forLoop (.Name "interval" px) (.ref I) genIn [] env) ((model prog w).den (.forLoop (.Name "interval" px) (.ref I) genIn [] env)) [.ret kf none false lv c₁ p kp] s := by
  have hO : ∀ c, (A.over c [.ret kf none false lv c₁ p kp]).handled = none := fun c => hA
  have kk := F.ok.kind
  have KE := F.ok.toEnvG
  have kI : env.kindOf (nmG .interval) = some .local := by unfold Env.kindOf; rw [F.scope]; rfl
  have kL : env.kindOf (nmG .last) = some .local := by unfold Env.kindOf; rw [F.scope]; rfl
  have kC : env.kindOf "CHAR_MAX" = some .globalImplicit := by unfold Env.kindOf; rw [F.scope]; rfl
  have hco : env.scope.isCoroutine = false := by rw [F.scope]; rfl
  have hin : interactive env = false := by unfold interactive; rw [F.scope]; rfl
  have hIm : ¬ Mu env (fun _ : VG => none) I := fun h => hIL (gmu F h)
  have W := fun c => Walks.list (prog := prog) (w := w) (hO c) I a haI (List.toArray vs)
  have nd : ∀ {i : Nat} {h : Heap}, h.IsListIter I a i → ∀ o, h.get? I = some o → ¬ IsData o.cls := by
    rintro i h ⟨o, e, hc, _⟩ o' e'
    rw [e] at e'; cases e'
    rw [hc]; exact notData_li
  intro rest
  induction rest with
  | nil =>
    intro pre m last iv tail s₀ s hsz hN hg hgl S k
    have htl : tail = [] := by unfold genTake at hg; cases hg; rfl
    refine seg_forLoop ((W _).done s _ _ ?_ fun h₁ tk hk₁ => ?_)
    · have : (List.toArray vs).size = pre.length := by rw [List.size_toArray, ints_len hvs, hsz, List.append_nil]
      rw [this]
      exact ⟨S.it, S.li⟩
    · refine seg_block_nil (hend _ _ _ _ .next (.inl rfl) ⟨rfl, ?_, kx_trans k ⟨h₁, tk, rfl, fun b o hb e => hk₁ b o (fun h => hb (.inr (List.mem_singleton.mp h))) e⟩⟩)
      rw [hgl, htl, List.append_nil]; exact hN.symm
  | cons x rest ih =>
    intro pre m last iv tail s₀ s hsz hN hg hgl S k
    have hxi : sz[pre.length]? = some x := by rw [hsz, List.getElem?_append_right (Nat.le_refl _), Nat.sub_self]; rfl
    obtain ⟨t, hvi⟩ := ints_get hvs hxi
    have hlt : pre.length < (List.toArray vs).size := by rw [List.size_toArray]; exact (List.getElem?_eq_some_iff.mp hvi).1
    refine seg_forLoop ((W _).item pre.length s _ _ hlt ⟨S.it, S.li⟩ fun v h₁ tk hPv st₁ hk₁ => ?_)
    have hv : v = .int x t := by
      have : (List.toArray vs)[pre.length]? = some v := hPv
      rw [List.getElem?_toArray, hvi] at this
      cases this; rfl
    subst hv
    have hx₁ : ∀ b o, b ≠ I → s.heap.get? b = some o → h₁.get? b = some o := fun b o hb e => hk₁ b o (fun h => hb (List.mem_singleton.mp h)) e
    have z := st_ext (s' := { s with heap := h₁, toks := tk }) S.st hI0 hIm (nd S.it) hx₁ rfl rfl
    have k₁ : KeepsX (gW env.locals I) s₀ { s with heap := h₁, toks := tk } := kx_trans k ⟨h₁, tk, rfl, fun b o hb e => hx₁ b o (fun h => hb (.inr h)) e⟩
    have S₁ : GSt prog w h₀ os env I a vs (pre.length + 1) (gσ last iv) { s with heap := h₁, toks := tk } := ⟨z, st₁.1, st₁.2⟩
    refine g_store (x := VG.interval) F z (kp_refl _) (rd_int.mpr ⟨t, rfl⟩) kI fun s₂ S₂' k₂ => ?_
    have S₂ := gst_sub (gst_store hIL haL S₁ S₂' k₂) (gσ_iv last iv x)
    have k₂' := kx_trans k₁ (kx_mono k₂ fun q h => .inl h)
    clear S₂' k₂ S₁ z k₁ hx₁ hk₁ st₁ hPv
    -- interval == CHAR_MAX
    show Seg _ _ _ _ _ _ _ ((execs [_, _, _, _] env).wrap _ _ _ _) _ s₂
    refine seg_execs_cons (seg_If (tst_then (tst_cmp (ev_name kk VG.interval rfl) (ev_gint G KE kC gcm) cmp_eq rfl) S₂.st.stt fun s₃ k₃ _ => ?_))
    have S₃ := gst_keeps S₂ k₃
    have k₃' := kx_trans k₂' (kx_of k₃)
    by_cases h127 : x = 127
    · rw [if_pos (by simp [h127])]
      have htl : tail = [] := by unfold genTake at hg; rw [if_pos h127] at hg; cases hg; rfl
      refine seg_execs_cons (seg_wrap (wpAny_Return_none ?_))
      exact hend _ _ _ _ (.ret .none) (.inr rfl) ⟨rfl, by rw [hgl, htl, List.append_nil]; exact hN.symm, k₃'⟩
    rw [if_neg (by simp [h127])]
    refine seg_execs_nil ?_
    -- interval == 0
    show Seg _ _ _ _ _ _ _ ((execs [_, _, _] env).wrap _ _ _ _) _ s₃
    refine seg_execs_cons (seg_If (tst_then (tst_cmp (ev_name kk VG.interval rfl) ev_int cmp_eq rfl) S₃.st.stt fun s₄ k₄ _ => ?_))
    have S₄ := gst_keeps S₃ k₄
    have k₄' := kx_trans k₃' (kx_of k₄)
    unfold genTake at hg
    rw [if_neg h127] at hg
    by_cases h0 : x = 0
    · rw [if_pos (by simp [h0])]
      rw [if_pos h0] at hg
      cases last with
      | none => cases hg
      | some l =>
        have htl : tail = List.replicate (m + 1) l := by cases hg; rfl
        show Seg _ _ _ _ _ _ _ ((execs [_, _] env).wrap _ _ _ _) _ s₄
        refine seg_execs_cons (seg_If (tst_then (tst_cmp (ev_name (σ := gσ (some l) (some x)) (d := optD (some l)) kk VG.last rfl) ev_none (cmp_isn (l := some l)) rfl) S₄.st.stt fun s₅ k₅ _ => ?_))
        have S₅ := gst_keeps S₄ k₅
        have k₅' := kx_trans k₄' (kx_of k₅)
        rw [if_neg (by simp)]
        refine seg_execs_nil ?_
        show Seg _ _ _ _ _ _ _ ((execs [_] env).wrap _ _ _ _) _ s₅
        refine seg_execs_cons (seg_While fun p' => ?_)
        refine seg_rep F hIL (fun A σ => tst_bool ev_bool) rfl rfl m s₀ s₅ (by omega) (fun j hj => ?_) S₅ k₅'
        rw [hgl, htl, List.getElem?_append_right (by omega), List.getElem?_replicate, if_pos (by omega)]
    · rw [if_neg (by simp [h0])]
      rw [if_neg h0] at hg
      refine seg_execs_nil ?_
      cases hg' : genTake rest (some x) m with
      | none => rw [hg'] at hg; cases hg
      | some tl =>
        rw [hg'] at hg
        have htl : tail = x :: tl := by cases hg; rfl
        -- yield interval
        show Seg _ _ _ _ _ _ _ ((execs [_, _] env).wrap _ _ _ _) _ s₄
        refine seg_execs_cons (seg_Expr_Yield rfl rfl rfl (ev_then (ev_name kk VG.interval rfl) S₄.st.stt fun v s₅ k₅ _ r => ?_) hco hin)
        intro kap hk
        obtain ⟨t', rfl⟩ := rd_int.mp r
        have S₅ := gst_keeps S₄ k₅
        have k₅' := kx_trans k₄' (kx_of k₅)
        refine ⟨⟨x, t', ?_, rfl⟩, k₅', fun hm s'' haf => hk _ _ ?_⟩
        · rw [hgl, htl, show N - 1 - m = pre.length from by omega, List.getElem?_append_right (Nat.le_refl _), Nat.sub_self]; rfl
        obtain ⟨m', rfl⟩ : ∃ m', m = m' + 1 := ⟨m - 1, by omega⟩
        have S₆ := gst_after F S₅ haf
        -- last_interval = interval
        show Seg _ _ _ _ _ _ _ ((execs [_] env).wrap _ _ _ _) _ s''
        refine seg_execs_cons (seg_wrap (wpAny_Assign_Name (ev_then (ev_name (d := .int x) kk VG.interval rfl) S₆.st.stt fun v s₇ k₇ _ r₇ => ?_) rfl))
        refine g_store (x := VG.last) F S₆.st k₇ r₇ kL fun s₈ S₈' k₈ => ?_
        have S₈ := gst_sub (gst_store hIL haL S₆ S₈' k₈) (gσ_last last x)
        refine seg_execs_nil ?_
        refine seg_again rfl (ih (pre ++ [x]) m' (some x) (some x) tl s'' s₈ (by rw [hsz]; simp) (by simp; omega) hg' (by rw [hgl, htl]; simp) (by simpa using S₈) (kx_mono k₈ fun q h => .inl h))
end
end Mine

-- G5
namespace Mine
open PySem PySem.Calls PyProof.Rows PySem.W

section
variable {prog : Program} {w : World} {h₀ : Heap} {os : OsState} {A : Around} {env : Env} {mg mb : Str → Option Value} {a : Addr} {vs : List Value} {sz : List Int}

/-- the same, with the heap's size -/
theorem g_store0 (F : GEnv h₀ env) {σ : VG → Option B} {s : Shared} {x : VG} {d : D} {v : Value} {Q : Unit → Shared → Prop} {E : Value → Shared → Prop} (S : StO nmG prog w h₀ os env (fun _ => none) σ s) (hv : Rd s.heap (Mu env fun _ : VG => none) d v)
    (hl : env.kindOf (nmG x) = some .local) (h : ∀ s₂, StO nmG prog w h₀ os env (fun _ => none) (upd σ x (some (.im d))) s₂ → KeepsX (fun q => q = env.locals) s s₂ → s₂.heap.objs.size = s.heap.objs.size → (∀ y u, y ≠ nmG x → RdN env s.heap y u → RdN env s₂.heap y u) → Q () s₂) : wpAny (model prog w) A (storeName env (nmG x) v) Q E s := by
  have K := F.ok
  have hne : ∀ y, y ≠ x → nmG y ≠ nmG x := fun y hy e => hy (nmG_inj y x e)
  obtain ⟨m, hn⟩ := S.ns
  have hk := K.kind
  have hcl : (env.scope.kind == .class || (env.scope.kind == .module && env.locals != env.globals)) = false := by rw [hk]; rfl
  with_reducible refine wpAny_storeName_local hl hn (fun h' hn' hs' => ?_) hcl
  have rd : ∀ (y : Str) u, y ≠ nmG x → RdN env s.heap y u → RdN env h' y u := by
    intro y u hy r
    rcases r with ⟨a, m₁, hm₁, e⟩ | ⟨a, c, hc, ho⟩
    · refine .inl ⟨a, _, hn', ?_⟩
      rw [if_neg hy, ns_unique hn hm₁, e]
    · rw [F.cells] at hc; cases hc
  have z := st_stored (str := true) K (x := x) (b := .im d) (s₂ := { s with heap := h', toks := s.toks + 1 }) S (kp_refl _) (newb_im hv) (.loc hl) hs' (.inl ⟨hl, _, hn', by simp⟩) (fun y u hy r => rd _ u (hne y hy) r) ⟨_, hn'⟩ (fun c hc => by rw [F.cells] at hc; cases hc) ⟨_, _, rfl⟩
  have e : adrOf (.im d) v = none := rfl
  rw [e, upd_none_none] at z
  exact h _ z.1 ⟨_, _, rfl, fun b o hb e => (hs'.2 b hb).trans e⟩ hs'.1 rd

theorem seg_gstart (F : GEnv h₀ env) (G : Glo h₀ mg mb) {tc : Tok} (gcm : mg "CHAR_MAX" = some (.int 127 tc)) (hA : A.handled = none) (haL : a ≠ env.locals) (hvs : IntsAre vs sz) {m : Nat} {gl : List Int} (hg : genTake sz none (m + 1) = some gl) {σ : VG → Option B} {s : Shared}
    (S : StO nmG prog w h₀ os env (fun _ => none) σ s) (hrd : RdN env s.heap "grouping" (.ref a)) (hl : s.heap.IsList a (List.toArray vs)) :
    Seg (model prog w) A (genR env.locals s.heap.objs.size (m + 1) gl) (genY h₀ os env.locals s.heap.objs.size a (m + 1) gl) (m + 1) s (.func (stBody (topSt 6)) env) ((model prog w).den (.func (stBody (topSt 6)) env)) [] s := by
  have kk := F.ok.kind
  have hO : ∀ c, (A.over c []).handled = none := fun c => hA
  have kL : env.kindOf (nmG .last) = some .local := by unfold Env.kindOf; rw [F.scope]; rfl
  obtain ⟨oa, hoa, hca, hda⟩ := id hl
  have hI : s.heap.get? s.heap.objs.size = none := fresh_none
  have hI0 : h₀.get? s.heap.objs.size = none := none_of_old S.old hI
  have haI : a ≠ s.heap.objs.size := Nat.ne_of_lt (Heap.lt_size hoa)
  have hIL : s.heap.objs.size ≠ env.locals := fun h => by
    obtain ⟨_, o, _, _, e, _⟩ := S.ns
    rw [← h, hI] at e; cases e
  refine seg_func ?_
  show Seg _ _ _ _ _ _ _ ((execs [_, _] env).wrap _ _ _ _) _ s
  refine seg_execs_cons (seg_wrap (wpAny_Assign_Name (Constant_none ?_) rfl))
  refine g_store0 (x := VG.last) (d := .none) F S (rd_none.mpr rfl) kL fun s₁ S₁ k₁ hsz₁ rd₁ => ?_
  show Seg _ _ _ _ _ _ _ ((execs [_] env).wrap _ _ _ _) _ s₁
  have hl₁ : s₁.heap.IsList a (List.toArray vs) := hl.at fun o e => kx_heap k₁ a o haL e
  refine seg_execs_cons (seg_For (wp_name kk (rd₁ _ _ (by decide) hrd) (wpAny_pyIter_list hl₁ fun p' => ?_) (by decide)) fun _ => rfl)
  have S₂ : StO nmG prog w h₀ os env (fun _ => none) (gσ none none) { s₁ with heap := s₁.heap.push { cls := .type "list_iterator", data := .fields #[.ref a, .int 0 0] } } := (st_keeps (str := true) (st_sub S₁ (by
    intro y b h
    cases y with
    | grouping => cases h
    | interval => cases h
    | last => exact h)) (kp_push s₁ _)).1
  have S₃ : GSt prog w h₀ os env s.heap.objs.size a vs ([] : List Int).length (gσ none none) { s₁ with heap := s₁.heap.push { cls := .type "list_iterator", data := .fields #[.ref a, .int 0 0] } } := by
    refine ⟨S₂, ⟨{ cls := .type "list_iterator", data := .fields #[.ref a, .int 0 0] }, ?_, rfl, rfl⟩, hl₁.push _⟩
    rw [← hsz₁]
    exact Heap.get?_push_size _ rfl
  rw [hsz₁]
  refine seg_gloop F G gcm hA hIL haL haI hI0 hvs ?_ sz [] m none none gl s _ rfl (by simp) hg rfl S₃ (kx_trans (kx_mono k₁ fun q h => .inl h) (kx_of (kp_push s₁ _)))
  intro c n s₀ s₄ f hf hR
  refine seg_leaf (.ok f) ?_
  rcases hf with rfl | rfl
  · exact seg_end (.ok (.ret .none)) hR
  · exact seg_end (.ok (.ret .none)) hR
end
end Mine

-- G6
namespace Mine
open PySem PySem.Calls PyProof.Rows PySem.W

section
variable {M : Model} {A : Around} {E : Value → Shared → Prop} {s : Shared}
/-- the first frame that looks at a new exception -/
theorem looks_madeW {base h : Heap} {env : Env} {outer : List Env} {L e : Addr} {cls : Value} {args : List Value} {Q : Unit → Shared → Prop}
    (hfr : A.frames = some (env :: outer)) (hf : env.frame = some L) (hkb : base.StaysIn h) (hl : h.FunFrames base (env :: outer)) (hx : Heap.MadeExcOf h s.heap e cls args)
    (hQ : ∀ h' t, Heap.HeldW base (env :: outer) e cls (.ref t) L h' → h'.TupAt t args → base.get? t = none → s.heap.UpToSlots h' → Q () { s with heap := h' }) : wpAny M A (noteFrame (.ref e) env) Q E s := by
  obtain ⟨t, he, htn, ht⟩ := hx.there
  have fresh : ∀ b, h.get? b = none → base.get? b = none := fun b hb => by
    cases hq : base.get? b with
    | none => rfl
    | some o' => have := hkb b o' hq; rw [hb] at this; cases this
  unfold noteFrame
  simp only [hf]
  refine wpAny_bind (wpAny_field he rfl (x := .none) rfl ?_)
  rw [if_neg (by decide)]
  refine wpAny_entryW (a0 := .ref t) hfr (hl.of_keeps fun b o hb _ => ⟨o, hx.keeps b o hb, rfl⟩) hf he (fun b o hb => hx.keeps b o (hkb b o hb)) (fresh e hx.new) rfl (by simp) rfl fun h' hN => ?_
  obtain ⟨k1, k2, k3, k4⟩ := hN
  exact hQ h' t ⟨k1, fresh e hx.new, k2, k3⟩ (Heap.TupAt.of_slots ⟨_, _, ht, rfl, rfl⟩ k4) (fresh t htn) k4
theorem setFlight_heldW {base : Heap} {l : List Env} {e L : Addr} {cls a0 : Value} {Q : Unit → Shared → Prop} (R : Heap.HeldW base l e cls a0 L s.heap)
    (h : ∀ h', Heap.HeldW base l e cls a0 L h' → s.heap.UpToSlots h' → Q () { s with heap := h' }) : wpAny M A (setFlight (.ref e) (some L)) Q E s := by
  obtain ⟨hkb, hen, hl, oe, vs, T, oT, ts, he, hcls, hd, h1, hnT, hTe, hT, hdT, h3⟩ := R
  have hsz3 : 3 < ts.size := (Array.getElem?_eq_some_iff.mp h3).1
  have other : ∀ b, b ≠ T → (s.heap.update T (Obj.mapFields (·.setIfInBounds 3 ((some L).elim Value.none fun f => rawInt f)))).get? b = s.heap.get? b :=
    fun b hb => Heap.get?_update_other _ _ (Ne.symm hb)
  have noRecord : ∀ b o, s.heap.get? b = some o → (∀ vs, o.data ≠ .fields vs) → b ≠ T := fun b o hb hnf q => by
    rw [q, hT] at hb; injection hb with hb; subst hb; exact hnf ts hdT
  unfold setFlight
  refine wpAny_bind (wpAny_field he hd h1 ?_)
  rw [if_pos (show (Value.ref T != Value.none) = true from by simp)]
  refine wpAny_setField hT hdT hsz3 (h _ ⟨fun b o hbo => (other b fun q => by rw [q, hnT] at hbo; cases hbo).trans (hkb b o hbo), hen,
    hl.of_keeps fun b o hb hnf => ⟨o, (other b (noRecord b o hb hnf)).trans hb, rfl⟩, ?_⟩ fun b o hb hnf => ⟨o.slots, (other b (noRecord b o hb hnf)).trans hb⟩)
  exact ⟨oe, vs, T, _, _, (other e (Ne.symm hTe)).trans he, hcls, hd, h1, hnT, hTe, Heap.get?_update_self _ hT (Obj.isFreed_of_fields (Obj.data_mapFields hdT _)), Obj.data_mapFields hdT _, by simp [hsz3]⟩
theorem heldW_tb {base h : Heap} {l : List Env} {e L : Addr} {cls a0 : Value} (R : Heap.HeldW base l e cls a0 L h) : ∃ oe vs T, h.get? e = some oe ∧ oe.data = .fields vs ∧ vs[1]? = some (.ref T) := by
  obtain ⟨_, _, _, oe, vs, T, _, _, he, _, hd, h1, _⟩ := R
  exact ⟨oe, vs, T, he, hd, h1⟩
end

/-- frames and other dicts may have other slots; b0 apart -/
def Uts (b0 : Addr) (h h' : Heap) : Prop := ∀ b o, b ≠ b0 → h.get? b = some o → (∀ vs, o.data ≠ .fields vs) → ∃ sl, h'.get? b = some { o with slots := sl }
theorem Uts.of {b0 : Addr} {h h' : Heap} (k : h.UpToSlots h') : Uts b0 h h' := fun b o _ e n => k b o e n
theorem Uts.trans {b0 : Addr} {h h' h'' : Heap} (x : Uts b0 h h') (y : Uts b0 h' h'') : Uts b0 h h'' := fun b o hb e n =>
  let ⟨_, e1⟩ := x b o hb e n; let ⟨sl, e2⟩ := y b _ hb e1 n; ⟨sl, e2⟩
theorem Uts.kx {b0 I : Addr} {h h' : Heap} (k : ∀ b o, b ≠ b0 → b ≠ I → h.get? b = some o → h'.get? b = some o) (hI : ∀ o, h.get? I = some o → ∃ vs, o.data = .fields vs) : Uts b0 h h' := fun b o hb e n =>
  ⟨o.slots, k b o hb (fun h => by subst h; obtain ⟨vs, hv⟩ := hI o e; exact n vs hv) e⟩

theorem Uts.frames {b0 : Addr} {B h h' : Heap} (k : Uts b0 h h') : ∀ {l : List Env}, h.FunFrames B l → (∀ e ∈ l, e.frame ≠ some b0) → h'.FunFrames B l
  | [], _, _ => trivial
  | env :: rest, ⟨hk, ⟨L, o, hf, hn, ho, hd⟩, hr⟩, hne => by
    obtain ⟨sl, e⟩ := k L o (fun h => hne env (.head _) (by rw [hf, h])) ho hd
    exact ⟨hk, ⟨L, _, hf, hn, e, hd⟩, Uts.frames k hr fun e he => hne e (.tail _ he)⟩

/-- the exception flies through the frames l -/
def Flown (B : Heap) (l : List Env) (h : Heap) (e : Addr) : Prop := ∃ t tk, Heap.FlyingW B l e (.type "ValueError") (.ref t) h ∧ B.get? t = none ∧ h.TupAt t [.str "invalid grouping" tk]
def errR (B : Heap) (L : Addr) (outer : List Env) : GenEnd := fun _ s₀ r s => ∃ e, r = .error (.ref e) ∧ (∃ h' tk, s = { s₀ with heap := h', toks := tk }) ∧ Uts L s₀.heap s.heap ∧ Flown B outer s.heap e
def noY : Protocol := fun _ _ _ _ _ => False

section
variable {prog : Program} {w : World} {h₀ : Heap} {os : OsState} {A : Around} {env : Env} {mg mb : Str → Option Value} {a : Addr} {vs : List Value} {sz : List Int}

theorem seg_gerr (F : GEnv h₀ env) (G : Glo h₀ mg mb) {tc : Tok} (gcm : mg "CHAR_MAX" = some (.int 127 tc)) (gve : mg "ValueError" = none) (bve : mb "ValueError" = some (.type "ValueError")) (hA : A.handled = none) (haL : a ≠ env.locals) (hvs : IntsAre vs (0 :: sz)) {σ : VG → Option B} {s : Shared}
    (S : StO nmG prog w h₀ os env (fun _ => none) σ s) (hrd : RdN env s.heap "grouping" (.ref a)) (hl : s.heap.IsList a (List.toArray vs)) {B : Heap} {outer : List Env} (hfr : A.frames = some outer) (hB : B.StaysIn s.heap) (hBL : B.get? env.locals = none) (hFF : s.heap.FunFrames B outer) (hne : ∀ e ∈ outer, e.frame ≠ some env.locals) :
    Seg (model prog w) A (errR B env.locals outer) noY 1 s (.func (stBody (topSt 6)) env) ((model prog w).den (.func (stBody (topSt 6)) env)) [] s := by
  have kk := F.ok.kind
  have KE := F.ok.toEnvG
  have kI : env.kindOf (nmG .interval) = some .local := by unfold Env.kindOf; rw [F.scope]; rfl
  have kL : env.kindOf (nmG .last) = some .local := by unfold Env.kindOf; rw [F.scope]; rfl
  have kC : env.kindOf "CHAR_MAX" = some .globalImplicit := by unfold Env.kindOf; rw [F.scope]; rfl
  have kV : env.kindOf "ValueError" = some .globalImplicit := by unfold Env.kindOf; rw [F.scope]; rfl
  obtain ⟨oa, hoa, hca, hda⟩ := id hl
  have hI : s.heap.get? s.heap.objs.size = none := fresh_none
  have hI0 : h₀.get? s.heap.objs.size = none := none_of_old S.old hI
  have haI : a ≠ s.heap.objs.size := Nat.ne_of_lt (Heap.lt_size hoa)
  have hIL : s.heap.objs.size ≠ env.locals := fun h => by
    obtain ⟨_, o, _, _, e, _⟩ := S.ns
    rw [← h, hI] at e; cases e
  have hIm : ¬ Mu env (fun _ : VG => none) s.heap.objs.size := fun h => hIL (gmu F h)
  refine seg_func ?_
  show Seg _ _ _ _ _ _ _ ((execs [_, _] env).wrap _ _ _ _) _ s
  refine seg_execs_cons (seg_wrap (wpAny_Assign_Name (Constant_none ?_) rfl))
  refine g_store0 (x := VG.last) (d := .none) F S (rd_none.mpr rfl) kL fun s₁ S₁ k₁ hsz₁ rd₁ => ?_
  show Seg _ _ _ _ _ _ _ ((execs [_] env).wrap _ _ _ _) _ s₁
  have hl₁ : s₁.heap.IsList a (List.toArray vs) := hl.at fun o e => kx_heap k₁ a o haL e
  refine seg_execs_cons (seg_For (wp_name kk (rd₁ _ _ (by decide) hrd) (wpAny_pyIter_list hl₁ fun p' => ?_) (by decide)) fun _ => rfl)
  have S₂ : StO nmG prog w h₀ os env (fun _ => none) (gσ none none) { s₁ with heap := s₁.heap.push { cls := .type "list_iterator", data := .fields #[.ref a, .int 0 0] } } := (st_keeps (str := true) (st_sub S₁ (by
    intro y b h
    cases y with
    | grouping => cases h
    | interval => cases h
    | last => exact h)) (kp_push s₁ _)).1
  have k₂ : KeepsX (gW env.locals s.heap.objs.size) s { s₁ with heap := s₁.heap.push { cls := .type "list_iterator", data := .fields #[.ref a, .int 0 0] } } := kx_trans (kx_mono k₁ fun q h => .inl h) (kx_of (kp_push s₁ _))
  rw [hsz₁]
  generalize hs₂ : ({ s₁ with heap := s₁.heap.push { cls := .type "list_iterator", data := .fields #[.ref a, .int 0 0] } } : Shared) = s₂ at S₂ k₂ ⊢
  have it₂ : s₂.heap.IsListIter s.heap.objs.size a 0 := by
    subst hs₂
    refine ⟨{ cls := .type "list_iterator", data := .fields #[.ref a, .int 0 0] }, ?_, rfl, rfl⟩
    rw [← hsz₁]
    exact Heap.get?_push_size _ rfl
  have hl₂ : s₂.heap.IsList a (List.toArray vs) := by subst hs₂; exact hl₁.push _
  have hFF₂ : Uts env.locals s.heap s₂.heap := Uts.kx (I := s.heap.objs.size) (fun b o h1 h2 e => kx_heap k₂ b o (fun h => h.elim h1 h2) e) fun o e => by rw [hI] at e; cases e
  have hsm₂ : ∃ h tk, s₂ = { s with heap := h, toks := tk } := let ⟨h, tk, e, _⟩ := k₂; ⟨h, tk, e⟩
  have hB₂ : B.StaysIn s₂.heap := fun b o e => kx_heap k₂ b o (fun h => by
    rcases h with h | h
    · rw [h, hBL] at e; cases e
    · rw [h] at e; have := hB _ _ e; rw [hI] at this; cases this) (hB b o e)
  have hBI : B.get? s.heap.objs.size = none := by
    cases q : B.get? s.heap.objs.size with
    | none => rfl
    | some o => have := hB _ _ q; rw [hI] at this; cases this
  clear hs₂ k₁ k₂ hsz₁ rd₁ S₁ hl₁ s₁
  have hx0 : (0 :: sz : List Int)[0]? = some 0 := rfl
  obtain ⟨t0, hv0⟩ := ints_get hvs hx0
  generalize hfs : ([_] : List Frame) = fs
  have hO : ∀ c, (A.over c fs).handled = none := fun c => by subst hfs; exact hA
  have hFr : ∀ c : Code, c.envs = [] → (A.over c fs).frames = some (env :: outer) := fun c hc => by
    subst hfs
    show pushEnvs c.envs (pushEnvs _ A.frames) = _
    rw [hc, hfr]; rfl
  subst hfs
  have hlt : 0 < (List.toArray vs).size := by rw [List.size_toArray]; exact (List.getElem?_eq_some_iff.mp hv0).1
  refine seg_forLoop ((Walks.list (prog := prog) (w := w) (hO _) s.heap.objs.size a haI (List.toArray vs)).item 0 s₂ _ _ hlt ⟨it₂, hl₂⟩ fun v h₁ tk hPv st₁ hk₁ => ?_)
  have hv : v = .int 0 t0 := by
    have : (List.toArray vs)[0]? = some v := hPv
    rw [List.getElem?_toArray, hv0] at this
    cases this; rfl
  subst hv
  have hx₁ : ∀ b o, b ≠ s.heap.objs.size → s₂.heap.get? b = some o → h₁.get? b = some o := fun b o hb e => hk₁ b o (fun h => hb (List.mem_singleton.mp h)) e
  have z := st_ext (s' := { s₂ with heap := h₁, toks := tk }) S₂ hI0 hIm (fun o e => by
    obtain ⟨o', e', hc, _⟩ := it₂
    rw [e'] at e; cases e
    rw [hc]; exact notData_li) hx₁ rfl rfl
  refine g_store (x := VG.interval) F z (kp_refl _) (rd_int.mpr ⟨t0, rfl⟩) kI fun s₃ S₃' k₃ => ?_
  have S₃ := st_sub S₃' (gσ_iv none none 0)
  have u₃ : Uts env.locals s.heap s₃.heap := hFF₂.trans (Uts.kx (I := s.heap.objs.size) (fun b o h1 h2 e => kx_heap k₃ b o h1 (hx₁ b o h2 e)) fun o e => by
    obtain ⟨o', e', _, hd⟩ := it₂
    rw [e'] at e; cases e; exact ⟨_, hd⟩)
  have hB₃ : B.StaysIn s₃.heap := fun b o e => kx_heap k₃ b o (fun h => by rw [h, hBL] at e; cases e) (hx₁ b o (fun h => by rw [h, hBI] at e; cases e) (hB₂ b o e))
  have hsm₃ : ∃ h tk, s₃ = { s with heap := h, toks := tk } := by
    obtain ⟨h, tk', e⟩ := hsm₂
    obtain ⟨h', tk'', e', _⟩ := k₃
    subst e; exact ⟨h', tk'', e'⟩
  clear S₃' k₃ z hx₁ hk₁ st₁ hPv
  -- interval == CHAR_MAX
  show Seg _ _ _ _ _ _ _ ((execs [_, _, _, _] env).wrap _ _ _ _) _ s₃
  refine seg_execs_cons (seg_If (tst_then (tst_cmp (ev_name kk VG.interval rfl) (ev_gint G KE kC gcm) cmp_eq rfl) S₃.stt fun s₄ k₄ _ => ?_))
  have S₄ := (st_keeps (str := true) S₃ k₄).1
  rw [if_neg (by decide)]
  refine seg_execs_nil ?_
  show Seg _ _ _ _ _ _ _ ((execs [_, _, _] env).wrap _ _ _ _) _ s₄
  refine seg_execs_cons (seg_If (tst_then (tst_cmp (ev_name kk VG.interval rfl) ev_int cmp_eq rfl) S₄.stt fun s₅ k₅ _ => ?_))
  have S₅ := (st_keeps (str := true) S₄ k₅).1
  rw [if_pos (by decide)]
  show Seg _ _ _ _ _ _ _ ((execs [_, _] env).wrap _ _ _ _) _ s₅
  refine seg_execs_cons (seg_If (tst_then (tst_cmp (ev_name (σ := gσ none (some 0)) (d := optD none) kk VG.last rfl) ev_none (cmp_isn (l := none)) rfl) S₅.stt fun s₆ k₆ _ => ?_))
  have S₆ := (st_keeps (str := true) S₅ k₆).1
  rw [if_pos (by decide)]
  show Seg _ _ _ _ _ _ _ ((execs [_] env).wrap _ _ _ _) _ s₆
  refine seg_execs_cons (seg_wrap (Raise_madeB PySem.F.excCall_ValueError PySem.F.excRaise_ValueError (hO _) (wp_bname G KE S₆.up kV gve bve ⟨rfl, ?_⟩) rfl rfl))
  refine ev_mono ((evs_cons ev_str evs_nil).run _ s₆ _ S₆.stt) ?_
  rintro vs' s₇ ⟨k₇, r₇⟩
  obtain ⟨v', vs'', rfl, hd', hr'⟩ := rdl_cons.mp r₇
  obtain rfl := rdl_nil.mp hr'
  obtain ⟨tm, rfl⟩ := rd_str.mp hd'
  refine ⟨by rw [sizeLine_eq]; simp, fun h₈ e hm => ?_⟩
  have k37 := kp_trans k₄ (kp_trans k₅ (kp_trans k₆ k₇))
  have u₇ : Uts env.locals s.heap s₇.heap := u₃.trans (Uts.of (Heap.UpToSlots.of_keeps (kp_heap k37)))
  have hB₇ : B.StaysIn s₇.heap := fun b o e => kp_heap k37 b o (hB₃ b o e)
  have hF₇ : s₇.heap.FunFrames B (env :: outer) := by
    obtain ⟨m, o, es, ep, ho, hd, _⟩ := S₃.ns
    exact ⟨by rw [kk]; decide, ⟨env.locals, o, F.frame, hBL, kp_heap k37 _ _ ho, fun vs h => by rw [hd] at h; cases h⟩, u₇.frames hFF hne⟩
  obtain ⟨hh₇, tk₇, e₇⟩ : ∃ h tk, s₇ = { s with heap := h, toks := tk } := by
    obtain ⟨h, tk', e⟩ := hsm₃
    obtain ⟨h', tk'', e', _⟩ := k37
    subst e; exact ⟨h', tk'', e'⟩
  refine seg_wrap (wpAny_bind (looks_madeW (h := s₇.heap) (hFr _ rfl) F.frame hB₇ hF₇ hm.of fun h₉ t held tup hBt u₉ => wpAny_theTreesLotGoes ?_))
  refine seg_leaf (.error (.ref e)) ?_
  show Seg _ _ _ _ _ _ _ (((_ : Sem Unit) >>= fun _ => (Sem.raise (.ref e) : Sem Flow)).wrap _ _ _ _) [] _
  obtain ⟨oe, ws, T, hoe, hoed, hT⟩ := heldW_tb held
  refine seg_bind_wrap (wpAny_bind (wpAny_field hoe hoed hT ?_))
  rw [if_neg (show ¬ ((Value.ref T == Value.none) = true) from by simp)]
  rw [F.frame]
  refine setFlight_heldW held fun h₁₀ held' u₁₀ => ?_
  show Seg _ _ _ _ _ _ _ ((leaving env (.ref e)).wrap _ _ _ _) [] _
  refine seg_wrap ?_
  unfold leaving
  refine wpAny_bind (wpAny_noteFrame_againW F.frame held'.2.2.2 (wpAny_landsW held' fun h₁₁ hfl u₁₁ => ?_))
  obtain ⟨f1, f2, ⟨_, _, f3⟩, f4⟩ := hfl
  refine seg_end (.error (.ref e)) ⟨e, rfl, ⟨h₁₁, tk₇, by rw [e₇]⟩, ?_, t, tm, ⟨f1, f2, f3, f4⟩, hBt, (tup.of_slots u₁₀).of_slots u₁₁⟩
  exact u₇.trans (((Uts.of (Heap.UpToSlots.of_keeps hm.keeps)).trans (Uts.of u₉)).trans ((Uts.of u₁₀).trans (Uts.of u₁₁)))
end
end Mine

-- G7
namespace Mine
open PySem PySem.Calls PyProof.Rows PySem.W

section
variable {prog : Program} {w : World} {A : Around} {E : Value → Shared → Prop} {s : Shared}

theorem nextOf_range_item {it : Addr} {x left step : Int} {Q : Value → Shared → Prop} (hit : IsRangeIter s.heap it x left step) (hleft : 0 < left)
    (hQ : ∀ h', IsRangeIter h' it (x + step) (left - 1) step → Heap.SameBut it s.heap h' → Q (.int x s.toks) { s with heap := h', toks := s.toks + 1 }) :
    wpAny (model prog w) A (Builtin.SmallTypes.nextOf (.ref it)) Q E s := by
  have hT : s.TypeIs (.ref it) "range_iterator" := ⟨_, hit, rfl⟩
  unfold Builtin.SmallTypes.nextOf
  refine wpAny_bind (wpAny_callSpecial?_slot (name := Str.ofString "__next__") hT F.slot_range_iterator_next
    (call_meets F.slot_range_iterator_next hT F.entry_range_iterator_next (F.args_range_iterator_next_1 _) (AutoRange.range_iterator___next___range_iterator_1 it x left step (by omega)) ⟨hit, ?_⟩))
  exact wpAny_pure (hQ _ (Heap.get?_update_self _ (Heap.get?_update_self _ hit rfl) rfl) ((Heap.SameBut.update ..).trans (Heap.SameBut.update ..)))

theorem nextOf_range_end {it : Addr} {x left step : Int} {Q : Value → Shared → Prop} (hh : A.handled = none) (hit : IsRangeIter s.heap it x left step) (hleft : left ≤ 0)
    (hE : ∀ h' e, Heap.ExtBut it s.heap h' → (∃ o, h'.get? e = some o ∧ o.cls = .type "StopIteration") → E (.ref e) { s with heap := h' }) : wpAny (model prog w) A (Builtin.SmallTypes.nextOf (.ref it)) Q E s := by
  have hT : s.TypeIs (.ref it) "range_iterator" := ⟨_, hit, rfl⟩
  unfold Builtin.SmallTypes.nextOf
  refine wpAny_bind (wpAny_callSpecial?_slot (name := Str.ofString "__next__") hT F.slot_range_iterator_next
    (wpAny_call_entry F.slot_range_iterator_next hT F.entry_range_iterator_next ?_ (F.args_range_iterator_next_1 _)))
  show wpAny _ _ (field (.ref it) 0 >>= _) _ _ s
  refine wpAny_bind (wpAny_field hit rfl (x := rawInt x) rfl ?_)
  show wpAny _ _ (field (.ref it) 1 >>= _) _ _ s
  refine wpAny_bind (wpAny_field hit rfl (x := rawInt left) rfl ?_)
  show wpAny _ _ (field (.ref it) 2 >>= _) _ _ s
  refine wpAny_bind (wpAny_field hit rfl (x := rawInt step) rfl ?_)
  show wpAny _ _ (if left ≤ 0 then _ else _) _ _ s
  rw [if_pos hleft]
  refine wpAny_bind (wpAny_rule (wpAny_bind ?_))
  show wpAny _ _ (newExc (.type "StopIteration") [] >>= _) _ _ _
  refine wpAny_bind ?_
  simp only [newExc, newTuple]
  refine wpAny_bind (wpAny_newObj_type ?_ (by size_fits))
  refine wpAny_bind (m := firstArgMember _ _) (wpAny_of_eq (a := Value.none) (by first | rfl | (simp only [firstArgMember]; rfl)) ?_)
  refine wpAny_newObj_type ?_ (by size_fits)
  simp only [raiseNew]
  refine wpAny_bind (wpAny_handled ?_)
  first | rw [show A.in1.handled = none from hh] | rw [hh]
  refine wpAny_bind (wpAny_pure (wpAny_throw ?_))
  exact hE _ _ (((Heap.ExtBut.refl it s.heap).push _).push _) ⟨_, Heap.get?_push_size _ rfl, rfl⟩

/-- the two draws of zip(range(..), g) -/
theorem zip_draw2 {z TI TO i1 i2 : Addr} {x left : Int} {a b : Value} {Q : Value → Shared → Prop} (dz1 : TO ≠ z) (dz2 : i1 ≠ z) (dz3 : TO ≠ i1) (dz4 : TI ≠ z) (dz5 : TI ≠ i1) (dz6 : TI ≠ TO)
    (hz : IsZip s.heap z TI TO .none) (hTI : IsPair s.heap TI (.ref i1) (.ref i2)) (hTO : IsPair s.heap TO a b) (h1 : IsRangeIter s.heap i1 x left 1) (hleft : 0 < left)
    (hgen : ∀ h' tk t, IsZip h' z TI TO .ellipsis → IsPair h' TO (.int x t) b → IsRangeIter h' i1 (x + 1) (left - 1) 1 → (∀ c o, c ≠ z → c ≠ TO → c ≠ i1 → s.heap.get? c = some o → h'.get? c = some o) →
      wpAny (model prog w) A (Builtin.SmallTypes.nextOf (.ref i2)) (fun y s₄ => IsZip s₄.heap z TI TO .ellipsis ∧ IsPair s₄.heap TO (.int x t) b ∧
          ∀ h₅, IsZip h₅ z TI TO (rawInt s₄.heap.objs.size) → IsPair h₅ TO (.int x t) y → IsPair h₅ s₄.heap.objs.size (.int x t) y → (∀ c o, c ≠ z → c ≠ TO → s₄.heap.get? c = some o → h₅.get? c = some o) → Q (.ref s₄.heap.objs.size) { s₄ with heap := h₅ })
        (fun e s₄ => wpAny (model prog w) A (setField (.ref z) 0 .none) (fun _ s₅ => E e s₅) E s₄) { s with heap := h', toks := tk }) :
    wpAny (model prog w) A (Builtin.«zip.__next__» ⟨[.ref z], []⟩) (fun fin s' => ∃ v, fin = .done (.ret v) ∧ Q v s') E s := by
  show wpAny _ _ (field (.ref z) 2 >>= _) _ _ _
  refine wpAny_bind (wpAny_field hz rfl (x := .bool false) rfl ?_)
  show wpAny _ _ (field (.ref z) 3 >>= _) _ _ _
  refine wpAny_bind (wpAny_field hz rfl (x := .ref TI) rfl ?_)
  refine wpAny_bind (wpAny_seqItems hTI rfl ?_)
  show wpAny _ _ (Builtin.SmallTypes.ownedTupleIsFree (.ref z) >>= _) _ _ _
  refine wpAny_bind ?_
  unfold Builtin.SmallTypes.ownedTupleIsFree
  refine wpAny_bind (wpAny_field hz rfl (x := .none) rfl (wpAny_pure ?_))
  simp only [if_true]
  refine wpAny_bind (wpAny_rule ?_)
  refine wpAny_bind (wpAny_field hz rfl (x := .ref TO) rfl ?_)
  refine wpAny_bind (wpAny_setField_rec hz (by simp) fun h₁ hz₁ hs₁ => ?_)
  replace hz₁ : IsZip h₁ z TI TO .ellipsis := hz₁
  refine wpAny_bind ?_
  simp only [List.zipIdx_cons, List.zipIdx_nil, List.forIn_cons, List.forIn_nil]
  refine wpAny_bind (wpAny_bind (wpAny_onRaise ?_))
  show wpAny _ _ (Builtin.SmallTypes.nextOf (.ref i1) >>= _) _ _ _
  refine wpAny_bind (nextOf_range_item (hs₁.extBut _ _ dz2 h1) hleft fun h₂ h1₂ hs₂ => wpAny_pure ?_)
  have hTO₂ : IsPair h₂ TO a b := hs₂.extBut _ _ dz3 (hs₁.extBut _ _ dz1 hTO)
  refine wpAny_bind (wpAny_seqItems hTO₂ rfl ?_)
  refine wpAny_bind (wpAny_updateSeq_pair hTO₂ fun h₃ hTO₃ hs₃ => ?_)
  refine wpAny_bind (wpAny_letGo (wpAny_pure ?_))
  refine wpAny_bind (wpAny_bind (wpAny_onRaise ?_))
  show wpAny _ _ (Builtin.SmallTypes.nextOf (.ref i2) >>= _) _ _ _
  have hk₃ : ∀ c o, c ≠ z → c ≠ TO → c ≠ i1 → s.heap.get? c = some o → h₃.get? c = some o := fun c o c1 c2 c3 e => hs₃.extBut _ _ c2 (hs₂.extBut _ _ c3 (hs₁.extBut _ _ c1 e))
  have hz₃ : IsZip h₃ z TI TO .ellipsis := hs₃.extBut _ _ dz1.symm (hs₂.extBut _ _ dz2.symm hz₁)
  have h1₃ : IsRangeIter h₃ i1 (x + 1) (left - 1) 1 := hs₃.extBut _ _ dz3.symm h1₂
  refine wpAny_bind (wpAny_mono (hgen h₃ _ _ hz₃ hTO₃ h1₃ hk₃) (fun y s₄ h => wpAny_pure ?_) fun _ _ h => h)
  obtain ⟨hz₄, hTO₄, hQ⟩ := h
  refine wpAny_bind (wpAny_seqItems hTO₄ rfl ?_)
  refine wpAny_bind (wpAny_updateSeq_pair hTO₄ fun h₅ hTO₅ hs₅ => ?_)
  replace hTO₅ : IsPair h₅ TO (.int x s.toks) y := hTO₅
  refine wpAny_bind (wpAny_letGo (wpAny_pure (wpAny_pure ?_)))
  refine wpAny_bind (wpAny_seqItems hTO₅ rfl ?_)
  refine wpAny_bind (wpAny_newTuple ?_)
  have hz₅ : IsZip h₅ z TI TO .ellipsis := hs₅.extBut _ _ dz1.symm hz₄
  have hzlt : z < h₅.objs.size := Heap.lt_size hz₅
  have hsz : h₅.objs.size = s₄.heap.objs.size := hs₅.1
  show wpAny _ _ (Builtin.SmallTypes.ownedTupleHandOut (.ref z) (.ref h₅.objs.size) >>= _) _ _ _
  refine wpAny_bind ?_
  unfold Builtin.SmallTypes.ownedTupleHandOut
  have hz₆ : IsZip (h₅.push { cls := .type "tuple", data := .seq #[.int x s.toks, y] }) z TI TO .ellipsis := Heap.get?_push_of_some _ hz₅
  refine wpAny_bind (wpAny_setField_rec hz₆ (by simp) fun h₇ hz₇ hs₇ => ?_)
  replace hz₇ : IsZip h₇ z TI TO (rawInt h₅.objs.size) := hz₇
  refine wpAny_setField_rec hz₇ (by simp) fun h₈ hz₈ hs₈ => ?_
  replace hz₈ : IsZip h₈ z TI TO (rawInt h₅.objs.size) := hz₈
  have up : ∀ c o, c ≠ z → h₅.get? c = some o → h₈.get? c = some o := fun c o c1 e => hs₈.extBut _ _ c1 (hs₇.extBut _ _ c1 (Heap.get?_push_of_some _ e))
  have hT₈ : IsPair h₈ h₅.objs.size (.int x s.toks) y := hs₈.extBut _ _ (Nat.ne_of_gt hzlt) (hs₇.extBut _ _ (Nat.ne_of_gt hzlt) (Heap.get?_push_size _ rfl))
  rw [hsz] at hz₈ hT₈
  refine wpAny_pure ⟨_, rfl, ?_⟩
  show Q (.ref h₅.objs.size) _
  rw [hsz]
  exact hQ h₈ hz₈ (up _ _ dz1 hTO₅) hT₈ fun c o c1 c2 e => up c o c1 (hs₅.extBut _ _ c2 e)

theorem zip_end1 {z TI TO i1 i2 : Addr} {x left : Int} {a b : Value} {Q : Fin → Shared → Prop} (hh : A.handled = none) (dz1 : TO ≠ z) (dz2 : i1 ≠ z)
    (hz : IsZip s.heap z TI TO .none) (hTI : IsPair s.heap TI (.ref i1) (.ref i2)) (hTO : IsPair s.heap TO a b) (h1 : IsRangeIter s.heap i1 x left 1) (hleft : left ≤ 0)
    (hE : ∀ h' e, (∀ c o, c ≠ z → c ≠ i1 → s.heap.get? c = some o → h'.get? c = some o) → (∃ o, h'.get? e = some o ∧ o.cls = .type "StopIteration") → E (.ref e) { s with heap := h' }) :
    wpAny (model prog w) A (Builtin.«zip.__next__» ⟨[.ref z], []⟩) Q E s := by
  show wpAny _ _ (field (.ref z) 2 >>= _) _ _ _
  refine wpAny_bind (wpAny_field hz rfl (x := .bool false) rfl ?_)
  show wpAny _ _ (field (.ref z) 3 >>= _) _ _ _
  refine wpAny_bind (wpAny_field hz rfl (x := .ref TI) rfl ?_)
  refine wpAny_bind (wpAny_seqItems hTI rfl ?_)
  show wpAny _ _ (Builtin.SmallTypes.ownedTupleIsFree (.ref z) >>= _) _ _ _
  refine wpAny_bind ?_
  unfold Builtin.SmallTypes.ownedTupleIsFree
  refine wpAny_bind (wpAny_field hz rfl (x := .none) rfl (wpAny_pure ?_))
  simp only [if_true]
  refine wpAny_bind (wpAny_rule ?_)
  refine wpAny_bind (wpAny_field hz rfl (x := .ref TO) rfl ?_)
  refine wpAny_bind (wpAny_setField_rec hz (by simp) fun h₁ hz₁ hs₁ => ?_)
  replace hz₁ : IsZip h₁ z TI TO .ellipsis := hz₁
  refine wpAny_bind ?_
  simp only [List.zipIdx_cons, List.zipIdx_nil, List.forIn_cons, List.forIn_nil]
  refine wpAny_bind (wpAny_bind (wpAny_onRaise ?_))
  show wpAny _ _ (Builtin.SmallTypes.nextOf (.ref i1) >>= _) _ _ _
  refine wpAny_bind (nextOf_range_end hh (hs₁.extBut _ _ dz2 h1) hleft fun h₂ e hs₂ he => ?_)
  obtain ⟨oe, hoe, hce⟩ := he
  have hz₂ : IsZip h₂ z TI TO .ellipsis := hs₂ _ _ dz2.symm hz₁
  have hez : e ≠ z := fun x => by subst x; rw [hz₂] at hoe; cases hoe; simp at hce
  refine wpAny_setField_rec hz₂ (by simp) fun h₃ _ hs₃ => hE h₃ e (fun c o c1 c3 x => hs₃.extBut _ _ c1 (hs₂ _ _ c3 (hs₁.extBut _ _ c1 x))) ⟨oe, hs₃.extBut _ _ hez hoe, hce⟩
end
end Mine

-- G8
namespace Mine
open PySem PySem.Calls PyProof.Rows PySem.W

theorem sub_ve_stop : isSubtype (.type "ValueError") (.type "StopIteration") = pure false := by rw [isSubtype_type]; kernel_rfl

section
variable {prog : Program} {w : World} {A : Around} {E : Value → Shared → Prop} {s : Shared}

theorem nextOf_gen {a : Addr} {g n : Nat} {gs : GenState} {R : GenEnd} {Y : Protocol} {Q : Value → Shared → Prop} (hh : A.handled = none) (hl : s.heap.NoLimit) (hroom : A.depth < recursionLimit) (hg : s.heap.IsGen a g) (hgs : s.gens[g]? = some gs)
    (hgo : gs.Goes (model prog w) A.in1 R Y n (.send .none) (s.setGen g .running))
    (hR : ∀ x s₁, R n (s.setGen g .running) x s₁ →
      (x = .ok (.ret .none) ∧ ∀ h' e, (∀ b o, s₁.heap.get? b = some o → h'.get? b = some o) → (∃ o, h'.get? e = some o ∧ o.cls = .type "StopIteration") → E (.ref e) { s₁.setGen g .finished with heap := h' }) ∨
      (∃ e, x = .error (.ref e) ∧ s₁.heap.IsGen a g ∧ (∃ o, s₁.heap.get? e = some o ∧ o.cls = .type "ValueError") ∧ E (.ref e) (s₁.setGen g .finished)))
    (hY : ∀ v s₁ gs', gs'.bare = true → Y (n - 1) (s.setGen g .running) v s₁ (fun r' s'' => match n with
        | 0 => False
        | m + 1 => gs'.Goes (model prog w) A.in1 R Y m r' s'') → Q v (s₁.setGen g gs')) :
    wpAny (model prog w) A (Builtin.SmallTypes.nextOf (.ref a)) Q E s := by
  unfold Builtin.SmallTypes.nextOf
  refine wpAny_bind (wpAny_callSpecial?_slot (name := Str.ofString "__next__") hg.typeIs slot_gen_next
    (wpAny_call_entry slot_gen_next hg.typeIs entry_gen_next ?_ (args_gen_next _)))
  show wpAny _ A.in1 (Builtin.Generator.genWake (.ref a) (.send .none)) _ _ s
  unfold Builtin.Generator.genWake
  refine wpAny_bind (wpAny_holding (wpAny_genNumber hg (wpAny_bind (wpAny_genState hgs ?_))))
  cases gs with
  | running => exact hgo.elim
  | finished => exact hgo.elim
  | _ =>
    refine wpAny_bind (wpAny_roomToWake hl hroom ?_)
    show wpAny _ A.in1 (.resume g (.send .none) [] _) _ _ s
    refine wpAny_resumeQ hgs hgo (fun x s₁ hx => ?_) (fun v s₁ gs' hb hv => ?_)
    · rcases hR x s₁ hx with ⟨rfl, hE⟩ | ⟨e, rfl, hg₁, ⟨oe, hoe, hce⟩, hE⟩
      · show wpAny _ A.in1 (newExc (.type "StopIteration") [] >>= _) _ _ _
        refine wpAny_bind ?_
        simp only [newExc, newTuple]
        refine wpAny_bind (wpAny_newObj_type ?_ (by size_fits))
        refine wpAny_bind (m := firstArgMember _ _) (wpAny_of_eq (a := Value.none) (by first | rfl | (simp only [firstArgMember]; rfl)) ?_)
        refine wpAny_newObj_type ?_ (by size_fits)
        simp only [raiseNew]
        refine wpAny_bind (wpAny_bind (wpAny_handled ?_))
        first | rw [show A.in1.handled = none from hh] | rw [hh]
        refine wpAny_throw ?_
        exact hE _ _ (fun b o hb => Heap.get?_push_of_some _ (Heap.get?_push_of_some _ hb)) ⟨_, Heap.get?_push_size _ rfl, rfl⟩
      · obtain ⟨og, nm, qn, hog, hogc, hogd, hogs⟩ := hg₁
        show wpAny _ A.in1 (Builtin.Generator.genLeft (.ref a) (.ref e)) _ _ _
        unfold Builtin.Generator.genLeft
        refine wpAny_bind ?_
        unfold Builtin.Generator.madeByALambda
        refine wpAny_bind (wpAny_load (show (s₁.setGen g .finished).heap.get? a = some og from hog) ?_)
        refine wpAny_pure ?_
        rw [hogd]
        have e1 : ((og.cls == Value.type "generator") && (match Data.fields #[Value.int g 0, nm, qn] with | .fields vs => vs[3]? == some (.bool true) | _ => false)) = false := by
          rw [Bool.and_eq_false_iff]; right; rfl
        rw [e1]
        refine wpAny_bind (wpAny_isInstance (T := "ValueError") (b := false) ⟨oe, hoe, hce⟩ sub_ve_stop ?_)
        rw [Bool.false_and, if_neg Bool.false_ne_true]
        show wpAny _ _ (Builtin.Generator.genEscaped (.ref e)) _ _ _
        unfold Builtin.Generator.genEscaped
        refine wpAny_bind (wpAny_isInstance (T := "ValueError") (b := false) ⟨oe, hoe, hce⟩ sub_ve_stop ?_)
        rw [if_pos (by decide)]
        first
          | exact wpAny_throw hE
          | exact wpAny_bind (wpAny_throw hE)
    · exact wpAny_pure ⟨v, rfl, wpAny_pure (hY v s₁ gs' hb hv)⟩
end
end Mine

-- G9
namespace Mine
open PySem PySem.Calls PyProof.Rows PySem.W

theorem bare_setGen {s : Shared} {g : Nat} {x : GenState} (h : AllBare s.gens) (hx : x.bare = true) : AllBare (s.setGen g x).gens := by
  intro y hy
  have hy' : y ∈ s.gens.setIfInBounds g x := hy
  rcases Array.mem_or_eq_of_mem_setIfInBounds hy' with h1 | h1
  · exact h y h1
  · rw [h1]; exact hx

/-- what the world outside leaves the generator -/
structure GLeft (h₀ : Heap) (os : OsState) (a ag : Addr) (g : Nat) (pv : Addr → Prop) (s s'' : Shared) : Prop where
  keep : ∀ b o, (pv b ∨ b = a ∨ b = ag) → s.heap.get? b = some o → s''.heap.get? b = some o
  up : Up h₀ s''.heap
  old : OldK h₀ s''.heap
  bare : AllBare s''.gens
  os : s''.os = os
  gen : s''.gens[g]? = s.gens[g]?
/-- what the generator leaves the world outside -/
structure GDone (os : OsState) (pv pv' : Addr → Prop) (s'' s₃ : Shared) : Prop where
  keep : ∀ b o, ¬ pv b → s''.heap.get? b = some o → s₃.heap.get? b = some o
  bare : AllBare s₃.gens
  os : s₃.os = os
  pv : ∀ b, pv' b → pv b ∨ s''.heap.get? b = none
/-- the generator gives tl, asked n times at most -/
def GG (prog : Program) (w : World) (A : Around) (h₀ : Heap) (os : OsState) (a ag : Addr) (g : Nat) : Nat → List Int → (Addr → Prop) → Shared → Prop
  | 0, _, _, _ => True
  | n + 1, tl, pv, s => ∀ s'', GLeft h₀ os a ag g pv s s'' → ∀ (Q : Value → Shared → Prop) (E : Value → Shared → Prop),
      (∀ x tl' t s₃ pv', tl = x :: tl' → GDone os pv pv' s'' s₃ → GG prog w A h₀ os a ag g n tl' pv' s₃ → Q (.int x t) s₃) →
      (∀ e s₃, tl = [] → GDone os pv pv s'' s₃ → (∃ o, s₃.heap.get? e = some o ∧ o.cls = .type "StopIteration") → E (.ref e) s₃) →
      wpAny (model prog w) A (Builtin.SmallTypes.nextOf (.ref ag)) Q E s''

section
variable {prog : Program} {w : World} {h₀ : Heap} {os : OsState} {A : Around} {env : Env} {mg mb : Str → Option Value} {a ag I L : Addr} {g : Nat} {vs : List Value} {sz : List Int}

theorem gg_step (lim : h₀.NoLimit) (hA : A.handled = none) (hd : A.depth < recursionLimit) {N : Nat} {gl : List Int} {n : Nat} {s'' : Shared} {gs : GenState} {pv : Addr → Prop} (up : Up h₀ s''.heap) (hb : AllBare s''.gens) (hos : s''.os = os) (hg : s''.heap.IsGen ag g) (hgs : s''.gens[g]? = some gs) (hn : n + 1 ≤ N) (hlen : gl.length ≤ N)
    (hgo : gs.Goes (model prog w) A.in1 (genR L I N gl) (genY h₀ os L I a N gl) (n + 1) (.send .none) (s''.setGen g .running)) (hpv : ∀ b, gW L I b → pv b ∨ s''.heap.get? b = none)
    (ih : ∀ s₃ gs', s₃.heap.IsGen ag g → s₃.gens[g]? = some gs' → (0 < n → ∀ s4, GAfter h₀ os L I a s₃ s4 → gs'.Goes (model prog w) A.in1 (genR L I N gl) (genY h₀ os L I a N gl) n (.send .none) s4) → GG prog w A h₀ os a ag g n (gl.drop (N - n)) (gW L I) s₃)
    (hagpv : ¬ pv ag) (Q : Value → Shared → Prop) (E : Value → Shared → Prop)
    (hQ : ∀ x tl' t s₃ pv', gl.drop (N - (n + 1)) = x :: tl' → GDone os pv pv' s'' s₃ → GG prog w A h₀ os a ag g n tl' pv' s₃ → Q (.int x t) s₃)
    (hE : ∀ e s₃, gl.drop (N - (n + 1)) = [] → GDone os pv pv s'' s₃ → (∃ o, s₃.heap.get? e = some o ∧ o.cls = .type "StopIteration") → E (.ref e) s₃) :
    wpAny (model prog w) A (Builtin.SmallTypes.nextOf (.ref ag)) Q E s'' := by
  refine nextOf_gen hA (up.lim lim) hd hg hgs hgo (fun x s₁ hR => ?_) fun v s₁ gs' hbare hY => ?_
  · obtain ⟨rfl, hl, k⟩ := hR
    refine .inl ⟨rfl, fun h' e kk hst => hE e _ ?_ ⟨fun b o hb e => ?_, ?_, ?_, fun b h => .inl h⟩ hst⟩
    · rw [List.drop_eq_nil_of_le (by omega)]
    · refine kk b o (kx_heap k b o (fun h => ?_) e)
      rcases hpv b h with q | q
      · exact hb q
      · rw [show s''.heap.get? b = some o from e] at q; cases q
    · obtain ⟨h2, tk, e2, _⟩ := k
      subst e2
      exact bare_setGen (s := { s''.setGen g .running with heap := h2, toks := tk }) (bare_setGen hb rfl) rfl
    · obtain ⟨h2, tk, e2, _⟩ := k
      subst e2; exact hos
  · obtain ⟨⟨x, t, hx, rfl⟩, k, hk⟩ := hY
    rw [Nat.add_sub_cancel] at hx hk
    have hdr : gl.drop (N - (n + 1)) = x :: gl.drop (N - n) := by
      have e : N - 1 - n = N - (n + 1) := by omega
      rw [e] at hx
      obtain ⟨hlt, hget⟩ := List.getElem?_eq_some_iff.mp hx
      rw [List.drop_eq_getElem_cons hlt, hget, show N - (n + 1) + 1 = N - n from by omega]
    have hgens : s₁.gens = (s''.setGen g .running).gens := by obtain ⟨h2, tk, e2, _⟩ := k; rw [e2]
    refine hQ x _ t _ (gW L I) hdr ⟨fun b o hb e => kx_heap k b o (fun h => ?_) e, ?_, ?_, hpv⟩ ?_
    · rcases hpv b h with q | q
      · exact hb q
      · rw [e] at q; cases q
    · refine bare_setGen ?_ hbare
      rw [hgens]; exact bare_setGen hb rfl
    · obtain ⟨h2, tk, e2, _⟩ := k
      subst e2; exact hos
    · have hg₁ : s₁.heap.IsGen ag g := by
        obtain ⟨o, nm, qn, ho, r⟩ := hg
        refine ⟨o, nm, qn, kx_heap k ag o (fun h => ?_) ho, r⟩
        rcases hpv ag h with q | q
        · exact hagpv q
        · rw [ho] at q; cases q
      refine ih (s₁.setGen g gs') gs' hg₁ (setGen_self (gs := .running) (by rw [hgens]; exact setGen_self hgs)) fun h0 s4 haf => hk h0 s4 haf

theorem gg_goes (lim : h₀.NoLimit) (hA : A.handled = none) (hd : A.depth < recursionLimit) {N : Nat} {gl : List Int} (hlen : gl.length ≤ N) (hagL : ag ≠ L) (hagI : ag ≠ I) : ∀ (n : Nat) (s : Shared) (gs : GenState), n ≤ N → s.heap.IsGen ag g → s.gens[g]? = some gs →
    (0 < n → ∀ s4, GAfter h₀ os L I a s s4 → gs.Goes (model prog w) A.in1 (genR L I N gl) (genY h₀ os L I a N gl) n (.send .none) s4) → GG prog w A h₀ os a ag g n (gl.drop (N - n)) (gW L I) s
  | 0, _, _, _, _, _, _ => trivial
  | n + 1, s, gs, hn, hg, hgs, hgo => by
    intro s'' HL Q E hQ hE
    have hg'' : s''.heap.IsGen ag g := by
      obtain ⟨o, nm, qn, ho, r⟩ := hg
      exact ⟨o, nm, qn, HL.keep ag o (.inr (.inr rfl)) ho, r⟩
    refine gg_step lim hA hd (I := I) (L := L) HL.up HL.bare HL.os hg'' (HL.gen.trans hgs) hn hlen (hgo (by omega) _ ?_) (fun b h => .inl h) (fun s₃ gs' h1 h2 h3 => gg_goes lim hA hd hlen hagL hagI n s₃ gs' (by omega) h1 h2 h3) (fun h => h.elim hagL hagI) Q E hQ hE
    refine ⟨fun b o hb e => ?_, HL.up, HL.old, bare_setGen HL.bare rfl, HL.os⟩
    refine HL.keep b o ?_ e
    rcases hb with h | h | h
    · exact .inl (.inl h)
    · exact .inl (.inr h)
    · exact .inr (.inl h)
end
end Mine

-- G10
namespace Mine
open PySem PySem.Calls PyProof.Rows PySem.W

theorem genTake_len : ∀ (sz : List Int) (last : Option Int) (n : Nat) (gl : List Int), genTake sz last n = some gl → gl.length ≤ n
  | _, _, 0, gl, h => by
    unfold genTake at h
    cases h; exact Nat.le_refl _
  | [], _, n + 1, gl, h => by
    unfold genTake at h
    cases h; exact Nat.zero_le _
  | x :: r, last, n + 1, gl, h => by
    unfold genTake at h
    by_cases h1 : x = 127
    · rw [if_pos h1] at h; cases h; exact Nat.zero_le _
    rw [if_neg h1] at h
    by_cases h2 : x = 0
    · rw [if_pos h2] at h
      cases last with
      | none => cases h
      | some l => cases h; simp
    rw [if_neg h2] at h
    cases h3 : genTake r (some x) n with
    | none => rw [h3] at h; cases h
    | some tl =>
      rw [h3] at h
      cases h
      have := genTake_len r (some x) n tl h3
      simp; omega

section
variable {prog : Program} {w : World} {h₀ : Heap} {os : OsState} {A : Around} {env : Env} {mg mb : Str → Option Value} {a ag : Addr} {g : Nat} {vs : List Value} {sz : List Int}

/-- the generator's frame before it has run -/
theorem gfresh_sto (F : GEnv h₀ env) {s : Shared} {m : Str → Option Value} (up : Up h₀ s.heap) (old : OldK h₀ s.heap) (hn : s.heap.Ns env.locals m) (hb : AllBare s.gens) : StO nmG prog w h₀ s.os env (fun _ => none) (fun _ => none) s :=
  ⟨up, old, fun x d h => (nomatch h), fun x b h => (nomatch h), fun x y a h => (nomatch h), fun x a h => (nomatch h), ⟨m, hn⟩, fun c hc => (by rw [F.cells] at hc; exact nomatch hc), hb, rfl⟩

theorem gg_fresh (F : GEnv h₀ env) (G : Glo h₀ mg mb) {tc : Tok} (gcm : mg "CHAR_MAX" = some (.int 127 tc)) (hA : A.handled = none) (hd : A.depth < recursionLimit) (hvs : IntsAre vs sz) {m : Nat} {gl : List Int} (hgt : genTake sz none (m + 1) = some gl) {s : Shared} {mm : Str → Option Value}
    (hn : s.heap.Ns env.locals mm) (hm : mm "grouping" = some (.ref a)) (hl : s.heap.IsList a (List.toArray vs)) (haL : a ≠ env.locals) (hagL : ag ≠ env.locals) (hg : s.heap.IsGen ag g) (hgs : s.gens[g]? = some (.fresh (.func (stBody (topSt 6)) env))) :
    GG prog w A h₀ os a ag g (m + 1) gl (fun b => b = env.locals) s := by
  intro s'' HL Q E hQ hE
  have hg'' : s''.heap.IsGen ag g := by
    obtain ⟨o, nm, qn, ho, r⟩ := hg
    exact ⟨o, nm, qn, HL.keep ag o (.inr (.inr rfl)) ho, r⟩
  have hn'' : s''.heap.Ns env.locals mm := by
    obtain ⟨o, es, ep, ho, r⟩ := hn
    exact ⟨o, es, ep, HL.keep _ o (.inl rfl) ho, r⟩
  have hl'' : s''.heap.IsList a (List.toArray vs) := hl.at fun o e => HL.keep a o (.inr (.inl rfl)) e
  have kg : env.kindOf "grouping" = some .local := by unfold Env.kindOf; rw [F.scope]; rfl
  have hlen := genTake_len _ _ _ _ hgt
  have hb' : AllBare (s''.setGen g .running).gens := bare_setGen HL.bare rfl
  have S : StO nmG prog w h₀ os env (fun _ => none) (fun _ => none) (s''.setGen g .running) := by
    have := gfresh_sto (prog := prog) (w := w) (s := s''.setGen g .running) F HL.up HL.old hn'' hb'
    rw [show (s''.setGen g .running).os = os from HL.os] at this
    exact this
  have hsg := seg_gstart (A := A.in1) F G gcm hA haL hvs hgt S (.inl ⟨kg, mm, hn'', hm⟩) hl''
  have hagI : ag ≠ s''.heap.objs.size := by
    obtain ⟨o, nm, qn, ho, r⟩ := hg''
    exact Nat.ne_of_lt (Heap.lt_size ho)
  have hd0 : gl.drop (m + 1 - (m + 1)) = gl := by rw [Nat.sub_self]; rfl
  refine gg_step G.lim hA hd (L := env.locals) (I := s''.heap.objs.size) (n := m) HL.up HL.bare HL.os hg'' (HL.gen.trans hgs) (Nat.le_refl _) hlen ⟨rfl, hsg⟩ (fun b h => ?_) (fun s₃ gs' h1 h2 h3 => gg_goes G.lim hA hd hlen hagL hagI m s₃ gs' (by omega) h1 h2 h3) hagL Q E (fun x tl' t s₃ pv' e => hQ x tl' t s₃ pv' (by rw [hd0] at e; exact e)) (fun e s₃ h => hE e s₃ (by rw [hd0] at h; exact h))
  rcases h with h | h
  · exact .inl h
  · right; rw [h]; exact fresh_none
end
end Mine

-- G11
namespace Mine
open PySem PySem.Calls PyProof.Rows PySem.W

theorem up_move {h₀ h h' : Heap} {X : Addr → Prop} (u : Up h₀ h) (hX : ∀ b, X b → h₀.get? b = none) (hk : ∀ b o, ¬ X b → h.get? b = some o → h'.get? b = some o) : Up h₀ h' := fun b o e c =>
  hk b o (fun h => by rw [hX b h] at e; cases e) (u b o e c)
theorem old_move {h₀ h h' : Heap} {X : Addr → Prop} (K : OldK h₀ h) (hX : ∀ b, X b → h₀.get? b = none) (hk : ∀ b o, ¬ X b → h.get? b = some o → h'.get? b = some o) : OldK h₀ h' := by
  have off : ∀ b o, h₀.get? b = some o → ¬ X b := fun b o e h => by rw [hX b h] at e; cases e
  constructor
  · intro b o e
    have hb := off b o e
    rcases K.old b o e with x | ⟨t, hc, vs, more, hv, x⟩ | ⟨hbc, hc, ⟨o', es, n, ho', r⟩, z⟩
    · exact .inl (hk _ _ hb x)
    · exact .inr (.inl ⟨t, hc, vs, more, hv, hk _ _ hb x⟩)
    · subst hbc
      have ho'' := hk _ _ hb ho'
      refine .inr (.inr ⟨rfl, hc, ⟨o', es, n, ho'', r⟩, fun key => ?_⟩)
      rw [OldK.staticOf_congr (ho''.trans ho'.symm) key]
      exact z key
  · intro b o e
    obtain ⟨o', e'⟩ := K.there b o e
    exact ⟨o', hk _ _ (off b o e) e'⟩

section
variable {V : Type} {nm : V → Str} {prog : Program} {w : World} {h₀ : Heap} {os os' : OsState} {env : Env} {ow : V → Option Addr} {σ : V → Option B}
/-- a frame without own objects, whose names' data is let go, behind a turn of X's places -/
theorem sto_move {s s' : Shared} {X : Addr → Prop} (hc : env.cells = []) (S : StO nm prog w h₀ os env ow σ s) (hX : ∀ b, X b → h₀.get? b = none ∧ b ≠ env.locals) (hk : ∀ b o, ¬ X b → s.heap.get? b = some o → s'.heap.get? b = some o) (hb : AllBare s'.gens) (ho : s'.os = os) :
    StO nm prog w h₀ os env (fun _ => none) (fun _ => none) s' := by
  refine ⟨up_move S.up (fun b h => (hX b h).1) hk, old_move S.old (fun b h => (hX b h).1) hk, fun x d h => (nomatch h), fun x b h => (nomatch h), fun x y a h => (nomatch h), fun x a h => (nomatch h), ?_, fun c h => (by rw [hc] at h; exact nomatch h), hb, ho⟩
  obtain ⟨m, o, es, ep, ho, r⟩ := S.ns
  exact ⟨m, o, es, ep, hk _ o (fun h => (hX _ h).2 rfl) ho, r⟩
end

inductive VT where
  | turn | size
deriving DecidableEq
def nmT : VT → Str
  | .turn => "turn"
  | .size => "size"
theorem nmT_inj : ∀ x y, nmT x = nmT y → x = y := by
  intro x y h
  cases x <;> cases y <;> first | rfl | (revert h; decide)

/-- the places of zip, of the comprehension, of its list -/
structure ZPl where
  z : Addr
  TI : Addr
  TO : Addr
  i1 : Addr
  ag : Addr
  D₁ : Addr
def ZPl.all (p : ZPl) (C : Addr) : List Addr := [p.z, p.TI, p.TO, p.i1, p.ag, p.D₁, C]

structure ZInv (prog : Program) (w : World) (A : Around) (h₀ : Heap) (os : OsState) (cenv : Env) (hT : Heap) (p : ZPl) (a : Addr) (g : Nat) (N : Nat) (gl : List Int) (j : Nat) (pv : Addr → Prop) (ys : List Value) (s : Shared) : Prop where
  st : StO nmT prog w h₀ os cenv (fun _ => none) (fun _ => none) s
  z : IsZip s.heap p.z p.TI p.TO .none
  ti : IsPair s.heap p.TI (.ref p.i1) (.ref p.ag)
  to : ∃ a b, IsPair s.heap p.TO a b
  rg : IsRangeIter s.heap p.i1 (j : Int) ((N - j : Nat) : Int) 1
  gg : GG prog w A.in1 h₀ os a p.ag g (N - j) (gl.drop j) pv s
  pvn : ∀ b, pv b → hT.get? b = none ∧ b ∉ p.all cenv.locals
  gen : ∃ o, s.heap.get? p.ag = some o
  dl : s.heap.PlainList p.D₁ (List.toArray ys)
  di : IntsAre ys (gl.take j)
  keep : ∀ b o, hT.get? b = some o → s.heap.get? b = some o

theorem ints_snoc : ∀ {vs : List Value} {ns : List Int} {x : Int} {t : Tok}, IntsAre vs ns → IntsAre (vs ++ [.int x t]) (ns ++ [x]) := by
  intro vs ns x t h
  induction h with
  | nil => exact .cons _ _ .nil
  | cons y u h ih => exact .cons _ _ ih

theorem gg_mono {prog : Program} {w : World} {A : Around} {h₀ : Heap} {os : OsState} {a ag : Addr} {g : Nat} {n : Nat} {tl : List Int} {pv : Addr → Prop} {s s₁ : Shared} (h : GG prog w A h₀ os a ag g n tl pv s) (hk : ∀ b o, (pv b ∨ b = a ∨ b = ag) → s.heap.get? b = some o → s₁.heap.get? b = some o) (hg : s₁.gens[g]? = s.gens[g]?) : GG prog w A h₀ os a ag g n tl pv s₁ := by
  cases n with
  | zero => trivial
  | succ n =>
    intro s'' HL Q E
    exact h s'' ⟨fun b o hb e => HL.keep b o hb (hk b o hb e), HL.up, HL.old, HL.bare, HL.os, HL.gen.trans hg⟩ Q E

section
variable {prog : Program} {w : World} {h₀ : Heap} {os : OsState} {A : Around} {cenv : Env} {hT : Heap} {p : ZPl} {a : Addr} {g N : Nat} {gl : List Int}

theorem zloop (hA : A.handled = none) (K : EnvOk h₀ cenv) (hc : cenv.cells = []) (kt : cenv.kindOf "turn" = some .local) (ks : cenv.kindOf "size" = some .local) (hN : N ≤ 1000)
    (nd : (p.all cenv.locals).Nodup) (hnew : ∀ b ∈ p.all cenv.locals, hT.get? b = none) (h0T : ∀ b o, h₀.get? b = some o → ∃ o', hT.get? b = some o') (haT : ∃ o, hT.get? a = some o)
    {p1 p2 p3 pt : Pos} {x1 : Nat} {iter : Expr} {scope : Scope} {pos : Pos} {R : Result → Shared → Prop}
    (hR : ∀ s' ys, (∀ b o, hT.get? b = some o → s'.heap.get? b = some o) → s'.heap.PlainList p.D₁ (List.toArray ys) → IntsAre ys gl → (∃ m, s'.heap.Ns cenv.locals m) → AllBare s'.gens → s'.os = os → R (.ok .next) s')
    (hlen : gl.length ≤ N) {s : Shared} {pv : Addr → Prop} (S : ZInv prog w A h₀ os cenv hT p a g N gl 0 pv [] s) :
    codeAny (model prog w) A (.compLoop (.ListComp (.Name "size" p3) [⟨.Tuple [.Name "turn" p1, .Name "size" p2] x1 pt, iter, [], 0⟩] scope pos) 0 (.ref p.z) (.ref p.D₁) cenv) R s := by
  have n0 : ∀ b, hT.get? b = none → h₀.get? b = none := fun b hb => by
    cases e : h₀.get? b with
    | none => rfl
    | some o => obtain ⟨o', e'⟩ := h0T b o e; rw [hb] at e'; cases e'
  have nT : ∀ b o, hT.get? b = some o → b ∉ p.all cenv.locals := fun b o e h => by rw [hnew b h] at e; cases e
  obtain ⟨z, TI, TO, i1, ag, D₁⟩ := p
  obtain ⟨oa, haT⟩ := haT
  have nd' := nd
  simp only [ZPl.all, List.nodup_cons, List.mem_cons, List.not_mem_nil, or_false, not_or] at nd'
  obtain ⟨⟨zTI, zTO, zi1, zag, zD, zC⟩, ⟨TITO, TIi1, TIag, TID, TIC⟩, ⟨TOi1, TOag, TOD, TOC⟩, ⟨i1ag, i1D, i1C⟩, ⟨agD, agC⟩, DC, -⟩ := nd'
  have naT := nT a oa haT
  simp only [ZPl.all, List.mem_cons, List.not_mem_nil, or_false, not_or] at naT
  obtain ⟨az, aTI, aTO, ai1, aag, aD, aC⟩ := naT
  have hw : ∀ b ∈ ZPl.all ⟨z, TI, TO, i1, ag, D₁⟩ cenv.locals, h₀.get? b = none := fun b h => n0 b (hnew b h)
  have hz0 := hw z (by simp [ZPl.all])
  have hTO0 := hw TO (by simp [ZPl.all])
  have hi0 := hw i1 (by simp [ZPl.all])
  have hzT := hnew z (by simp [ZPl.all])
  have hTOT := hnew TO (by simp [ZPl.all])
  have hiT := hnew i1 (by simp [ZPl.all])
  have hDT := hnew D₁ (by simp [ZPl.all])
  have hCT := hnew cenv.locals (by simp [ZPl.all])
  refine comp_loop (fun m s' => ∃ j pv ys, m = N + 1 - j ∧ j ≤ N ∧ ZInv prog w A h₀ os cenv hT ⟨z, TI, TO, i1, ag, D₁⟩ a g N gl j pv ys s') ?_ (N + 1) ⟨0, pv, [], rfl, Nat.zero_le _, S⟩
  rintro m s' ⟨j, pv, ys, rfl, hj, Z⟩
  have zT : s'.TypeIs (.ref z) "zip" := ⟨_, Z.z, rfl⟩
  obtain ⟨ta, tb, hTO⟩ := Z.to
  have pvn : ∀ b, pv b → hT.get? b = none ∧ b ≠ z ∧ b ≠ TI ∧ b ≠ TO ∧ b ≠ i1 ∧ b ≠ ag ∧ b ≠ D₁ ∧ b ≠ cenv.locals := fun b h => by
    have := Z.pvn b h
    simp only [ZPl.all, List.mem_cons, List.not_mem_nil, or_false, not_or] at this
    exact ⟨this.1, this.2⟩
  unfold pyNext
  refine wpAny_bind (wpAny_attempt (wpAny_callSpecial?_slot (name := Str.ofString "__next__") zT F.slot_zip_next (wpAny_call_entry F.slot_zip_next zT F.entry_zip_next ?_ (F.args_zip_next_1 _))))
  by_cases hjN : j < N
  · refine zip_draw2 (Ne.symm zTO) (Ne.symm zi1) TOi1 (Ne.symm zTI) TIi1 TITO Z.z Z.ti hTO Z.rg (by omega) fun h' tk t hz' hTO' h1' hk => ?_
    obtain ⟨n', hn'⟩ : ∃ n', N - j = n' + 1 := ⟨N - j - 1, by omega⟩
    have gg := Z.gg
    rw [hn'] at gg
    have hX1 : ∀ b, (b = z ∨ b = TO ∨ b = i1) → h₀.get? b = none ∧ b ≠ cenv.locals := fun b h => by
      rcases h with rfl | rfl | rfl
      · exact ⟨hz0, zC⟩
      · exact ⟨hTO0, TOC⟩
      · exact ⟨hi0, i1C⟩
    have hk1 : ∀ b o, ¬ (b = z ∨ b = TO ∨ b = i1) → s'.heap.get? b = some o → h'.get? b = some o := fun b o hb e => hk b o (fun h => hb (.inl h)) (fun h => hb (.inr (.inl h))) (fun h => hb (.inr (.inr h))) e
    have S1 := sto_move (s' := { s' with heap := h', toks := tk }) hc Z.st hX1 hk1 Z.st.bare Z.st.os
    refine gg { s' with heap := h', toks := tk } ⟨fun b o hb e => ?_, S1.up, S1.old, S1.bare, S1.os, rfl⟩ _ _ ?_ ?_
    · refine hk1 b o (fun h => ?_) e
      rcases hb with hb | rfl | rfl
      · obtain ⟨_, h1, _, h2, h3, _⟩ := pvn b hb
        rcases h with h | h | h
        · exact h1 h
        · exact h2 h
        · exact h3 h
      · rcases h with h | h | h
        · exact az h
        · exact aTO h
        · exact ai1 h
      · rcases h with h | h | h
        · exact zag h.symm
        · exact TOag h.symm
        · exact i1ag h.symm
    · -- an item
      intro x tl' t' s₃ pv' htl GD gg'
      have keep₃ := GD.keep
      have S3 : StO nmT prog w h₀ os cenv (fun _ => none) (fun _ => none) s₃ := sto_move hc S1 (X := pv) (fun b h => ⟨n0 b (pvn b h).1, (pvn b h).2.2.2.2.2.2.2⟩) keep₃ GD.bare GD.os
      have nz : ¬ pv z := fun h => (pvn z h).2.1 rfl
      have nTI : ¬ pv TI := fun h => (pvn TI h).2.2.1 rfl
      have nTO : ¬ pv TO := fun h => (pvn TO h).2.2.2.1 rfl
      have ni1 : ¬ pv i1 := fun h => (pvn i1 h).2.2.2.2.1 rfl
      have nag : ¬ pv ag := fun h => (pvn ag h).2.2.2.2.2.1 rfl
      have nD : ¬ pv D₁ := fun h => (pvn D₁ h).2.2.2.2.2.2.1 rfl
      have nC : ¬ pv cenv.locals := fun h => (pvn _ h).2.2.2.2.2.2.2 rfl
      refine ⟨keep₃ _ _ nz hz', keep₃ _ _ nTO hTO', fun h₅ hz₅ hTO₅ hT₅ hk₅ => ?_⟩
      refine wpAny_pure ?_
      show wpAny _ _ (letOwnedTupleGo _ _ _) _ _ _
      refine wpAny_letOwnedTupleGo_zip hz₅ fun h₆ hz₆ hs₆ => ?_
      have zlt : z < s₃.heap.objs.size := Heap.lt_size (keep₃ _ _ nz hz')
      obtain ⟨mC, oC, esC, epC, hoC, rC⟩ := S3.ns
      have Clt : cenv.locals < s₃.heap.objs.size := Heap.lt_size hoC
      have hk36 : ∀ b o, b ≠ z → b ≠ TO → s₃.heap.get? b = some o → h₆.get? b = some o := fun b o h1 h2 e => hs₆.extBut b o h1 (hk₅ b o h1 h2 e)
      have S6 : StO nmT prog w h₀ os cenv (fun _ => none) (fun _ => none) { s₃ with heap := h₆ } := sto_move (X := fun b => b = z ∨ b = TO) hc S3 (fun b h => by
        rcases h with rfl | rfl
        · exact ⟨hz0, zC⟩
        · exact ⟨hTO0, TOC⟩) (fun b o hb e => hk36 b o (fun h => hb (.inl h)) (fun h => hb (.inr h)) e) S3.bare S3.os
      have hT₆ : IsPair h₆ s₃.heap.objs.size (.int j t) (.int x t') := hs₆.extBut _ _ (Nat.ne_of_gt zlt) hT₅
      have cmu : ∀ {ow : VT → Option Addr} q, ow = (fun _ => none) → Mu cenv ow q → q = cenv.locals := by
        rintro ow q rfl (h | ⟨c, h, _⟩ | ⟨y, h⟩)
        · exact h
        · rw [hc] at h; cases h
        · cases h
      show wpAny _ _ (assign _ cenv _) _ _ _
      refine wp_unpack (str := true) K nmT_inj hA (fun q => q = cenv.locals) (xs := [(VT.turn, p1), (VT.size, p2)]) (ds := [.int j, .int x]) ?_ S6 ?_ rfl rfl rfl rfl fun s₇ ow₇ S₇ t₇ k₇ _ => ?_
      · intro q hq
        rcases List.mem_cons.mp hq with rfl | hq
        · exact ⟨_, .loc kt, rfl⟩
        · rw [List.mem_singleton.mp hq]; exact ⟨_, .loc ks, rfl⟩
      · refine rd_tup.mpr ⟨s₃.heap.objs.size, [.int j t, .int x t'], rfl, fun h => ?_, ⟨_, hT₆, rfl, 0, rfl⟩, rdl_cons' (rd_int.mpr ⟨_, rfl⟩) (RdL.one (rd_int.mpr ⟨_, rfl⟩))⟩
        exact absurd (cmu _ rfl h) (Nat.ne_of_gt Clt)
      refine ev_mono (tstl_nil.run s₇ _ S₇.stt) ?_
      rintro ok s₈ ⟨k₈, rfl⟩
      have S₈ := (st_keeps (str := true) S₇ k₈).1
      show wpAny _ _ (eval _ cenv) _ _ _
      refine ev_then (ev_name (d := .int x) K.kind VT.size rfl) S₈.stt fun y s₉ k₉ _ r₉ => ?_
      obtain ⟨ty, rfl⟩ := rd_int.mp r₉
      have S₉ := (st_keeps (str := true) S₈ k₉).1
      have hk39 : ∀ b o, b ≠ z → b ≠ TO → b ≠ cenv.locals → s₃.heap.get? b = some o → s₉.heap.get? b = some o := fun b o h1 h2 h3 e => kp_heap (kp_trans k₈ k₉) b o (kx_heap k₇ b o h3 (hk36 b o h1 h2 e))
      have hD₃ : s₃.heap.PlainList D₁ (List.toArray ys) := Z.dl.at fun o e => keep₃ _ o nD (hk1 D₁ o (fun h => by
        rcases h with h | h | h
        · exact zD h.symm
        · exact TOD h.symm
        · exact i1D h.symm) e)
      have hD₉ : s₉.heap.PlainList D₁ (List.toArray ys) := hD₃.at fun o e => hk39 _ o (Ne.symm zD) (Ne.symm TOD) DC e
      have hylen : ys.length ≤ 1000 := by
        rw [ints_len Z.di, List.length_take]; omega
      refine wpAny_list_append_plain hD₉ (fun h₁₀ hl₁₀ hs₁₀ => ?_) (by rw [List.size_toArray, sizeLine_eq]; omega)
      have hk310 : ∀ b o, b ≠ z → b ≠ TO → b ≠ cenv.locals → b ≠ D₁ → s₃.heap.get? b = some o → h₁₀.get? b = some o := fun b o h1 h2 h3 h4 e => (hs₁₀.2 b h4).trans (hk39 b o h1 h2 h3 e)
      have hk610 : ∀ b o, b ≠ cenv.locals → b ≠ D₁ → h₆.get? b = some o → h₁₀.get? b = some o := fun b o h3 h4 e => (hs₁₀.2 b h4).trans (kp_heap (kp_trans k₈ k₉) b o (kx_heap k₇ b o h3 e))
      have g9 : s₉.gens = s₃.gens := by
        obtain ⟨a1, a2, e1, _⟩ := k₇
        obtain ⟨b1, b2, e2, _⟩ := kp_trans k₈ k₉
        rw [e2, e1]
      have hn'' : N - (j + 1) = n' := by omega
      have hdr : gl.drop (j + 1) = tl' := by
        have := congrArg (List.drop 1) htl
        rw [List.drop_drop] at this
        exact this
      have hget : gl[j]? = some x := by
        have := congrArg (fun l => l[0]?) htl
        simp only [List.getElem?_drop] at this
        exact this
      have ex : ∀ b, b ∈ ZPl.all ⟨z, TI, TO, i1, ag, D₁⟩ cenv.locals → ∃ o, h'.get? b = some o := by
        intro b hb
        simp only [ZPl.all, List.mem_cons, List.not_mem_nil, or_false] at hb
        rcases hb with rfl | rfl | rfl | rfl | rfl | rfl | rfl
        · exact ⟨_, hz'⟩
        · exact ⟨_, hk1 _ _ (fun h => by
            rcases h with h | h | h
            · exact zTI h.symm
            · exact TITO h
            · exact TIi1 h) Z.ti⟩
        · exact ⟨_, hTO'⟩
        · exact ⟨_, h1'⟩
        · obtain ⟨o, ho⟩ := Z.gen
          exact ⟨o, hk1 _ _ (fun h => by
            rcases h with h | h | h
            · exact zag h.symm
            · exact TOag h.symm
            · exact i1ag h.symm) ho⟩
        · obtain ⟨n, e⟩ := Z.dl
          exact ⟨_, hk1 _ _ (fun h => by
            rcases h with h | h | h
            · exact zD h.symm
            · exact TOD h.symm
            · exact i1D h.symm) e⟩
        · obtain ⟨m, o, es, ep, ho, _⟩ := S1.ns
          exact ⟨o, ho⟩
      have hkT : ∀ b o, hT.get? b = some o → h'.get? b = some o := fun b o e => hk1 b o (fun h => by
        rcases h with rfl | rfl | rfl
        · rw [hzT] at e; cases e
        · rw [hTOT] at e; cases e
        · rw [hiT] at e; cases e) (Z.keep b o e)
      have pvn' : ∀ b, pv' b → hT.get? b = none ∧ b ∉ ZPl.all ⟨z, TI, TO, i1, ag, D₁⟩ cenv.locals := by
        intro b hb
        rcases GD.pv b hb with h | h
        · exact Z.pvn b h
        · refine ⟨?_, fun hm => ?_⟩
          · cases e : hT.get? b with
            | none => rfl
            | some o => exact absurd ((hkT b o e).symm.trans h) (fun q => nomatch q)
          · obtain ⟨o, e⟩ := ex b hm
            rw [show h'.get? b = none from h] at e; cases e
      refine ⟨N + 1 - (j + 1), by omega, j + 1, pv', ys ++ [.int x ty], rfl, hjN, ⟨?_, ?_, ?_, ?_, ?_, ?_, pvn', ?_, by simpa using hl₁₀, ?_, ?_⟩⟩
      · exact sto_move (X := fun b => b = D₁) hc S₉ (fun b h => by subst h; exact ⟨n0 _ hDT, DC⟩) (fun b o hb e => (hs₁₀.2 b hb).trans e) S₉.bare S₉.os
      · exact hk610 _ _ zC zD hz₆
      · refine hk310 _ _ (Ne.symm zTI) TITO TIC TID (keep₃ _ _ nTI (hk1 _ _ (fun h => ?_) Z.ti))
        rcases h with h | h | h
        · exact zTI h.symm
        · exact TITO h
        · exact TIi1 h
      · exact ⟨_, _, hk610 _ _ TOC TOD (hs₆.extBut _ _ (Ne.symm zTO) hTO₅)⟩
      · have e1 : (j : Int) + 1 = ((j + 1 : Nat) : Int) := by omega
        have e2 : ((N - j : Nat) : Int) - 1 = ((N - (j + 1) : Nat) : Int) := by omega
        rw [e1, e2] at h1'
        exact hk310 _ _ (Ne.symm zi1) (Ne.symm TOi1) i1C i1D (keep₃ _ _ ni1 h1')
      · rw [hn'', hdr]
        refine gg_mono gg' (fun b o hb e => ?_) (by rw [show ({ s₉ with heap := h₁₀ } : Shared).gens = s₉.gens from rfl, g9])
        refine hk310 b o ?_ ?_ ?_ ?_ e
        all_goals
          rcases hb with hb | rfl | rfl
          · have := (pvn' b hb).2
            simp only [ZPl.all, List.mem_cons, List.not_mem_nil, or_false, not_or] at this
            obtain ⟨q1, q2, q3, q4, q5, q6, q7⟩ := this
            assumption
          · assumption
          · first | exact Ne.symm zag | exact Ne.symm TOag | assumption
      · obtain ⟨o, ho⟩ := ex ag (by simp [ZPl.all])
        exact ⟨o, hk310 _ _ (Ne.symm zag) (Ne.symm TOag) agC agD (keep₃ _ _ nag ho)⟩
      · have : gl.take (j + 1) = gl.take j ++ [x] := by rw [List.take_add_one, hget]; rfl
        rw [this]
        exact ints_snoc Z.di
      · intro b o e
        have hb := nT b o e
        simp only [ZPl.all, List.mem_cons, List.not_mem_nil, or_false, not_or] at hb
        obtain ⟨q1, q2, q3, q4, q5, q6, q7⟩ := hb
        exact hk310 b o q1 q3 q7 q6 (keep₃ b o (fun h => by rw [(pvn b h).1] at e; cases e) (hkT b o e))
    · -- the generator ends
      intro e s₃ htl GD hst
      obtain ⟨oe, hoe, hce⟩ := hst
      have nz : ¬ pv z := fun h => (pvn z h).2.1 rfl
      have nD : ¬ pv D₁ := fun h => (pvn D₁ h).2.2.2.2.2.2.1 rfl
      have hz₃ : IsZip s₃.heap z TI TO .ellipsis := GD.keep _ _ nz hz'
      have hez : e ≠ z := fun q => by subst q; rw [hz₃] at hoe; cases hoe; simp at hce
      have S3 : StO nmT prog w h₀ os cenv (fun _ => none) (fun _ => none) s₃ := sto_move hc S1 (X := pv) (fun b h => ⟨n0 b (pvn b h).1, (pvn b h).2.2.2.2.2.2.2⟩) GD.keep GD.bare GD.os
      refine wpAny_setField_rec hz₃ (by simp) fun h₅ _ hs₅ => ?_
      refine wpAny_bind (wpAny_isInstance (T := "StopIteration") (b := true) ⟨oe, hs₅.extBut _ _ hez hoe, hce⟩ isSubtype_stop (wpAny_pure ?_))
      have htk : gl.take j = gl := List.take_of_length_le (by have := congrArg List.length htl; rw [List.length_drop] at this; simp at this; omega)
      have di := Z.di
      rw [htk] at di
      refine hR _ ys (fun b o e' => hs₅.extBut b o (fun h => by subst h; rw [hzT] at e'; cases e') (GD.keep b o (fun h => by rw [(pvn b h).1] at e'; cases e') (hk1 b o (fun h => ?_) (Z.keep b o e')))) (Z.dl.at fun o e' => hs₅.extBut _ _ (Ne.symm zD) (GD.keep _ _ nD (hk1 _ _ (fun h => ?_) e'))) di ?_ GD.bare GD.os
      · rcases h with rfl | rfl | rfl
        · rw [hzT] at e'; cases e'
        · rw [hTOT] at e'; cases e'
        · rw [hiT] at e'; cases e'
      · rcases h with h | h | h
        · exact zD h.symm
        · exact TOD h.symm
        · exact i1D h.symm
      · obtain ⟨m, hm⟩ := S3.ns
        exact ⟨m, hm.sameBut hs₅ (Ne.symm zC)⟩
  · have hj' : j = N := by omega
    refine zip_end1 hA (Ne.symm zTO) (Ne.symm zi1) Z.z Z.ti hTO Z.rg (by omega) fun h' e hk hst => ?_
    obtain ⟨oe, hoe, hce⟩ := hst
    refine wpAny_bind (wpAny_isInstance (T := "StopIteration") (b := true) ⟨oe, hoe, hce⟩ isSubtype_stop (wpAny_pure ?_))
    have di := Z.di
    rw [hj', List.take_of_length_le hlen] at di
    refine hR _ ys (fun b o e' => hk b o (fun h => by subst h; rw [hzT] at e'; cases e') (fun h => by subst h; rw [hiT] at e'; cases e') (Z.keep b o e')) (Z.dl.at fun o e' => hk _ _ (Ne.symm zD) (Ne.symm i1D) e') di ?_ Z.st.bare Z.st.os
    obtain ⟨m, o, es, ep, ho, r⟩ := Z.st.ns
    exact ⟨m, o, es, ep, hk _ _ (Ne.symm zC) (Ne.symm i1C) ho, r⟩
end
end Mine

-- G12
namespace Mine
open PySem PySem.Calls PyProof.Rows PySem.W

abbrev zgH1 (h : Heap) (n : Int) : Heap := h.push { cls := .type "range_iterator", data := .fields #[rawInt 0, rawInt n, rawInt 1] }
abbrev zgH2 (h : Heap) (n : Int) (ag : Addr) : Heap := (zgH1 h n).push { cls := .type "tuple", data := .seq #[.ref h.objs.size, .ref ag] }
abbrev zgH3 (h : Heap) (n : Int) (ag : Addr) : Heap := (zgH2 h n ag).push { cls := .type "tuple", data := .seq #[.none, .none] }
abbrev zgH4 (h : Heap) (n : Int) (ag : Addr) : Heap := (zgH3 h n ag).push { cls := .type "zip", data := .fields #[.none, .bool false, .bool false, .ref (zgH1 h n).objs.size, .ref (zgH2 h n ag).objs.size] }

theorem meets_zip_gen (r ag : Addr) (g : Nat) (n : Int) (t u z : Tok) (h0 : 0 ≤ n) (hn : n < 2 ^ 62) :
    Meets (Builtin.«zip.__new__» ⟨[.type "zip", .ref r, .ref ag], []⟩) (fun _ R s => IsRange s.heap r 0 n 1 t u z ∧ s.heap.IsGen ag g ∧
      R (.ok (.ret (.ref (zgH3 s.heap n ag).objs.size))) { s with heap := zgH4 s.heap n ag }) :=
  .of_wp fun prog w A R s h => by
    obtain ⟨hp, gg, d, tk, os⟩ := s; obtain ⟨hl1, hl2, h⟩ := h
    have hsub := sub_zip
    have hL1 : IsRange (Shared.heap ⟨hp, gg, d, tk, os⟩) r 0 n 1 t u z := hl1
    have hL2 : Heap.IsGen (Shared.heap ⟨hp.push { cls := .type "range_iterator", data := .fields #[rawInt 0, rawInt (Builtin.Range.rangeSize 0 n 1), rawInt 1] }, gg, d, tk, os⟩) ag g := Heap.IsGen.push hl2 _
    have hsz : Builtin.Range.rangeSize 0 n 1 = n := by rw [rangeSize_one]; split <;> omega
    have hsm := small_one (a := 0) (b := n) (by omega) (by omega) (by omega) hn
    wp_walk using wpAny_pyIter_range hL1 hsm, wpAny_pyIter_gen hL2
    rw [hsz]
    exact ⟨_, rfl, h⟩
end Mine

-- G13
namespace Mine
open PySem PySem.Calls PyProof.Rows PySem.W

/-- the generator function of the base -/
structure GFn (h₀ : Heap) (a : Addr) : Prop where
  ex : ∃ o fd c oc vs t, h₀.get? a = some o ∧ o.cls ≠ .none ∧ o.data = .func fd ∧ fd.scope = stScope (topSt 6) ∧ fd.body = .stmts (stBody (topSt 6)) ∧ fd.closure = [] ∧ fd.globals = mainGlobals ∧ fd.builtins = builtinsNs ∧
    fd.code = .ref c ∧ h₀.get? c = some oc ∧ oc.cls ≠ .none ∧ oc.data = .fields vs ∧ vs[1]? = some (.str fd.qualname t) ∧ (∀ v : Value, bindArgs fd ⟨[v], []⟩ = pure [(("grouping" : Str), v)])

/-- a generator that was made -/
structure GMade (h₀ : Heap) (env : Env) (a ag : Addr) (g : Nat) (s s' : Shared) : Prop where
  genv : GEnv h₀ env
  keep : ∀ b o, s.heap.get? b = some o → s'.heap.get? b = some o
  Lnew : s.heap.get? env.locals = none
  agnew : s.heap.get? ag = none
  ne : ag ≠ env.locals
  ns : ∃ m, s'.heap.Ns env.locals m ∧ m "grouping" = some (.ref a)
  gen : s'.heap.IsGen ag g
  gsz : g = s.gens.size
  gs : s'.gens = s.gens.push (.fresh (.func (stBody (topSt 6)) env))
  os : s'.os = s.os

section
variable {prog : Program} {w : World} {h₀ : Heap} {A : Around} {mg mb : Str → Option Value} {E : Value → Shared → Prop} {s : Shared}

theorem wp_gcall (G : Glo h₀ mg mb) (hd : A.depth < recursionLimit) {aG a : Addr} (F : GFn h₀ aG) (up : Up h₀ s.heap) (old : OldK h₀ s.heap) {Q : Value → Shared → Prop}
    (hQ : ∀ env ag g s', GMade h₀ env a ag g s s' → Q (.ref ag) s') : wpAny (model prog w) A (call (.ref aG) [.ref a]) Q E s := by
  obtain ⟨o, fd, c, oc, cvs, t, ho, hoc, hdt, hsc, hbd, hclo, hgl, hbt, hcd, hc, hcc, hcf, hcq, hbind⟩ := F.ex
  have hgen : fd.scope.isGenerator = true := by rw [hsc]; rfl
  have hco : fd.scope.isCoroutine = false := by rw [hsc]; rfl
  have hnc : ∀ x ∈ fd.scope.names, x.2 ≠ .cell := by rw [hsc]; decide
  have hlo : fd.scope.names.lookup ("grouping" : Str) = some NameKind.local := by rw [hsc]; rfl
  have hkd : fd.scope.kind = .function := by rw [hsc]; rfl
  refine wpAny_call (codeAny_call_generator hd (up aG o ho (.inl hoc)) hdt hco hgen hbd ⟨c, oc, cvs, t, hcd, up c oc hc (.inl hcc), hcf, hcq⟩ ?_)
  rw [hbind, hclo]
  refine wpAny_pure (wpAny_newFunctionEnv hnc (fun x hx => ?_) (fun h₁ hns hsb => ⟨(up.lim G.lim).fresh _ hsb, ?_⟩) hkd)
  · rw [List.mem_singleton.mp hx]; exact hlo
  · have keep : ∀ b o, s.heap.get? b = some o → h₁.get? b = some o := fun b o e => hsb.extBut b o (Nat.ne_of_lt (Heap.lt_size e)) (Heap.get?_push_of_some _ e)
    have hLn : s.heap.get? s.heap.objs.size = none := fresh_old (kp_refl s)
    have hsz : h₁.objs.size = s.heap.objs.size + 1 := by rw [hsb.1, Heap.size_push]
    generalize henv : newEnv fd.scope s.heap.objs.size fd.globals [] (fd.qualname ++ ".<locals>.") (some aG) fd.code none fd.builtins = env
    have eL : env.locals = s.heap.objs.size := by rw [← henv]; rfl
    have eC : env.cells = [] := by rw [← henv]; rfl
    have eS : env.scope = fd.scope := by rw [← henv]; rfl
    have eF : env.frame = some env.locals := by rw [← henv]; rfl
    have FE : GEnv h₀ env := by
      refine ⟨⟨⟨by rw [eS]; exact hkd, by rw [← henv]; exact hgl, by rw [← henv]; exact hbt⟩, ?_, ?_, ?_, ?_⟩, by rw [eS, hsc], eC, eF⟩
      · rw [eL]; exact none_of_old old hLn
      · intro c hc; rw [eC] at hc; cases hc
      · intro c hc; rw [eC] at hc; cases hc
      · intro x y c hx; rw [eC] at hx; cases hx
    refine hQ env h₁.objs.size _ _ ⟨FE, fun b o e => Heap.get?_push_of_some _ (keep b o e), by rw [eL]; exact hLn, ?_, by rw [eL, hsz]; exact Nat.succ_ne_self _, ⟨_, by rw [eL]; exact hns.push _, ?_⟩, ⟨_, _, _, Heap.get?_push_size _ rfl, rfl, rfl, rfl⟩, rfl, rfl, rfl⟩
    · cases e : s.heap.get? h₁.objs.size with
      | none => rfl
      | some o => exact absurd (Heap.lt_size e) (Nat.not_lt.mpr (by rw [hsz]; exact Nat.le_succ _))
    · simp

theorem call_zip_gen {r ag : Addr} {g : Nat} {n : Nat} {t u z : Tok} {Q : Value → Shared → Prop} (hr : IsRange s.heap r 0 n 1 t u z) (hg : s.heap.IsGen ag g) (hn : n ≤ 1000)
    (h : ∀ h', IsZip h' (s.heap.objs.size + 3) (s.heap.objs.size + 1) (s.heap.objs.size + 2) .none → IsPair h' (s.heap.objs.size + 1) (.ref s.heap.objs.size) (.ref ag) → IsPair h' (s.heap.objs.size + 2) .none .none →
      IsRangeIter h' s.heap.objs.size 0 n 1 → h'.objs.size = s.heap.objs.size + 4 → (∀ c o, s.heap.get? c = some o → h'.get? c = some o) → Q (.ref (s.heap.objs.size + 3)) { s with heap := h' }) :
    wpAny (model prog w) A (call (.type "zip") [.ref r, .ref ag]) Q E s := by
  refine callType_new F.called_zip (by decide) (F.typeCall_zip_2 _ _) (F.newCall_zip_2 _ _) (fun obj => F.args_object_init_3 obj _ _) F.entry_zip_new
    (meets_zip_gen r ag g n t u z (by omega) (by omega)) ⟨hr, hg, ?_⟩
  have z1 : (zgH1 s.heap n).objs.size = s.heap.objs.size + 1 := Heap.size_push ..
  have z2 : (zgH2 s.heap n ag).objs.size = s.heap.objs.size + 2 := by rw [Heap.size_push, z1]
  have z3 : (zgH3 s.heap n ag).objs.size = s.heap.objs.size + 3 := by rw [Heap.size_push, z2]
  have z4 : (zgH4 s.heap n ag).objs.size = s.heap.objs.size + 4 := by rw [Heap.size_push, z3]
  have g4 : (zgH4 s.heap n ag).get? (zgH3 s.heap n ag).objs.size = some _ := Heap.get?_push_size _ rfl
  have g3 : (zgH4 s.heap n ag).get? (zgH2 s.heap n ag).objs.size = some _ := Heap.get?_push_of_some _ (Heap.get?_push_size _ rfl)
  have g2 : (zgH4 s.heap n ag).get? (zgH1 s.heap n).objs.size = some _ := Heap.get?_push_of_some _ (Heap.get?_push_of_some _ (Heap.get?_push_size _ rfl))
  have g1 : (zgH4 s.heap n ag).get? s.heap.objs.size = some _ := Heap.get?_push_of_some _ (Heap.get?_push_of_some _ (Heap.get?_push_of_some _ (Heap.get?_push_size _ rfl)))
  show _ ∧ _
  rw [z1, z2, z3] at g4
  rw [z1] at g2
  rw [z2] at g3
  rw [z3]
  exact ⟨⟨_, g4, rfl⟩, h _ g4 g2 g3 g1 z4 fun c o x => Heap.get?_push_of_some _ (Heap.get?_push_of_some _ (Heap.get?_push_of_some _ (Heap.get?_push_of_some _ x)))⟩
end
end Mine

-- G14
namespace Mine
open PySem PySem.Calls PyProof.Rows PySem.W

inductive VQ where
  | sizes | many | refused
deriving DecidableEq
def nmQ : VQ → Str
  | .sizes => "sizes"
  | .many => "many"
  | .refused => "refused"
theorem nmQ_inj : ∀ x y, nmQ x = nmQ y → x = y := by
  intro x y h
  cases x <;> cases y <;> first | rfl | (revert h; decide)

structure QLay (h₀ : Heap) (mg mb : Str → Option Value) : Prop where
  gr : mg "range" = none
  br : mb "range" = some (.type "range")
  gz : mg "zip" = none
  bz : mb "zip" = some (.type "zip")
  gv : mg "ValueError" = none
  bv : mb "ValueError" = some (.type "ValueError")
  gs : mg "str" = none
  bs : mb "str" = some (.type "str")
  cm : ∃ tc, mg "CHAR_MAX" = some (.int 127 tc)
  gen : ∃ a, mg "_grouping_intervals" = some (.ref a) ∧ GFn h₀ a
  told : ∃ a, mg "_law_told" = some (.ref a) ∧ FnAt nmQ h₀ a [.sizes, .many] (stScope (topSt 12)) (stBody (topSt 12))

/-- zip(range(n), generator), made behind s -/
structure ZMade (h₀ : Heap) (n : Nat) (sz : List Int) (genv : Env) (z TI TO i1 ag a : Addr) (g : Nat) (vs : List Value) (s s₁ : Shared) : Prop where
  ge : GEnv h₀ genv
  keep : ∀ b o, s.heap.get? b = some o → s₁.heap.get? b = some o
  new : ∀ b, b ∈ [z, TI, TO, i1, ag, genv.locals] → s.heap.get? b = none
  nd : [z, TI, TO, i1, ag, genv.locals].Nodup
  hz : IsZip s₁.heap z TI TO .none
  ti : IsPair s₁.heap TI (.ref i1) (.ref ag)
  to : IsPair s₁.heap TO .none .none
  rg : IsRangeIter s₁.heap i1 0 n 1
  ns : ∃ m, s₁.heap.Ns genv.locals m ∧ m "grouping" = some (.ref a)
  gen : s₁.heap.IsGen ag g
  li : s.heap.IsList a (List.toArray vs)
  ai : IntsAre vs sz
  gsz : g = s.gens.size
  gs : s₁.gens = s.gens.push (.fresh (.func (stBody (topSt 6)) genv))
  os : s₁.os = s.os

section
variable {prog : Program} {w : World} {h₀ : Heap} {os : OsState} {A : Around} {mg mb : Str → Option Value} {tenv : Env} {σ : VQ → Option B} {sz : List Int} {n : Nat}

theorem told_iter (G : Glo h₀ mg mb) (Y : QLay h₀ mg mb) (hd : A.depth < recursionLimit) (K : EnvOk h₀ tenv) (hsc : tenv.scope = stScope (topSt 12)) {s : Shared} {mu : Addr → Prop} (S : Stt nmQ prog w h₀ tenv σ mu s) (hs : σ .sizes = some (.im (.list (sz.map D.int)))) (hm : σ .many = some (.im (.int n))) (hn : n ≤ 1000)
    {p1 p2 p3 p4 p5 p6 p7 p8 : Pos} {Q : Value → Shared → Prop} (hQ : ∀ genv z TI TO i1 ag a g vs s₁, ZMade h₀ n sz genv z TI TO i1 ag a g vs s s₁ → Q (.ref z) s₁) :
    wpAny (model prog w) A (eval (.Call (.Name "zip" p1) [.Call (.Name "range" p2) [.Name "many" p3] [] p4, .Call (.Name "_grouping_intervals" p5) [.Name "sizes" p6] [] p7] [] p8) tenv) Q (fun _ _ => False) s := by
  have KE := K.toEnvG
  have kk := K.kind
  have kz : tenv.kindOf "zip" = some .globalImplicit := by unfold Env.kindOf; rw [hsc]; rfl
  have kr : tenv.kindOf "range" = some .globalImplicit := by unfold Env.kindOf; rw [hsc]; rfl
  have kg : tenv.kindOf "_grouping_intervals" = some .globalImplicit := by unfold Env.kindOf; rw [hsc]; rfl
  obtain ⟨aG, gG, FG⟩ := Y.gen
  obtain ⟨va, ra, hda⟩ := S.vw VQ.sizes _ hs
  obtain ⟨a, vs, rfl, ham, hl, hrl⟩ := rd_list.mp hda
  refine wpAny_Call_NameR (wp_bname G KE S.up kz Y.gz Y.bz ?_ (by decide))
  refine PyProof.Rows.callWith_type rfl (evalArgs_plain ?_)
  show wpAny _ _ (spliced [(false, eval _ tenv), (false, eval _ tenv)]) _ _ _
  refine spliced_cons (ev_then (ev_range G KE kr Y.gr Y.br (ev_name kk VQ.many hm)) S fun v₁ s₁ k₁ S₁ r₁ => ?_)
  obtain ⟨r, t, u, z, rfl, hr⟩ := r₁
  refine spliced_cons ?_
  -- the generator
  refine wpAny_Call_NameR (wp_gname G KE S₁.up kg gG ?_ (by decide))
  obtain ⟨o, fd, c, oc, cvs, t', ho, hoc, hdt, _⟩ := id FG.ex
  refine callWith_def (o := o) hdt ?_ rfl
  show wpAny _ _ (spliced [(false, eval _ tenv)]) _ _ _
  refine spliced_cons (wp_name kk (ra.keeps (kp_heap k₁)) (spliced_nil ?_) (by decide))
  refine ⟨S₁.up aG o ho (.inl hoc), wp_gcall G hd FG S₁.up S₁.old fun genv ag g s₃ M => ?_⟩
  refine spliced_nil ?_
  have hr₃ : IsRange s₃.heap r 0 n 1 t u z := M.keep _ _ hr
  refine call_zip_gen hr₃ M.gen (by omega) fun h₄ hz hti hto hrg hsz hk => ?_
  have k₁₃ : ∀ b o, s.heap.get? b = some o → s₃.heap.get? b = some o := fun b o e => M.keep b o (kp_heap k₁ b o e)
  have none3 : ∀ b, s₃.heap.objs.size ≤ b → s.heap.get? b = none := fun b hb => by
    cases e : s.heap.get? b with
    | none => rfl
    | some o => exact absurd (Heap.lt_size (k₁₃ b o e)) (Nat.not_lt.mpr hb)
  have none1 : ∀ b, s₁.heap.get? b = none → s.heap.get? b = none := fun b hb => by
    cases e : s.heap.get? b with
    | none => rfl
    | some o => rw [kp_heap k₁ b o e] at hb; cases hb
  obtain ⟨mL, hnL, hmL⟩ := M.ns
  have aglt : ag < s₃.heap.objs.size := by obtain ⟨o, _, _, e, _⟩ := M.gen; exact Heap.lt_size e
  have Llt : genv.locals < s₃.heap.objs.size := by obtain ⟨o, _, _, e, _⟩ := id hnL; exact Heap.lt_size e
  have ne := M.ne
  have g1 : s₁.gens = s.gens ∧ s₁.os = s.os := by obtain ⟨h', tk, e, _⟩ := k₁; rw [e]; exact ⟨rfl, rfl⟩
  refine hQ genv _ _ _ _ ag a g vs _ ⟨M.genv, fun b o e => hk b o (k₁₃ b o e), ?_, ?_, hz, hti, hto, hrg, ⟨mL, hnL.keeps hk, hmL⟩, ?_, hl, hrl.ints, by rw [M.gsz, g1.1], by rw [← g1.1]; exact M.gs, by rw [← g1.2]; exact M.os⟩
  · intro b hb
    simp only [List.mem_cons, List.not_mem_nil, or_false] at hb
    rcases hb with rfl | rfl | rfl | rfl | rfl | rfl
    · exact none3 _ (by omega)
    · exact none3 _ (by omega)
    · exact none3 _ (by omega)
    · exact none3 _ (Nat.le_refl _)
    · exact none1 _ M.agnew
    · exact none1 _ M.Lnew
  · simp only [List.nodup_cons, List.mem_cons, List.not_mem_nil, or_false, not_or, not_false_eq_true, and_true, List.nodup_nil]
    have a1 := Nat.ne_of_lt aglt
    have a2 := Nat.ne_of_lt Llt
    refine ⟨⟨?_, ?_, ?_, ?_, ?_⟩, ⟨?_, ?_, ?_, ?_⟩, ⟨?_, ?_, ?_⟩, ⟨?_, ?_⟩, ne⟩
    all_goals
      have nn : ∀ (x y : Nat), ¬ x = y → ¬ ((x : Addr) = y) := fun _ _ h => h
      have aglt' : @LT.lt Nat _ ag s₃.heap.objs.size := aglt
      have Llt' : @LT.lt Nat _ genv.locals s₃.heap.objs.size := Llt
      exact nn _ _ (by omega)
  · obtain ⟨o, nm, qn, ho, r⟩ := M.gen
    exact ⟨o, nm, qn, hk _ _ ho, r⟩
end
end Mine

-- G15
namespace Mine
open PySem PySem.Calls PyProof.Rows PySem.W

def scopeC : Scope := { kind := .function, names := [(".0", .local), ("turn", .local), ("size", .local)], isGenerator := false, isCoroutine := false, more := [] }

section
variable {prog : Program} {w : World} {h₀ : Heap} {os : OsState} {A : Around} {mg mb : Str → Option Value} {tenv : Env} {σ : VQ → Option B} {sz : List Int}

/-- what a call that is told leaves: all that stood stands, and a new list of ints -/
structure ToldEnd (os : OsState) (gl : List Int) (s : Shared) (D₁ : Addr) (ys : List Value) (s' : Shared) : Prop where
  new : s.heap.get? D₁ = none
  keep : ∀ b o, s.heap.get? b = some o → s'.heap.get? b = some o
  pl : s'.heap.PlainList D₁ (List.toArray ys)
  ai : IntsAre ys gl
  bare : AllBare s'.gens
  os : s'.os = os

/-- the state in which the comprehension's loop begins -/
theorem told_start (G : Glo h₀ mg mb) (Y : QLay h₀ mg mb) (hA : A.handled = none) (hd : A.depth < recursionLimit) (K : EnvOk h₀ tenv) (hc : tenv.cells = []) (hsc : tenv.scope = stScope (topSt 12)) {s : Shared} {ow : VQ → Option Addr} (S : StO nmQ prog w h₀ os tenv ow σ s) (hs : σ .sizes = some (.im (.list (sz.map D.int)))) {m : Nat} (hm : σ .many = some (.im (.int ((m + 1 : Nat) : Int)))) (hn : m + 1 ≤ 1000)
    {q1 q2 q3 qt : Pos} {x1 : Nat} {p1 p2 p3 p4 p5 p6 p7 p8 pos : Pos} {Q : Value → Shared → Prop} {E : Value → Shared → Prop}
    (hQ : ∀ genv z TI TO i1 ag a g vs D₁ C s₁, ZMade h₀ (m + 1) sz genv z TI TO i1 ag a g vs s s₁ → EnvOk h₀ (compEnvC scopeC [] C tenv) → ((⟨z, TI, TO, i1, ag, D₁⟩ : ZPl).all C).Nodup → (∀ b ∈ (⟨z, TI, TO, i1, ag, D₁⟩ : ZPl).all C, s.heap.get? b = none) →
      genv.locals ∉ (⟨z, TI, TO, i1, ag, D₁⟩ : ZPl).all C → s.heap.get? genv.locals = none → StO nmT prog w h₀ os (compEnvC scopeC [] C tenv) (fun _ => none) (fun _ => none) s₁ → s₁.heap.PlainList D₁ #[] → (∃ mm, s₁.heap.Ns C mm) →
      codeAny (model prog w) A (.compLoop (.ListComp (.Name "size" q3) [⟨.Tuple [.Name "turn" q1, .Name "size" q2] x1 qt, .Call (.Name "zip" p1) [.Call (.Name "range" p2) [.Name "many" p3] [] p4, .Call (.Name "_grouping_intervals" p5) [.Name "sizes" p6] [] p7] [] p8, [], 0⟩] scopeC pos) 0 (.ref z) (.ref D₁) (compEnvC scopeC [] C tenv))
        (compPost (model prog w) A E none Q (.ref D₁) C) s₁) :
    wpAny (model prog w) A (eval (.ListComp (.Name "size" q3) [⟨.Tuple [.Name "turn" q1, .Name "size" q2] x1 qt, .Call (.Name "zip" p1) [.Call (.Name "range" p2) [.Name "many" p3] [] p4, .Call (.Name "_grouping_intervals" p5) [.Name "sizes" p6] [] p7] [] p8, [], 0⟩] scopeC pos) tenv) Q E s := by
  rw [eval_ListComp]
  refine wpAny_comprehension_free (use := none) rfl (fun _ => rfl) (cl := []) rfl rfl (by decide) (wf (told_iter G Y hd K hsc S.stt hs hm hn fun genv z TI TO i1 ag a g vs s₁ M => wpAny_pyIter_zip M.hz ?_))
  refine wpAny_newObj_type (wpAny_newFunctionEnv (by decide) (by intro y hy; simp at hy) (fun h₁ hns₁ hsb₁ => ?_) rfl)
  dsimp only at hns₁ hsb₁ ⊢
  generalize hH2 : s₁.heap.push { cls := .type "list", dict := none, data := .seq ([] : List Value).toArray } = H2 at hns₁ hsb₁ ⊢
  have hC : H2.objs.size = s₁.heap.objs.size + 1 := by rw [← hH2, Heap.size_push]
  have below : ∀ b o, s₁.heap.get? b = some o → b ≠ H2.objs.size ∧ b ≠ s₁.heap.objs.size := fun b o e => by
    have hb := Heap.lt_size e
    exact ⟨by rw [hC]; exact Nat.ne_of_lt (Nat.lt_succ_of_lt hb), Nat.ne_of_lt hb⟩
  have hDC : s₁.heap.objs.size ≠ H2.objs.size := by rw [hC]; exact Nat.ne_of_lt (Nat.lt_succ_self _)
  have old : ∀ b o, s₁.heap.get? b = some o → h₁.get? b = some o := fun b o e => hsb₁.extBut b o (below b o e).1 (Heap.get?_push_of_some _ (hH2 ▸ Heap.get?_push_of_some _ e))
  have hacc : h₁.PlainList s₁.heap.objs.size #[] := ⟨_, hsb₁.extBut _ _ hDC (Heap.get?_push_of_some _ (hH2 ▸ Heap.get?_push_size _ rfl))⟩
  have oldS : ∀ b o, s.heap.get? b = some o → h₁.get? b = some o := fun b o e => old b o (M.keep b o e)
  have noneS : ∀ b, s₁.heap.get? b = none → s.heap.get? b = none := fun b hb => by
    cases e : s.heap.get? b with
    | none => rfl
    | some o => rw [M.keep b o e] at hb; cases hb
  have none₁ : ∀ a, s₁.heap.objs.size ≤ a → s₁.heap.get? a = none := fun a ha => by
    cases e : s₁.heap.get? a with
    | none => rfl
    | some o' => exact absurd (Heap.lt_size e) (Nat.not_lt.mpr ha)
  have hDn := noneS _ (none₁ _ (Nat.le_refl _))
  have hCn : s.heap.get? H2.objs.size = none := noneS _ (none₁ _ (by rw [hC]; exact Nat.le_succ _))
  have Kc : EnvOk h₀ (compEnvC scopeC [] H2.objs.size tenv) := ⟨⟨rfl, K.globals, K.builtins⟩, none_of_old S.old hCn, fun c h => (nomatch h), fun c h => (nomatch h), fun x y c h => (nomatch h)⟩
  obtain ⟨mL, hnL, hmL⟩ := M.ns
  obtain ⟨oL, _, _, hoL, _⟩ := id hnL
  obtain ⟨oG, _, _, hoG, _⟩ := id M.gen
  have bz := below _ _ M.hz
  have bTI := below _ _ M.ti
  have bTO := below _ _ M.to
  have bi := below _ _ M.rg
  have bg := below _ _ hoG
  have bL := below _ _ hoL
  have hnd := M.nd
  simp only [List.nodup_cons, List.mem_cons, List.not_mem_nil, or_false, not_or, not_false_eq_true, and_true, List.nodup_nil] at hnd
  obtain ⟨⟨n1, n2, n3, n4, n5⟩, ⟨n6, n7, n8, n9⟩, ⟨n10, n11, n12⟩, ⟨n13, n14⟩, n15⟩ := hnd
  have hgens : AllBare s₁.gens := by rw [M.gs]; exact S.bare.push rfl
  have M' : ZMade h₀ (m + 1) sz genv z TI TO i1 ag a g vs s { s₁ with heap := h₁, toks := s₁.toks + ([] : List (Str × Value)).length } :=
    ⟨M.ge, oldS, M.new, M.nd, old _ _ M.hz, old _ _ M.ti, old _ _ M.to, old _ _ M.rg, ⟨mL, hnL.keeps old, hmL⟩, M.gen.keeps old, M.li, M.ai, M.gsz, M.gs, M.os⟩
  have up₁ : Up h₀ h₁ := S.up.keeps oldS
  have S₁ : StO nmT prog w h₀ os (compEnvC scopeC [] H2.objs.size tenv) (fun _ => none) (fun _ => none) { s₁ with heap := h₁, toks := s₁.toks + ([] : List (Str × Value)).length } :=
    ⟨up₁, S.old.step_keeps oldS, fun x d h => (nomatch h), fun x b h => (nomatch h), fun x y a h => (nomatch h), fun x a h => (nomatch h), ⟨_, hns₁⟩, fun c h => (nomatch h), hgens, M.os.trans S.os⟩
  have loop := hQ genv z TI TO i1 ag a g vs s₁.heap.objs.size H2.objs.size _ M' Kc ?_ ?_ ?_ (M.new _ (by simp)) S₁ hacc ⟨_, hns₁⟩
  · exact codeAny_compStart_list loop (wf (wpAny_pyIter_zip (old _ _ M.hz) loop))
  · simp only [ZPl.all, List.nodup_cons, List.mem_cons, List.not_mem_nil, or_false, not_or, not_false_eq_true, and_true, List.nodup_nil]
    exact ⟨⟨n1, n2, n3, n4, bz.2, bz.1⟩, ⟨n6, n7, n8, bTI.2, bTI.1⟩, ⟨n10, n11, bTO.2, bTO.1⟩, ⟨n13, bi.2, bi.1⟩, ⟨bg.2, bg.1⟩, hDC⟩
  · intro b hb
    simp only [ZPl.all, List.mem_cons, List.not_mem_nil, or_false] at hb
    rcases hb with rfl | rfl | rfl | rfl | rfl | rfl | rfl
    · exact M.new _ (by simp)
    · exact M.new _ (by simp)
    · exact M.new _ (by simp)
    · exact M.new _ (by simp)
    · exact M.new _ (by simp)
    · exact hDn
    · exact hCn
  · simp only [ZPl.all, List.mem_cons, List.not_mem_nil, or_false, not_or]
    exact ⟨Ne.symm n5, Ne.symm n9, Ne.symm n12, Ne.symm n14, Ne.symm n15, bL.2, bL.1⟩
end
end Mine

-- G16
namespace Mine
open PySem PySem.Calls PyProof.Rows PySem.W

section
variable {prog : Program} {w : World} {h₀ : Heap} {os : OsState} {A : Around} {mg mb : Str → Option Value} {tenv : Env} {σ : VQ → Option B} {sz : List Int}

theorem told_ok (G : Glo h₀ mg mb) (Y : QLay h₀ mg mb) (hA : A.handled = none) (hd : A.depth < recursionLimit) (K : EnvOk h₀ tenv) (hc : tenv.cells = []) (hsc : tenv.scope = stScope (topSt 12)) {s : Shared} {ow : VQ → Option Addr} (S : StO nmQ prog w h₀ os tenv ow σ s) (hs : σ .sizes = some (.im (.list (sz.map D.int)))) {m : Nat} (hm : σ .many = some (.im (.int ((m + 1 : Nat) : Int)))) (hn : m + 1 ≤ 1000)
    {gl : List Int} (hgt : genTake sz none (m + 1) = some gl) :
    wpAny (model prog w) A (execs (stBody (topSt 12)) tenv) (fun f s' => ∃ D₁ ys, f = .ret (.ref D₁) ∧ ToldEnd os gl s D₁ ys s') (fun _ _ => False) s := by
  obtain ⟨tc, gcm⟩ := Y.cm
  show wpAny _ _ (execs [_] tenv) _ _ _
  refine wpAny_execs_cons (wpAny_Try_except (wf ?_))
  show wpAny _ _ (execs [_] tenv) _ _ _
  refine wpAny_execs_cons (wpAny_Return_some ?_)
  refine told_start G Y hA hd K hc hsc S hs hm hn ?_
  intro genv z TI TO i1 ag a g vs D₁ C s₁ M Kc nd hnew gnot gnew S₁ hD hC
  obtain ⟨mL, hnL, hmL⟩ := M.ns
  obtain ⟨oa, hoa, _⟩ := id M.li
  have hl₁ : s₁.heap.IsList a (List.toArray vs) := M.li.at fun o e => M.keep a o e
  have haL : a ≠ genv.locals := fun h => by rw [h, gnew] at hoa; cases hoa
  have hnd := M.nd
  simp only [List.nodup_cons, List.mem_cons, List.not_mem_nil, or_false, not_or, not_false_eq_true, and_true, List.nodup_nil] at hnd
  have hagL : ag ≠ genv.locals := hnd.2.2.2.2
  have hgs : s₁.gens[g]? = some (.fresh (.func (stBody (topSt 6)) genv)) := by rw [M.gs, M.gsz]; exact Array.getElem?_push_size ..
  have gg := gg_fresh (prog := prog) (w := w) (os := os) (A := A.in1) M.ge G gcm hA hd M.ai hgt hnL hmL hl₁ haL hagL M.gen hgs
  refine zloop (os := os) (p := ⟨z, TI, TO, i1, ag, D₁⟩) (hT := s.heap) (N := m + 1) (gl := gl) (a := a) (g := g) (pv := fun b => b = genv.locals) hA Kc rfl rfl rfl hn nd hnew (fun b o e => S.old.there b o e) ⟨oa, hoa⟩ ?_ (genTake_len _ _ _ _ hgt) ?_
  · intro s' ys hk hpl hai ⟨mm, hmm⟩ hb ho
    have hCn : s.heap.get? C = none := hnew C (by simp [ZPl.all])
    have hDC : D₁ ≠ C := by
      have := nd
      simp only [ZPl.all, List.nodup_cons, List.mem_cons, List.not_mem_nil, or_false, not_or] at this
      exact this.2.2.2.2.2.1
    refine ⟨mm, hmm, fun h' hs' => ?_⟩
    exact ⟨D₁, ys, rfl, hnew D₁ (by simp [ZPl.all]), fun b o e => (hs'.2 b (fun h => by rw [h, hCn] at e; cases e)).trans (hk b o e), hpl.at fun o e => (hs'.2 D₁ hDC).trans e, hai, hb, ho⟩
  · refine ⟨S₁, M.hz, M.ti, ⟨_, _, M.to⟩, M.rg, gg, fun b h => ?_, ?_, hD, .nil, M.keep⟩
    · subst h; exact ⟨gnew, gnot⟩
    · obtain ⟨o, nm, qn, ho, _⟩ := M.gen
      exact ⟨o, ho⟩
end
end Mine

-- G17
namespace Mine
open PySem PySem.Calls PyProof.Rows PySem.W

/-- an exception on its way, wherever it was seen last -/
def Loose (B : Heap) (l : List Env) (e : Addr) (cls a0 : Value) (h : Heap) : Prop := B.StaysIn h ∧ B.get? e = none ∧ h.FunFrames B l ∧ ∃ fl, h.TracedAtW B e cls a0 fl
theorem Loose.of_held {B h : Heap} {l : List Env} {e L : Addr} {cls a0 : Value} (x : Heap.HeldW B l e cls a0 L h) : Loose B l e cls a0 h := ⟨x.1, x.2.1, x.2.2.1, _, x.2.2.2⟩
theorem Loose.of_flying {B h : Heap} {l : List Env} {e : Addr} {cls a0 : Value} (x : Heap.FlyingW B l e cls a0 h) : Loose B l e cls a0 h := ⟨x.1, x.2.1, x.2.2.1, _, x.2.2.2.at⟩
theorem Loose.tb {B h : Heap} {l : List Env} {e : Addr} {cls a0 : Value} (x : Loose B l e cls a0 h) : ∃ oe vs T, h.get? e = some oe ∧ oe.data = .fields vs ∧ vs[1]? = some (.ref T) := by
  obtain ⟨_, _, _, fl, oe, vs, T, _, _, he, _, hd, h1, _⟩ := x
  exact ⟨oe, vs, T, he, hd, h1⟩
theorem Loose.typeIs {B : Heap} {s : Shared} {l : List Env} {e : Addr} {X : String} {a0 : Value} (x : Loose B l e (.type X) a0 s.heap) : s.TypeIs (.ref e) X := by
  obtain ⟨_, _, _, fl, oe, vs, T, _, _, he, hc, _⟩ := x
  exact ⟨oe, he, hc.1⟩

section
variable {M : Model} {A : Around} {E : Value → Shared → Prop} {s : Shared}
theorem setFlight_any {B : Heap} {l : List Env} {e : Addr} {cls a0 : Value} {fr : Option Addr} {Q : Unit → Shared → Prop} (R : Loose B l e cls a0 s.heap)
    (h : ∀ h', Loose B l e cls a0 h' → s.heap.UpToSlots h' → Q () { s with heap := h' }) : wpAny M A (setFlight (.ref e) fr) Q E s := by
  obtain ⟨hkb, hen, hl, fl, oe, vs, T, oT, ts, he, hcls, hd, h1, hnT, hTe, hT, hdT, h3⟩ := R
  have hsz3 : 3 < ts.size := (Array.getElem?_eq_some_iff.mp h3).1
  have other : ∀ b, b ≠ T → (s.heap.update T (Obj.mapFields (·.setIfInBounds 3 (fr.elim Value.none fun f => rawInt f)))).get? b = s.heap.get? b :=
    fun b hb => Heap.get?_update_other _ _ (Ne.symm hb)
  have noRecord : ∀ b o, s.heap.get? b = some o → (∀ vs, o.data ≠ .fields vs) → b ≠ T := fun b o hb hnf q => by
    rw [q, hT] at hb; injection hb with hb; subst hb; exact hnf ts hdT
  unfold setFlight
  refine wpAny_bind (wpAny_field he hd h1 ?_)
  rw [if_pos (show (Value.ref T != Value.none) = true from by simp)]
  refine wpAny_setField hT hdT hsz3 (h _ ⟨fun b o hbo => (other b fun q => by rw [q, hnT] at hbo; cases hbo).trans (hkb b o hbo), hen,
    hl.of_keeps fun b o hb hnf => ⟨o, (other b (noRecord b o hb hnf)).trans hb, rfl⟩, ?_⟩ fun b o hb hnf => ⟨o.slots, (other b (noRecord b o hb hnf)).trans hb⟩)
  exact ⟨_, oe, vs, T, _, _, (other e (Ne.symm hTe)).trans he, hcls, hd, h1, hnT, hTe, Heap.get?_update_self _ hT (Obj.isFreed_of_fields (Obj.data_mapFields hdT _)), Obj.data_mapFields hdT _, Array.getElem?_setIfInBounds_self_of_lt hsz3⟩
theorem noteFrame_any {B : Heap} {env : Env} {outer : List Env} {L e : Addr} {cls a0 : Value} {Q : Unit → Shared → Prop} (hfr : A.frames = some (env :: outer)) (hf : env.frame = some L) (R : Loose B (env :: outer) e cls a0 s.heap)
    (h : ∀ h', Loose B (env :: outer) e cls a0 h' → s.heap.UpToSlots h' → Q () { s with heap := h' }) : wpAny M A (noteFrame (.ref e) env) Q E s := by
  obtain ⟨hkb, hen, hl, fl, oe, vs, T, oT, ts, he, ⟨hcls, h0⟩, hd, h1, hnT, hTe, hT, hdT, h3⟩ := R
  subst hcls
  unfold noteFrame
  simp only [hf]
  refine wpAny_bind (wpAny_field he hd h1 ?_)
  rw [if_pos (show (Value.ref T != Value.none) = true from by simp)]
  refine wpAny_bind (wpAny_field hT hdT h3 ?_)
  by_cases hq : (fl == rawInt L) = true
  · rw [if_pos hq]
    exact wpAny_pure (h _ ⟨hkb, hen, hl, fl, oe, vs, T, oT, ts, he, ⟨rfl, h0⟩, hd, h1, hnT, hTe, hT, hdT, h3⟩ (.refl _))
  rw [if_neg hq]
  refine wpAny_bind (wpAny_setField hT hdT (Array.getElem?_eq_some_iff.mp h3).1 ?_)
  have other : ∀ b, b ≠ T → (s.heap.update T (Obj.mapFields (·.setIfInBounds 3 Value.none))).get? b = s.heap.get? b := fun b hb => Heap.get?_update_other _ _ (Ne.symm hb)
  have noRecord : ∀ b o, s.heap.get? b = some o → (∀ vs, o.data ≠ .fields vs) → b ≠ T := fun b o hb hnf q => by
    rw [q, hT] at hb; injection hb with hb; subst hb; exact hnf ts hdT
  refine wpAny_entryW hfr (hl.of_keeps fun b o hb hnf => ⟨o, (other b (noRecord b o hb hnf)).trans hb, rfl⟩) hf ((other e (Ne.symm hTe)).trans he)
    (fun b o hbo => (other b fun q => by rw [q, hnT] at hbo; cases hbo).trans (hkb b o hbo)) hen hd (Array.getElem?_eq_some_iff.mp h1).1 h0
    fun h' ⟨x1, x2, x3, x4⟩ => h h' ⟨x1, hen, x2, _, x3⟩ fun b o hb hnf => x4 b o ((other b (noRecord b o hb hnf)).trans hb) hnf
theorem noteFrame_congr {env env' : Env} (h : env.frame = env'.frame) (e : Value) : noteFrame e env = noteFrame e env' := by
  unfold noteFrame PySem.frameOf
  rw [h]
end

/-- another place of the base turns -/
theorem Loose.upd {B h h' : Heap} {l : List Env} {e z t : Addr} {cls : Value} {oz : Obj} (x : Loose B l e cls (.ref t) h) (hz : B.get? z = some oz) (hs : Heap.SameBut z h h') : Loose (hideAll B [z]) l e cls (.ref t) h' := by
  obtain ⟨k1, k2, k3, fl, oe, vs, T, oT, ts, he, hcls, hd, h1, hnT, hTe, hT, hdT, h3⟩ := x
  have ne : ∀ b, B.get? b = none → b ≠ z := fun b hb h => by rw [h, hz] at hb; cases hb
  have hb' : ∀ b, B.get? b = none → (hideAll B [z]).get? b = none := fun b hb => by
    cases q : (hideAll B [z]).get? b with
    | none => rfl
    | some o => rw [of_hideAll _ q] at hb; cases hb
  refine ⟨fun b o hbo => ?_, hb' _ k2, ?_, fl, oe, vs, T, oT, ts, (hs.2 e (ne e k2)).trans he, hcls, hd, h1, hb' _ hnT, hTe, (hs.2 T (ne T hnT)).trans hT, hdT, h3⟩
  · have hbz : b ≠ z := fun h => by
      rw [h, hideAll_none [z] (.head _)] at hbo; cases hbo
    exact (hs.2 b hbz).trans (k1 b o (of_hideAll _ hbo))
  · have : ∀ {l : List Env}, h.FunFrames B l → h'.FunFrames (hideAll B [z]) l := by
      intro l
      induction l with
      | nil => intro _; trivial
      | cons env rest ih =>
        rintro ⟨hk, ⟨L, o, hf, hn, ho, hd⟩, hr⟩
        exact ⟨hk, ⟨L, o, hf, hb' _ hn, (hs.2 L (ne L hn)).trans ho, hd⟩, ih hr⟩
    exact this k3
end Mine

-- G18
namespace Mine
open PySem PySem.Calls PyProof.Rows PySem.W

def framesOf (l : List Env) : List Addr := l.filterMap (·.frame)
/-- a dict, whatever its slots -/
def SlotKept (fr : List Addr) (h h' : Heap) : Prop := ∀ b o, b ∈ fr → h.get? b = some o → (∀ vs, o.data ≠ .fields vs) → ∃ sl, h'.get? b = some { o with slots := sl }

section
variable {prog : Program} {w : World} {h₀ : Heap} {os : OsState} {A : Around} {mg mb : Str → Option Value} {tenv genv : Env} {sz : List Int}

theorem zerr (G : Glo h₀ mg mb) (Y : QLay h₀ mg mb) (hA : A.handled = none) (hd : A.depth < recursionLimit) {LT : Addr} {outer : List Env} (hfr : A.frames = some (tenv :: outer)) (hf : tenv.frame = some LT) {C : Addr} {s₁ : Shared} {z TI TO i1 ag a D₁ : Addr} {g : Nat} {vs : List Value} {n : Int} (hn : 0 < n)
    (GE : GEnv h₀ genv) (hFF : s₁.heap.FunFrames h₀ (tenv :: outer)) (hz : IsZip s₁.heap z TI TO .none) (hti : IsPair s₁.heap TI (.ref i1) (.ref ag)) {ta tb : Value} (hto : IsPair s₁.heap TO ta tb) (hrg : IsRangeIter s₁.heap i1 0 n 1)
    {mL : Str → Option Value} (hnL : s₁.heap.Ns genv.locals mL) (hmL : mL "grouping" = some (.ref a)) (hg : s₁.heap.IsGen ag g) (hli : s₁.heap.IsList a (List.toArray vs)) (hai : IntsAre vs (0 :: sz)) (hgs : s₁.gens[g]? = some (.fresh (.func (stBody (topSt 6)) genv)))
    (nd : [z, TI, TO, i1, ag, genv.locals].Nodup) (h0 : ∀ b ∈ [z, TI, TO, i1, ag, genv.locals], h₀.get? b = none ∧ b ∉ framesOf (tenv :: outer)) (ha : a ∉ [z, TI, TO, i1, ag, genv.locals])
    (up : Up h₀ s₁.heap) (old : OldK h₀ s₁.heap) (bare : AllBare s₁.gens)
    {elt target iter : Expr} {ifs : List Expr} {scope : Scope} {pos : Pos} {R : Result → Shared → Prop}
    (hR : ∀ e s' B t tk, Loose B (tenv :: outer) e (.type "ValueError") (.ref t) s'.heap → s'.heap.TupAt t [.str "invalid grouping" tk] → B.get? t = none → (∀ b o, b ∉ z :: TO :: i1 :: genv.locals :: framesOf (tenv :: outer) → s₁.heap.get? b = some o → B.get? b = some o) →
      SlotKept (framesOf (tenv :: outer)) s₁.heap s'.heap → AllBare s'.gens → s'.os = s₁.os → R (.error (.ref e)) s') :
    codeAny (model prog w) A (.compLoop (.ListComp elt [⟨target, iter, ifs, 0⟩] scope pos) 0 (.ref z) (.ref D₁) (compEnvC scopeC [] C tenv)) R s₁ := by
  obtain ⟨tc, gcm⟩ := Y.cm
  have nd' := nd
  simp only [List.nodup_cons, List.mem_cons, List.not_mem_nil, or_false, not_or, not_false_eq_true, and_true, List.nodup_nil] at nd'
  obtain ⟨⟨zTI, zTO, zi1, zag, zL⟩, ⟨TITO, TIi1, TIag, TIL⟩, ⟨TOi1, TOag, TOL⟩, ⟨i1ag, i1L⟩, agL⟩ := nd'
  simp only [List.mem_cons, List.not_mem_nil, or_false, not_or] at ha
  obtain ⟨az, aTI, aTO, ai1, aag, aL⟩ := ha
  have zf := h0 z (by simp)
  have TOf := h0 TO (by simp)
  have if' := h0 i1 (by simp)
  have agf := h0 ag (by simp)
  have Lf := h0 genv.locals (by simp)
  refine codeAny_loop rfl (fun _ s' => s' = s₁) (fun _ s' hI => ?_) 0 rfl
  subst hI
  show wpAny _ A ((compTurn (.ListComp elt [⟨target, iter, ifs, 0⟩] scope pos) 0 (.ref z) (.ref D₁) (compEnvC scopeC [] C tenv)).onRaise (fun x => do noteFrame x (compEnvC scopeC [] C tenv); theTreesLotGoes x)) _ _ s'
  refine wpAny_noted ?_
  rw [compTurn_list]
  refine wpAny_bind (wpAny_standAt (wpAny_bind ?_))
  have zT : s'.TypeIs (.ref z) "zip" := ⟨_, hz, rfl⟩
  unfold pyNext
  refine wpAny_bind (wpAny_attempt (wpAny_callSpecial?_slot (name := Str.ofString "__next__") zT F.slot_zip_next (wpAny_call_entry F.slot_zip_next zT F.entry_zip_next ?_ (F.args_zip_next_1 _))))
  refine zip_draw2 (Ne.symm zTO) (Ne.symm zi1) TOi1 (Ne.symm zTI) TIi1 TITO hz hti hto hrg hn fun h' tk t hz' hTO' h1' hk => ?_
  have hX : ∀ b, (b = z ∨ b = TO ∨ b = i1) → h₀.get? b = none := fun b h => by
    rcases h with rfl | rfl | rfl
    · exact zf.1
    · exact TOf.1
    · exact if'.1
  have hk1 : ∀ b o, ¬ (b = z ∨ b = TO ∨ b = i1) → s'.heap.get? b = some o → h'.get? b = some o := fun b o hb e => hk b o (fun h => hb (.inl h)) (fun h => hb (.inr (.inl h))) (fun h => hb (.inr (.inr h))) e
  have up' := up_move up hX hk1
  have old' := old_move old hX hk1
  have kL : ∀ o, s'.heap.get? genv.locals = some o → h'.get? genv.locals = some o := fun o e => hk _ o (Ne.symm zL) (Ne.symm TOL) (Ne.symm i1L) e
  have hnL' : h'.Ns genv.locals mL := by
    obtain ⟨o, es, ep, ho, r⟩ := hnL
    exact ⟨o, es, ep, kL o ho, r⟩
  have hg' : h'.IsGen ag g := by
    obtain ⟨o, nm, qn, ho, r⟩ := hg
    exact ⟨o, nm, qn, hk _ _ (Ne.symm zag) (Ne.symm TOag) (Ne.symm i1ag) ho, r⟩
  have hli' : h'.IsList a (List.toArray vs) := hli.at fun o e => hk a o az aTO ai1 e
  -- the frames stand
  have frk : ∀ b o, b ∈ framesOf (tenv :: outer) → s'.heap.get? b = some o → h'.get? b = some o := fun b o hb e => hk b o (fun h => zf.2 (h ▸ hb)) (fun h => TOf.2 (h ▸ hb)) (fun h => if'.2 (h ▸ hb)) e
  have hFF' : h'.FunFrames h₀ (tenv :: outer) := by
    have : ∀ l : List Env, (∀ b, b ∈ framesOf l → b ∈ framesOf (tenv :: outer)) → s'.heap.FunFrames h₀ l → h'.FunFrames h₀ l := by
      intro l
      induction l with
      | nil => intro _ _; trivial
      | cons env rest ih =>
        rintro hl ⟨hk', ⟨L, o, hf', hn', ho, hd'⟩, hr⟩
        exact ⟨hk', ⟨L, o, hf', hn', frk L o (hl L (List.mem_filterMap.mpr ⟨env, .head _, hf'⟩)) ho, hd'⟩, ih (fun b hb => hl b (by
          obtain ⟨e, he, hfe⟩ := List.mem_filterMap.mp hb
          exact List.mem_filterMap.mpr ⟨e, .tail _ he, hfe⟩)) hr⟩
    exact this _ (fun b h => h) hFF
  generalize hB : hideAll h' (genv.locals :: framesOf (tenv :: outer)) = B
  have Bs : ∀ b o, B.get? b = some o → h'.get? b = some o := fun b o e => by subst hB; exact of_hideAll _ e
  have Bn : ∀ b, b ∈ genv.locals :: framesOf (tenv :: outer) → B.get? b = none := fun b hb => by subst hB; exact hideAll_none _ hb
  have Bg : ∀ b o, b ∉ genv.locals :: framesOf (tenv :: outer) → h'.get? b = some o → B.get? b = some o := fun b o hb e => by subst hB; exact hideAll_get _ e hb
  have hFB : h'.FunFrames B (tenv :: outer) := by
    subst hB
    exact funFrames_hide hFF' fun env he a ha => .tail _ (List.mem_filterMap.mpr ⟨env, he, ha⟩)
  have hb' : AllBare ({ s' with heap := h', toks := tk } : Shared).gens := bare
  have kgr : genv.kindOf "grouping" = some .local := by unfold Env.kindOf; rw [GE.scope]; rfl
  have S := gfresh_sto (prog := prog) (w := w) (s := ({ s' with heap := h', toks := tk } : Shared).setGen g .running) GE up' old' hnL' (bare_setGen (s := { s' with heap := h', toks := tk }) hb' rfl)
  have hsg := seg_gerr (A := A.in1.in1) GE G gcm Y.gv Y.bv hA aL hai S (.inl ⟨kgr, mL, hnL', hmL⟩) hli' (B := B) (outer := tenv :: outer) hfr Bs (Bn _ (.head _)) hFB (fun e he h => Lf.2 (List.mem_filterMap.mpr ⟨e, he, h⟩))
  refine nextOf_gen (A := A.in1) (n := 1) hA (up'.lim G.lim) hd hg' hgs ⟨rfl, hsg⟩ (fun x s₃ hx => .inr ?_) fun v s₃ gs' _ hy => hy.elim
  obtain ⟨e, rfl, ⟨h₃, tk₃, hs₃⟩, uts, te, tke, fly, hBt, tup⟩ := hx
  have zB : B.get? z = some _ := Bg z _ (fun h => by
    rcases List.mem_cons.mp h with h | h
    · exact zL h
    · exact zf.2 h) hz'
  have agB : ∀ o, h'.get? ag = some o → B.get? ag = some o := fun o e => Bg ag o (fun h => by
    rcases List.mem_cons.mp h with h | h
    · exact agL h
    · exact agf.2 h) e
  have hty := (Loose.of_flying fly).typeIs
  obtain ⟨oe, hoe, hce⟩ := id hty
  refine ⟨e, rfl, ?_, ⟨oe, hoe, hce⟩, ?_⟩
  · obtain ⟨o, nm, qn, ho, r⟩ := hg'
    exact ⟨o, nm, qn, fly.1 _ _ (agB o ho), r⟩
  have hz₃ : IsZip (s₃.setGen g .finished).heap z TI TO .ellipsis := fly.1 _ _ zB
  have hez : e ≠ z := fun q => by have := fly.2.1; rw [q, zB] at this; cases this
  refine wpAny_setField_rec hz₃ (by simp) fun h₅ _ hs₅ => ?_
  refine wpAny_bind (wpAny_isInstance (T := "ValueError") (b := false) ⟨oe, hs₅.extBut _ _ hez hoe, hce⟩ sub_ve_stop ?_)
  rw [if_neg Bool.false_ne_true]
  refine wpAny_throw ?_
  show wpAny _ A (noteFrame (.ref e) (compEnvC scopeC [] C tenv)) _ _ _
  rw [show noteFrame (.ref e) (compEnvC scopeC [] C tenv) = noteFrame (.ref e) tenv from noteFrame_congr rfl _]
  have tez : te ≠ z := fun q => by rw [q, zB] at hBt; cases hBt
  refine noteFrame_any hfr hf (Loose.upd (Loose.of_flying fly) zB hs₅) fun h₆ L₆ u₆ => hR e _ _ te tke L₆ ?_ ?_ ?_ ?_ ?_ ?_
  · obtain ⟨o, k, ho, hc', hd'⟩ := tup
    exact Heap.TupAt.of_slots ⟨o, k, hs₅.extBut _ _ tez ho, hc', hd'⟩ u₆
  · cases q : (hideAll B [z]).get? te with
    | none => rfl
    | some o => rw [of_hideAll _ q] at hBt; cases hBt
  · intro b o hb e'
    simp only [List.mem_cons, not_or] at hb
    obtain ⟨b1, b2, b3, b4, b5⟩ := hb
    exact hideAll_get _ (Bg b o (fun h => by
      rcases List.mem_cons.mp h with h | h
      · exact b4 h
      · exact b5 h) (hk b o b1 b2 b3 e')) (fun h => b1 (List.mem_singleton.mp h))
  · intro b o hb e' hnf
    obtain ⟨sl, e3⟩ := uts b o (fun h => Lf.2 (h ▸ hb)) (frk b o hb e') hnf
    exact u₆ b _ (hs₅.extBut b _ (fun h => zf.2 (h ▸ hb)) e3) hnf |>.imp fun sl h => h
  · subst hs₃
    exact bare_setGen (s := { (({ s' with heap := h', toks := tk } : Shared).setGen g .running) with heap := h₃, toks := tk₃ }) (bare_setGen (s := { s' with heap := h', toks := tk }) hb' rfl) rfl
  · subst hs₃; rfl
end
end Mine

-- G19
namespace Mine
open PySem PySem.Calls PyProof.Rows PySem.W

theorem sub_ve_ve : isSubtype (.type "ValueError") (.type "ValueError") = pure true := by rw [isSubtype_type]; kernel_rfl

/-- what a call that is refused leaves -/
structure ErrEnd (os : OsState) (LT : Addr) (outer : List Env) (s s' : Shared) : Prop where
  keep : ∀ b o, b ≠ LT → b ∉ framesOf outer → s.heap.get? b = some o → s'.heap.get? b = some o
  slots : SlotKept (framesOf outer) s.heap s'.heap
  bare : AllBare s'.gens
  os : s'.os = os

theorem slot_ns {fr : List Addr} {h h' : Heap} (k : SlotKept fr h h') {a : Addr} {m : Str → Option Value} (ha : a ∈ fr) (hn : h.Ns a m) : h'.Ns a m := by
  obtain ⟨o, es, ep, ho, hd, r⟩ := hn
  obtain ⟨sl, e⟩ := k a o ha ho (fun vs q => by rw [hd] at q; cases q)
  exact ⟨_, es, ep, e, hd, r⟩
theorem SlotKept.up {fr : List Addr} {h h' h'' : Heap} (k : SlotKept fr h h') (u : h'.UpToSlots h'') : SlotKept fr h h'' := fun b o hb e hn =>
  let ⟨_, e1⟩ := k b o hb e hn; let ⟨sl, e2⟩ := u b _ e1 hn; ⟨sl, e2⟩
theorem SlotKept.but {fr : List Addr} {h h' h'' : Heap} {z : Addr} (k : SlotKept fr h h') (hs : Heap.SameBut z h' h'') (hz : z ∉ fr) : SlotKept fr h h'' := fun b o hb e hn =>
  let ⟨sl, e1⟩ := k b o hb e hn; ⟨sl, (hs.2 b (fun q => hz (q ▸ hb))).trans e1⟩
theorem SlotKept.keep {fr : List Addr} {h h' h'' : Heap} (k : ∀ b o, h.get? b = some o → h'.get? b = some o) (s : SlotKept fr h' h'') : SlotKept fr h h'' := fun b o hb e hn => s b o hb (k b o e) hn
theorem SlotKept.sub {fr fr' : List Addr} {h h' : Heap} (k : SlotKept fr h h') (hs : ∀ b ∈ fr', b ∈ fr) : SlotKept fr' h h' := fun b o hb e hn => k b o (hs b hb) e hn

section
variable {prog : Program} {w : World} {h₀ : Heap} {os : OsState} {A : Around} {mg mb : Str → Option Value} {tenv : Env} {σ : VQ → Option B} {sz : List Int}

theorem told_err (G : Glo h₀ mg mb) (Y : QLay h₀ mg mb) (hA : A.handled = none) (hd : A.depth < recursionLimit) (hu : A.units + 2 < cLine) (K : EnvOk h₀ tenv) (hc : tenv.cells = []) (hsc : tenv.scope = stScope (topSt 12)) {outer : List Env} (hfr : A.frames = some (tenv :: outer)) (hf : tenv.frame = some tenv.locals)
    {s : Shared} {ow : VQ → Option Addr} (S : StO nmQ prog w h₀ os tenv ow σ s) (hs : σ .sizes = some (.im (.list ((0 :: sz).map D.int)))) {m : Nat} (hm : σ .many = some (.im (.int ((m + 1 : Nat) : Int)))) (hn : m + 1 ≤ 1000) (hFF : s.heap.FunFrames h₀ outer) (hout : tenv.locals ∉ framesOf outer) :
    wpAny (model prog w) A (execs (stBody (topSt 12)) tenv) (fun f s' => ∃ t, f = .ret (.str "invalid grouping" t) ∧ ErrEnd os tenv.locals outer s s') (fun _ _ => False) s := by
  have KE := K.toEnvG
  have kk := K.kind
  have kV : tenv.kindOf "ValueError" = some .globalImplicit := by unfold Env.kindOf; rw [hsc]; rfl
  have kS : tenv.kindOf "str" = some .globalImplicit := by unfold Env.kindOf; rw [hsc]; rfl
  have kR : tenv.kindOf "refused" = some .local := by unfold Env.kindOf; rw [hsc]; rfl
  have hcl : (tenv.scope.kind == .class || (tenv.scope.kind == .module && tenv.locals != tenv.globals)) = false := by rw [kk]; rfl
  have efr : framesOf (tenv :: outer) = tenv.locals :: framesOf outer := by unfold framesOf; rw [List.filterMap_cons, hf]
  show wpAny _ _ (execs [_] tenv) _ _ _
  refine wpAny_execs_cons (wpAny_Try_except ?_)
  show wpAny _ _ (execs [_] tenv) _ _ _
  refine wpAny_execs_cons (wpAny_Return_some ?_)
  refine told_start G Y hA hd K hc hsc S hs hm hn ?_
  intro genv z TI TO i1 ag a g vs D₁ C s₁ M Kc nd hnew gnot gnew S₁ hD hC
  obtain ⟨mL, hnL, hmL⟩ := M.ns
  obtain ⟨oa, hoa, _⟩ := id M.li
  have hl₁ : s₁.heap.IsList a (List.toArray vs) := M.li.at fun o e => M.keep a o e
  have hgs : s₁.gens[g]? = some (.fresh (.func (stBody (topSt 6)) genv)) := by rw [M.gs, M.gsz]; exact Array.getElem?_push_size ..
  obtain ⟨mT, hnT⟩ := S.ns
  obtain ⟨oT, esT, epT, hoT, hdT, _⟩ := id hnT
  -- the frames stand in s
  have frS : ∀ b ∈ framesOf (tenv :: outer), ∃ o, s.heap.get? b = some o := by
    intro b hb
    rw [efr] at hb
    rcases List.mem_cons.mp hb with rfl | hb
    · exact ⟨_, hoT⟩
    · obtain ⟨_, o, ho, _⟩ := hFF.mem hb
      exact ⟨o, ho⟩
  have newF : ∀ b, s.heap.get? b = none → b ∉ framesOf (tenv :: outer) := fun b hb h => by
    obtain ⟨o, e⟩ := frS b h
    rw [hb] at e; cases e
  have hFF₁ : s₁.heap.FunFrames h₀ (tenv :: outer) := ⟨by rw [kk]; decide, ⟨tenv.locals, oT, hf, K.locNew, M.keep _ _ hoT, fun vs q => by rw [hdT] at q; cases q⟩, hFF.of_keeps fun b o e _ => ⟨o, M.keep b o e, rfl⟩⟩
  have Cnew : s.heap.get? C = none := hnew C (by simp [ZPl.all])
  have hCf := newF C Cnew
  have ndC := nd
  simp only [ZPl.all, List.nodup_cons, List.mem_cons, List.not_mem_nil, or_false, not_or, not_false_eq_true, and_true, List.nodup_nil] at ndC
  obtain ⟨⟨_, _, _, _, _, zC⟩, ⟨_, _, _, _, TIC⟩, ⟨_, _, _, TOC⟩, ⟨_, _, i1C⟩, ⟨_, agC⟩, DC⟩ := ndC
  have gC : genv.locals ≠ C := fun h => gnot (by rw [h]; simp [ZPl.all])
  refine zerr G Y hA hd hfr hf (n := ((m + 1 : Nat) : Int)) (by omega) M.ge hFF₁ M.hz M.ti M.to M.rg hnL hmL M.gen hl₁ M.ai hgs M.nd (fun b hb => ⟨none_of_old S.old (M.new b hb), newF b (M.new b hb)⟩) (fun h => by rw [M.new a h] at hoa; cases hoa) S₁.up S₁.old S₁.bare ?_
  intro e s' B t tk L tup hBt hBk hsl hb ho
  obtain ⟨mC, oC, esC, epC, hoC, rC⟩ := hC
  have hCB : B.get? C = some oC := hBk C oC (fun h => by
    simp only [List.mem_cons] at h
    rcases h with h | h | h | h | h
    · exact zC h.symm
    · exact TOC h.symm
    · exact i1C h.symm
    · exact gC h.symm
    · exact hCf h) hoC
  refine ⟨mC, ⟨oC, esC, epC, L.1 _ _ hCB, rC⟩, fun h₁ hs₁ cenv hce => ?_⟩
  have tC : t ≠ C := fun q => by rw [q, hCB] at hBt; cases hBt
  have L₁ := L.upd hCB hs₁
  have tup₁ : h₁.TupAt t [.str "invalid grouping" tk] := by
    obtain ⟨o, k, ho', hc', hd'⟩ := tup
    exact ⟨o, k, (hs₁.2 t tC).trans ho', hc', hd'⟩
  have hsl₁ : SlotKept (framesOf (tenv :: outer)) s.heap h₁ := (hsl.but hs₁ hCf).keep M.keep
  have hB₁ : ∀ b o, b ∉ framesOf (tenv :: outer) → s.heap.get? b = some o → (hideAll B [C]).get? b = some o := fun b o hb' e' => by
    refine hideAll_get _ (hBk b o (fun h => ?_) (M.keep b o e')) (fun h => ?_)
    · simp only [List.mem_cons] at h
      rcases h with h | h | h | h | h
      · rw [h, M.new z (by simp)] at e'; cases e'
      · rw [h, M.new TO (by simp)] at e'; cases e'
      · rw [h, M.new i1 (by simp)] at e'; cases e'
      · rw [h, gnew] at e'; cases e'
      · exact hb' h
    · rw [List.mem_singleton.mp h, Cnew] at e'; cases e'
  generalize hideAll B [C] = B' at L₁ hB₁
  clear hBk hsl hCB L tup hBt
  obtain ⟨oe, ws, T, hoe, hoed, hT⟩ := L₁.tb
  unfold PySem.passOn
  refine wpAny_bind (wpAny_field hoe hoed hT ?_)
  rw [if_neg (show ¬ ((Value.ref T == Value.none) = true) from by simp)]
  refine wpAny_bind (setFlight_any L₁ fun h₂ L₂ u₂ => wpAny_throw ?_)
  -- the handler
  show wpAny _ A (noteFrame (.ref e) tenv) _ _ _
  refine noteFrame_any hfr hf L₂ fun h₃ L₃ u₃ => ?_
  refine setFlight_any L₃ fun h₄ L₄ u₄ => ?_
  have sl₄ := ((hsl₁.up u₂).up u₃).up u₄
  have tup₄ := ((tup₁.of_slots u₂).of_slots u₃).of_slots u₄
  have upB : ∀ {h : Heap}, B'.StaysIn h → Up h₀ h := fun k b o e' c => k b o (hB₁ b o (fun hm => by
    rw [efr] at hm
    rcases List.mem_cons.mp hm with rfl | hm
    · rw [K.locNew] at e'; cases e'
    · rw [(hFF.mem hm).1] at e'; cases e') (S.up b o e' c))
  refine wpAny_handleBy_builtin_as (X := "ValueError") (T := "ValueError") (b := true) PySem.F.isExc_ValueError PySem.F.notTuple_ValueError sub_ve_ve ?_
  refine wp_bname G KE (upB L₄.1) kV Y.gv Y.bv ⟨rfl, L₄.typeIs, ?_⟩
  rw [if_pos rfl]
  refine setFlight_any L₄ fun h₅ L₅ u₅ => ?_
  have sl₅ := sl₄.up u₅
  have tup₅ := tup₄.of_slots u₅
  have hnT₅ : h₅.Ns tenv.locals mT := slot_ns sl₅ (by rw [efr]; exact .head _) hnT
  refine wpAny_storeName_local kR hnT₅ (fun h₆ hn₆ hs₆ => ?_) hcl
  obtain ⟨fl, oe₅, ws₅, T₅, oT₅, ts₅, he₅, ⟨hce₅, h0₅⟩, hd₅, _⟩ := L₅.2.2.2
  obtain ⟨oL₅, _, _, hoL₅, hdL₅, _⟩ := id hnT₅
  have eT : e ≠ tenv.locals := fun q => by
    rw [q, hoL₅] at he₅; cases he₅
    rw [hdL₅] at hd₅; cases hd₅
  obtain ⟨ot, nt, hot, hotc, hotd⟩ := tup₅
  have tT : t ≠ tenv.locals := fun q => by
    rw [q, hoL₅] at hot; cases hot
    rw [hdL₅] at hotd; cases hotd
  show wpAny _ _ (execs [_] tenv) _ _ _
  refine wpAny_execs_cons (wpAny_Return_some (wpAny_Call_NameR ?_))
  have up₆ : Up h₀ h₆ := fun b o e' c => (hs₆.2 b (fun q => by rw [q, K.locNew] at e'; cases e')).trans (upB L₅.1 b o e' c)
  refine wp_bname G KE up₆ kS Y.gs Y.bs (PyProof.Rows.callWith_type rfl (evalArgs_plain ?_))
  show wpAny _ _ (spliced [(false, eval _ tenv)]) _ _ _
  refine spliced_cons (wp_name kk (.inl ⟨kR, _, hn₆, by rw [if_pos rfl]⟩) (spliced_nil ?_) (by decide))
  refine PySem.P.str_of_exc_one PySem.F.excStr_ValueError (by rw [Around.mark_units]; exact hu) ⟨oe₅, ws₅, (hs₆.2 e eT).trans he₅, hce₅, hd₅, h0₅⟩ ⟨ot, nt, (hs₆.2 t tT).trans hot, hotc, hotd⟩ ?_
  show wpAny _ A (do bindName tenv "refused" .none; unbindBehindTheSuite tenv "refused" _) _ _ _
  refine wpAny_nameGoes kR hn₆ hcl fun h₇ m₇ hn₇ hs₇ => ?_
  refine ⟨tk, rfl, fun b o hb1 hb2 e' => ?_, ?_, hb, ho.trans S₁.os⟩
  · exact (hs₇.2 b hb1).trans ((hs₆.2 b hb1).trans (L₅.1 b o (hB₁ b o (by rw [efr]; exact fun h => (List.mem_cons.mp h).elim hb1 hb2) e')))
  · exact ((sl₅.sub (fun b hb' => by rw [efr]; exact .tail _ hb')).but hs₆ hout).but hs₇ hout
end
end Mine

-- G20
namespace Mine
open PySem PySem.Calls PyProof.Rows PySem.W

theorem star_head {e : Expr} {es : List Expr} {env : Env} {xs : List (Bool × Sem Value)} (h : starEach (e :: es) env = (false, eval e env) :: xs) : starEach (e :: es) env = (false, eval e env) :: starEach es env := by
  cases e <;> first | rfl | (injection h with h1 _; injection h1 with h2 _; exact nomatch h2)
theorem star_tail {e : Expr} {es : List Expr} {env : Env} {xs : List (Bool × Sem Value)} (h : starEach (e :: es) env = (false, eval e env) :: xs) : starEach es env = xs := by
  rw [star_head h] at h
  exact (List.cons.inj h).2
theorem genTake_some : ∀ (sz : List Int) (l : Int) (n : Nat), genTake sz (some l) n ≠ none
  | _, _, 0 => by unfold genTake; exact fun h => nomatch h
  | [], _, _ + 1 => by unfold genTake; exact fun h => nomatch h
  | x :: r, l, n + 1 => by
    unfold genTake
    by_cases h1 : x = 127
    · rw [if_pos h1]; exact fun h => nomatch h
    rw [if_neg h1]
    by_cases h2 : x = 0
    · rw [if_pos h2]; exact fun h => nomatch h
    rw [if_neg h2]
    have := genTake_some r x n
    cases h3 : genTake r (some x) n with
    | none => exact absurd h3 this
    | some tl => exact fun h => nomatch h
theorem genTake_none {sz : List Int} {n : Nat} (h : genTake sz none (n + 1) = none) : ∃ r, sz = 0 :: r := by
  cases sz with
  | nil => unfold genTake at h; cases h
  | cons x r =>
    unfold genTake at h
    by_cases h1 : x = 127
    · rw [if_pos h1] at h; cases h
    rw [if_neg h1] at h
    by_cases h2 : x = 0
    · exact ⟨r, by rw [h2]⟩
    rw [if_neg h2] at h
    have := genTake_some r x n
    cases h3 : genTake r (some x) n with
    | none => exact absurd h3 this
    | some tl => rw [h3] at h; cases h

section
variable {V : Type} [DecidableEq V] {nm : V → Str} {prog : Program} {w : World} {h₀ : Heap} {os : OsState} {A : Around} {env : Env} {σ : V → Option B} {ow : V → Option Addr} {mg mb : Str → Option Value}
/-- all stands, but the frame's slots -/
theorem st_slots (K : EnvOk h₀ env) {s s' : Shared} (S : StO nm prog w h₀ os env ow σ s) (hk : ∀ b o, b ≠ env.locals → s.heap.get? b = some o → s'.heap.get? b = some o) (hL : ∀ o, s.heap.get? env.locals = some o → (∀ vs, o.data ≠ .fields vs) → ∃ sl, s'.heap.get? env.locals = some { o with slots := sl })
    (hb : AllBare s'.gens) (ho : s'.os = os) : StO nm prog w h₀ os env ow σ s' ∧ Step false (Mu env ow) (Mu env ow) s s' := by
  have mv : ∀ q o, ¬ Mu env ow q → s.heap.get? q = some o → IsData o.cls → s'.heap.get? q = some o ∧ ¬ Mu env ow q := fun q o hq e _ => ⟨hk q o (fun h => hq (.inl h)) e, hq⟩
  have ns : ∀ m, s.heap.Ns env.locals m → s'.heap.Ns env.locals m := fun m ⟨o, es, ep, e, hd, r⟩ => by
    obtain ⟨sl, e'⟩ := hL o e (fun vs q => by rw [hd] at q; cases q)
    exact ⟨_, es, ep, e', hd, r⟩
  have rdn : ∀ n v, RdN env s.heap n v → RdN env s'.heap n v := by
    intro n v r
    rcases r with ⟨e, m, hm, hu⟩ | ⟨e, c, hc, o, ho', hd⟩
    · exact .inl ⟨e, m, ns m hm, hu⟩
    · exact .inr ⟨e, c, hc, o, hk _ _ (K.cellNe _ (mem_of_lookup' hc)) ho', hd⟩
  have there : ∀ b o, s.heap.get? b = some o → ∃ o', s'.heap.get? b = some o' := by
    intro b o e
    by_cases h : b = env.locals
    · subst h
      obtain ⟨m, o', es, ep, e', hd, _⟩ := S.ns
      obtain ⟨sl, e''⟩ := hL o' e' (fun vs q => by rw [hd] at q; cases q)
      exact ⟨_, e''⟩
    · exact ⟨o, hk b o h e⟩
  refine ⟨⟨fun b o e c => hk b o (fun h => by rw [h, K.locNew] at e; cases e) (S.up b o e c), oldk_ext S.old K.locNew hk, fun x d h => ?_, fun x b h hb => ?_, S.inj, fun x a h => ?_, ?_, fun c hc => ?_, hb, ho⟩, ⟨fun b o h e _ => hk b o (fun h' => h (.inl h')) e, fun h => (nomatch h), there, fun b h => .inl h⟩⟩
  · obtain ⟨v, r, q⟩ := S.im x d h
    exact ⟨v, rdn _ _ r, Rd.move mv _ _ q⟩
  · obtain ⟨a, e, r, q⟩ := S.own x b h hb
    exact ⟨a, e, rdn _ _ r, q.move (fun o e' => hk a o (S.sep x a e).1 e') mv⟩
  · have z := S.sep x a h
    obtain ⟨o, e⟩ := z.2.2.2
    exact ⟨z.1, z.2.1, z.2.2.1, o, hk a o z.1 e⟩
  · obtain ⟨m, hm⟩ := S.ns
    exact ⟨m, ns m hm⟩
  · obtain ⟨v, o, e, hd⟩ := S.cells c hc
    exact ⟨v, o, hk _ _ (K.cellNe c hc) e, hd⟩

theorem code_enterF (hnm : ∀ x y, nm x = nm y → x = y) (G : Glo h₀ mg mb) {n : Nat} (hA : Ok (n + 1) A) {a : Addr} {ps : List V} {scope : Scope} {body : List Stmt} (F : FnAt nm h₀ a ps scope body) (hps : ps.Nodup) {ds : List D} (hl : ds.length = ps.length)
    {s : Shared} {mu : Addr → Prop} {vs : List Value} (up : Up h₀ s.heap) (old : OldK h₀ s.heap) (bare : AllBare s.gens) (hr : RdL s.heap mu ds vs) {R : Result → Shared → Prop}
    (h : ∀ env s', FEnv h₀ scope env → env.frame = some env.locals → StO nm prog w h₀ s.os env (fun _ => none) (argsσ ps ds) s' → Keeps s s' → s.heap.get? env.locals = none →
      wpAny (model prog w) (A.deeper env) (execs body env) (fun f s'' => R (.ok (.ret (match f with | .ret v => v | _ => .none))) s'') (fun _ _ => False) s') :
    codeAny (model prog w) A (.call (.ref a) ⟨vs, []⟩) R s := by
  obtain ⟨o, fd, c, oc, cvs, t, ho, hoc, hd, hsc, hbd, hclo, hgl, hbt, hcd, hc, hcc, hcf, hcq, hbind⟩ := F.ex
  subst hsc
  have hlen : vs.length = ps.length := hr.length.trans hl
  refine codeAny_call_function (by have := hA.depth; omega) (up a o ho (.inl hoc)) hd F.co F.gen hbd ⟨c, oc, cvs, t, hcd, up c oc hc (.inl hcc), hcf, hcq⟩ ?_
  rw [hbind vs hlen, hclo]
  refine wpAny_pure (wpAny_newFunctionEnv F.nocell (fun x hx => ?_) (fun h₁ hns hsb => ⟨(up.lim G.lim).fresh _ hsb, ?_⟩) F.kind)
  · have h1 := List.of_mem_zip (show (x.1, x.2) ∈ _ from hx)
    obtain ⟨y, hy, e⟩ := List.mem_map.mp h1.1
    rw [← e]; exact F.loc y hy
  · have keep : ∀ b o, s.heap.get? b = some o → h₁.get? b = some o := fun b o e => hsb.extBut b o (Nat.ne_of_lt (Heap.lt_size e)) (Heap.get?_push_of_some _ e)
    have k₁ : Keeps s { s with heap := h₁, toks := s.toks + ((ps.map nm).zip vs).length } := ⟨h₁, _, rfl, keep⟩
    have hLn : s.heap.get? s.heap.objs.size = none := fresh_old (kp_refl s)
    generalize henv : newEnv fd.scope s.heap.objs.size fd.globals [] (fd.qualname ++ ".<locals>.") (some a) fd.code none fd.builtins = env
    have eL : env.locals = s.heap.objs.size := by rw [← henv]; rfl
    have eC : env.cells = [] := by rw [← henv]; rfl
    have eS : env.scope = fd.scope := by rw [← henv]; rfl
    have eF : env.frame = some env.locals := by rw [← henv]; rfl
    have FE : FEnv h₀ fd.scope env := by
      refine ⟨⟨⟨by rw [eS]; exact F.kind, by rw [← henv]; exact hgl, by rw [← henv]; exact hbt⟩, ?_, ?_, ?_, ?_⟩, eS, eC⟩
      · rw [eL]; exact none_of_old old hLn
      · intro c hc; rw [eC] at hc; cases hc
      · intro c hc; rw [eC] at hc; cases hc
      · intro x y c hx; rw [eC] at hx; cases hx
    have mu0 : ∀ q, Mu env (fun _ : V => none) q → q = s.heap.objs.size := by
      rintro q (h | ⟨c, hc, _⟩ | ⟨y, h⟩)
      · exact h.trans eL
      · rw [eC] at hc; cases hc
      · cases h
    have S₀ : StO nm prog w h₀ s.os env (fun _ : V => none) (argsσ ps ds) { s with heap := h₁, toks := s.toks + ((ps.map nm).zip vs).length } := by
      refine ⟨up.keeps keep, old.step_keeps keep, fun x d hx => ?_, fun x b hx hb => ?_, fun x y a h => (nomatch h), fun x a h => (nomatch h), ⟨_, by rw [eL]; exact hns⟩, fun c hc => (by rw [eC] at hc; exact nomatch hc), bare, rfl⟩
      · unfold argsσ at hx
        cases e : (ps.zip ds).lookup x with
        | none => rw [e] at hx; cases hx
        | some d' =>
          rw [e] at hx; cases hx
          obtain ⟨i, h1, h2⟩ := lookup_zip_get ps ds x d e
          obtain ⟨v, hv, rv⟩ := hr.get h2
          refine ⟨v, .inl ⟨?_, _, by rw [eL]; exact hns, reverse_lookup_zip hnm ps vs i x v hps h1 hv hlen⟩, Rd.move (fun b o hb e _ => ⟨keep b o e, fun h => ?_⟩) _ _ rv⟩
          · show env.scope.names.lookup (nm x) = _
            rw [eS]; exact F.loc x (List.mem_of_getElem? h1)
          · rw [mu0 b h, hLn] at e; cases e
      · unfold argsσ at hx
        cases e : (ps.zip ds).lookup x with
        | none => rw [e] at hx; cases hx
        | some d' => rw [e] at hx; cases hx; cases hb
    exact codeAny_func (wf (h env _ FE eF S₀ k₁ (by rw [eL]; exact hLn)))
end

section
variable {prog : Program} {w : World} {h₀ : Heap} {os : OsState} {A : Around} {mg mb : Str → Option Value} {env : Env}

theorem toldSpec (G : Glo h₀ mg mb) (Y : QLay h₀ mg mb) {k : Nat} (hA : Ok (k + 2) A) (hfr : A.frames = some [env]) (hf : env.frame = some env.locals) (K : EnvOk h₀ env) (kx : env.kindOf "_law_told" = some .globalImplicit) {p : Addr} (hp : Slot' env (nmL .told) p) : ToldSpec prog w h₀ os A env := by
  intro σ sz n e f p1 p2 p4 p5 Post hst he hf' hn1 hn2 hsl hsx hpost
  refine ⟨fun ow s S => ?_⟩
  obtain ⟨m, rfl⟩ : ∃ m, n = m + 1 := ⟨n - 1, by omega⟩
  have KE := K.toEnvG
  obtain ⟨aT, gT, FT⟩ := Y.told
  obtain ⟨o, fd, c, oc, cvs, t, ho, hoc, hdt, _⟩ := id FT.ex
  have h1 := star_head hst
  have h2 := star_head (star_tail hst)
  refine wpAny_Assign_Name (wpAny_Call_NameR (wp_gname G KE S.up kx gT ?_ (by decide))) rfl
  refine callWith_def (o := o) hdt (ev_mono ((evs_cons he (evs_cons hf' evs_nil h2) h1).run p4 s _ S.stt) ?_) h1
  rintro vs s₁ ⟨k₁, r₁⟩
  have S₁ := (st_keeps (str := false) S k₁).1
  have t₁ := (st_keeps (str := false) S k₁).2
  refine ⟨S₁.up aT o ho (.inl hoc), wpAny_call (code_enterF nmQ_inj G hA FT (by decide) rfl S₁.up S₁.old S₁.bare r₁ fun tenv s₂ FE eF S₂ k₂ hLn => ?_)⟩
  obtain ⟨KT, hsc, hcc⟩ := FE
  have hA' : Ok k (A.deeper tenv) := by
    have := hA.deeper tenv
    exact ⟨this.handled, by have := this.depth; omega, by have := this.units; omega⟩
  have hfr' : (A.deeper tenv).frames = some (tenv :: [env]) := Around.frames_deeper hfr
  rw [S₁.os] at S₂
  have S₂L := (st_keeps (str := false) S₁ k₂).1
  have hne : tenv.locals ≠ env.locals := fun h => by
    obtain ⟨_, o', _, _, e', _⟩ := S₁.ns
    rw [← h, hLn] at e'; cases e'
  have finish : ∀ (v : Value) (s₃ : Shared), StO nmL prog w h₀ os env ow σ s₃ → Step false (Mu env ow) (Mu env ow) s₁ s₃ → Rd s₃.heap (Mu env ow) (toldD sz (m + 1)) v →
      wpAny (model prog w) A (storeName env "told" v) (fun _ => Res nmL prog w h₀ os env false ow s Post .next) (fun _ _ => False) s₃ := by
    intro v s₃ S₃ t₃ rv
    refine wp_store (str := false) K nmL_inj (b := .im (toldD sz (m + 1))) S₃ (kp_refl _) (newb_im rv) hp fun s₄ S₄ t₄ _ => ?_
    exact Res.next S₄ (t₁.trans (t₃.trans t₄)) hpost
  cases hg : genTake sz none (m + 1) with
  | some gl =>
    refine ev_mono (told_ok G Y hA'.handled (by have := hA'.depth; omega) KT hcc hsc S₂ rfl rfl (by omega) hg) ?_
    rintro fl s₃ ⟨D₁, ys, rfl, T⟩
    have z := st_slots K S₁ (s' := s₃) (fun b o _ e => T.keep b o (kp_heap k₂ b o e)) (fun o e _ => ⟨o.slots, T.keep _ o (kp_heap k₂ _ o e)⟩) T.bare T.os
    refine finish _ _ z.1 z.2 ?_
    unfold toldD
    rw [hg]
    refine rd_list.mpr ⟨D₁, ys, rfl, fun h => ?_, T.pl.isList, RdL.ofInts T.ai⟩
    obtain ⟨o', e'⟩ := S₂L.stt.lt D₁ h
    rw [T.new] at e'; cases e'
  | none =>
    obtain ⟨r, rfl⟩ := genTake_none hg
    obtain ⟨mE, oE, esE, epE, hoE, hdE, _⟩ := S₂L.ns
    have hFF : s₂.heap.FunFrames h₀ [env] := ⟨by rw [K.kind]; decide, ⟨env.locals, oE, hf, K.locNew, hoE, fun vs q => by rw [hdE] at q; cases q⟩, trivial⟩
    have efr : framesOf [env] = [env.locals] := by unfold framesOf; rw [List.filterMap_cons, hf]; rfl
    refine ev_mono (told_err G Y hA'.handled (by have := hA'.depth; omega) (by have := hA'.units; omega) KT hcc hsc hfr' eF S₂ rfl rfl (by omega) hFF (by rw [efr]; exact fun h => hne (List.mem_singleton.mp h))) ?_
    rintro fl s₃ ⟨t, rfl, T⟩
    obtain ⟨hk, hs, hb, hos⟩ := T
    rw [efr] at hk hs
    have z := st_slots K S₁ (s' := s₃) (fun b o hb' e => hk b o (fun h => by rw [h, hLn] at e; cases e) (fun h => hb' (List.mem_singleton.mp h)) (kp_heap k₂ b o e)) (fun o e hn => hs _ o (.head _) (kp_heap k₂ _ o e) hn) hb hos
    refine finish _ _ z.1 z.2 ?_
    unfold toldD
    rw [hg]
    exact rd_str.mpr ⟨_, rfl⟩
end
end Mine

-- KS
namespace Mine
open PySem PySem.Calls PyProof.Rows PySem.W

def stParams : Stmt → Arguments
  | .FunctionDef _ a _ _ _ _ _ _ _ _ => a
  | _ => default
def fnO (st : Stmt) (nm q m : Str) (mt c : Nat) : Obj := ⟨.type "function", none, .func ⟨nm, q, stParams st, .stmts (stBody st), stScope st, 3, [], .none, .none, .none, .str m mt, none, .ref c, .none, 0⟩, #[]⟩
def cut : Str := "/claim/cut.py"
def codeO (nm q : Str) (t : Nat) (line argc flags : Int) (a : Nat) (v1 v2 : Value) (b u : Nat) : Obj :=
  ⟨.type "code", none, .fields #[.str nm t, .str q (t + 1), .str cut (t + 2), .int line 0, .int argc 0, .int 0 0, .int 0 0, .int flags 0, .ref a, .bool true, .int 181 0, .ref (a + 1), .none, v1, v2, .ref b, .int u 0, .int line 0, .str cut (u + 1)], #[]⟩
def dE (P : Params) (x : Str) (t : Nat) (v : Value) : DictEntry := ⟨PyData.keyHash P x, .str x t, v⟩
def iE (k : Int) (t : Nat) (x : Str) : DictEntry := ⟨k, .int k t, .str x (t + 1)⟩
def lawM : Str := "law_wn0087_01"
def tabMod : Str := "cpy313.tabnanny"

def KK (P : Params) : Frag :=
  [(2, ⟨.none, none, .dict #[] 0, #[]⟩),
   (3, ⟨.type "dict", none, .dict #[dE P "__name__" 165 (.str lawM 348), dE P "__doc__" 166 .none, dE P "__package__" 167 .none, dE P "__loader__" 168 (.builtin "__main__.__loader__#opaque"),
      dE P "__spec__" 169 .none, dE P "__annotations__" 170 (.ref 6), dE P "__builtins__" 171 (.ref 4), dE P "__file__" 173 (.str cut 172), dE P "__cached__" 174 .none,
      dE P "_wall" 193 (.ref 21), dE P "COMPILER_FLAG_NAMES" 226 (.ref 22), dE P "pretty_flags" 236 (.ref 29), dE P "CHAR_MAX" 240 (.int 127 239), dE P "_grouping_intervals" 249 (.ref 36),
      dE P "Whitespace" 347 (.ref 98), dE P "_law_name" 356 (.ref 109), dE P "_law_measure" 364 (.ref 116), dE P "_law_told" 370 (.ref 121), dE P "law" 376 (.ref 126)] 19, #[]⟩),
   (22, ⟨.type "dict", none, .dict #[iE 1 196 "OPTIMIZED", iE 2 198 "NEWLOCALS", iE 4 200 "VARARGS", iE 8 202 "VARKEYWORDS", iE 16 204 "NESTED", iE 32 206 "GENERATOR", iE 64 208 "NOFREE",
      iE 128 210 "COROUTINE", iE 256 212 "ITERABLE_COROUTINE", iE 512 214 "ASYNC_GENERATOR"] 10, #[]⟩),
   (28, codeO "pretty_flags" "pretty_flags" 227 6 1 3 23 (.ref 25) (.ref 26) 27 234),
   (29, fnO (topSt 3) "pretty_flags" "pretty_flags" "cpy313.dis" 194 28),
   (35, codeO "_grouping_intervals" "_grouping_intervals" 241 20 1 35 30 (.ref 32) (.ref 33) 34 247),
   (36, fnO (topSt 6) "_grouping_intervals" "_grouping_intervals" "cpy313.locale" 237 35),
   (52, codeO "__init__" "Whitespace.__init__" 269 36 2 3 47 (.ref 49) (.ref 50) 51 281),
   (53, fnO (metSt 1) "__init__" "Whitespace.__init__" tabMod 250 52),
   (66, codeO "indent_level" "Whitespace.indent_level" 291 62 2 3 61 (.ref 63) (.ref 64) 65 300),
   (67, fnO (metSt 3) "indent_level" "Whitespace.indent_level" tabMod 250 66),
   (97, ⟨.type "dict", none, .dict #[dE P "__module__" 259 (.str tabMod 250), dE P "__firstlineno__" 263 (.int 33 262), dE P "S" 267 (.str " " 265), dE P "T" 268 (.str "\t" 266),
      dE P "__init__" 283 (.ref 53), dE P "longest_run_of_spaces" 290 (.ref 60), dE P "indent_level" 302 (.ref 67), dE P "equal" 310 (.ref 74), dE P "not_equal_witness" 318 (.ref 81),
      dE P "less" 326 (.ref 88), dE P "not_less_witness" 334 (.ref 95), dE P "__static_attributes__" 340 (.ref 96), dE P "__dict__" 342 (.ref 99), dE P "__weakref__" 344 (.ref 100), dE P "__doc__" 345 .none] 4, #[]⟩),
   (98, ⟨.type "type", none, .cls { name := "Whitespace", bases := [.type "object"], mro := [.ref 98, .type "object"], ns := 97, qualname := "Whitespace" },
      #[none, none, some (.str "Whitespace" 252), some (.str "Whitespace" 260), some (.builtin "object.__new__"), some (.bool true)]⟩),
   (108, codeO "_law_name" "_law_name" 350 81 1 3 103 (.ref 105) (.ref 106) 107 354),
   (109, fnO (topSt 10) "_law_name" "_law_name" lawM 348 108),
   (115, codeO "_law_measure" "_law_measure" 357 85 2 3 110 (.ref 112) (.ref 113) 114 362),
   (116, fnO (topSt 11) "_law_measure" "_law_measure" lawM 348 115),
   (120, codeO "_law_told" "_law_told" 365 89 2 3 117 .none .none 119 368),
   (121, fnO (topSt 12) "_law_told" "_law_told" lawM 348 120),
   (125, codeO "law" "law" 371 94 1 3 122 .none .none 124 374),
   (126, fnO (topSt 13) "law" "law" lawM 348 125)]
def asK : List Addr := [2, 3, 22, 28, 29, 35, 36, 52, 53, 66, 67, 97, 98, 108, 109, 115, 116, 120, 121, 125, 126]
theorem asK_eq (P : Params) : asK = (KK P).map (·.1) := rfl
abbrev HK : Hook := kHook KK asK asK_eq
end Mine

-- HeadS
namespace Mine
open PySem PySem.Calls PyProof.Rows PySem.W
abbrev pV : Program := PySem.Challenge.pw_wn0087_01
def qV : Program := PySem.W.view pV [0,2,3,5,6,8,10,11,12,13]
def looseV : List Str := [Str.ofString "COMPILER_FLAG_NAMES", Str.ofString "Whitespace"]
def rowV : String := "special-get-raises"
def xtV (s : Shared) : Bool := xlAt qV [] s && recOk [] s
/-- the top's run and the looks behind it, one way of the world's row, from the booted heap -/
def WayV (b : Bool) : Prop := ∀ (w : World) (os : OsState), (topFrom treeTable pV (w.withFollow rowV b) 1878 ⟨boot_heap (w.withFollow rowV b).params, #[], boot_drawn, boot_toks, os⟩).map
    (fun s => (openSeen qV looseV (importedModules pV.main.body) xtV true s, Hook.obs HK s)) = some (openGood qV looseV, Hook.val HK (w.withFollow rowV b))
-- the library's twins of topRun, treeTable and openSeen make the kernel's evaluation twice as quick
theorem wayF : WayV false := fun w os => by
  unfold topFrom
  rw [PySem.W.Fast.te14082659384304107361, PySem.W.Fast.te14364793385576792824, PySem.W.Fast.te4187177175401517315]
  kernel_rfl
theorem wayT : WayV true := fun w os => by
  unfold topFrom
  rw [PySem.W.Fast.te14082659384304107361, PySem.W.Fast.te14364793385576792824, PySem.W.Fast.te4187177175401517315]
  kernel_rfl
theorem openV : ∀ w : World, (fencedOpening treeTable pV w 1878).map (fun s => (s.heap, s.gens, s.drawn, s.toks)) = some (boot_heap w.params, #[], boot_drawn, boot_toks) :=
  boot_open (by kernel_rfl) (by decide +kernel) (fun s => by kernel_rfl)
theorem endsV {w : World} (h : ∀ os, (topFrom treeTable pV w 1878 ⟨boot_heap w.params, #[], boot_drawn, boot_toks, os⟩).map (fun s => (openSeen qV looseV (importedModules pV.main.body) xtV true s, Hook.obs HK s)) = some (openGood qV looseV, Hook.val HK w)) :
    (openEnds treeTable pV w 1878).map (fun s => (openSeen qV looseV (importedModules pV.main.body) xtV true s, Hook.obs HK s)) = some (openGood qV looseV, Hook.val HK w) := by
  obtain ⟨⟨h', gs, d, k, os⟩, e, e'⟩ := Option.map_eq_some_iff.mp (openV w)
  simp only [Prod.mk.injEq] at e'
  obtain ⟨rfl, rfl, rfl, rfl⟩ := e'
  unfold openEnds
  rw [e]
  exact h os
theorem leftV : LeftO pV qV looseV xtV (Hook.obs HK) (Hook.val HK) 1878 := fun w =>
  byRow2 rowV (P := fun w => (openEnds treeTable pV w 1878).map (fun s => (openSeen qV looseV (importedModules pV.main.body) xtV true s, Hook.obs HK s)) = some (openGood qV looseV, Hook.val HK w))
    (fun w => endsV (wayF w)) (fun w => endsV (wayT w)) w
theorem saidV : PySem.Challenge.rw_wn0087_01.wellSaid = true := by
  rw [PySem.W.Fast.te9446332074065402090]
  kernel_rfl
end Mine

-- E1
namespace Mine
open PySem PySem.Calls PyProof.Rows PySem.W

theorem bind1 {P : List Value → Prop} (h : ∀ v, P [v]) : ∀ vs : List Value, vs.length = 1 → P vs
  | [v], _ => h v
theorem bind2 {P : List Value → Prop} (h : ∀ v u, P [v, u]) : ∀ vs : List Value, vs.length = 2 → P vs
  | [v, u], _ => h v u

section
variable {w : World} {h₀ : Heap}

set_option maxHeartbeats 1000000 in
theorem fn_pretty (X : (KK w.params).In h₀) : FnAt nmP h₀ 29 [.flags] (stScope (topSt 3)) (stBody (topSt 3)) where
  ex := ⟨_, _, 28, _, _, _, X 29 _ rfl, (fun h => nomatch h), rfl, rfl, rfl, rfl, rfl, rfl, rfl, X 28 _ rfl, (fun h => nomatch h), rfl, rfl, by exact bind1 fun _ => rfl⟩
  kind := rfl
  gen := rfl
  co := rfl
  nocell := by decide
  loc := by
    intro x hx
    rw [List.mem_singleton.mp hx]; rfl
end
end Mine

-- E2
namespace Mine
open PySem PySem.Calls PyProof.Rows PySem.W

section
variable {prog : Program} {w : World} {h₀ : Heap}

theorem fn_measure (X : (KK w.params).In h₀) : FnAt nmM h₀ 116 [.a, .b] (stScope (topSt 11)) (stBody (topSt 11)) where
  ex := ⟨_, _, 115, _, _, _, X 116 _ rfl, (fun h => nomatch h), rfl, rfl, rfl, rfl, rfl, rfl, rfl, X 115 _ rfl, (fun h => nomatch h), rfl, rfl, by exact bind2 fun _ _ => rfl⟩
  kind := rfl
  gen := rfl
  co := rfl
  nocell := by decide
  loc := by
    intro x hx
    rcases List.mem_cons.mp hx with rfl | hx
    · rfl
    · rw [List.mem_singleton.mp hx]; rfl
theorem fn_name (X : (KK w.params).In h₀) : FnAt nmN h₀ 109 [.place] (stScope (topSt 10)) (stBody (topSt 10)) where
  ex := ⟨_, _, 108, _, _, _, X 109 _ rfl, (fun h => nomatch h), rfl, rfl, rfl, rfl, rfl, rfl, rfl, X 108 _ rfl, (fun h => nomatch h), rfl, rfl, by exact bind1 fun _ => rfl⟩
  kind := rfl
  gen := rfl
  co := rfl
  nocell := by decide
  loc := by
    intro x hx
    rw [List.mem_singleton.mp hx]; rfl
theorem fn_told (X : (KK w.params).In h₀) : FnAt nmQ h₀ 121 [.sizes, .many] (stScope (topSt 12)) (stBody (topSt 12)) where
  ex := ⟨_, _, 120, _, _, _, X 121 _ rfl, (fun h => nomatch h), rfl, rfl, rfl, rfl, rfl, rfl, rfl, X 120 _ rfl, (fun h => nomatch h), rfl, rfl, by exact bind2 fun _ _ => rfl⟩
  kind := rfl
  gen := rfl
  co := rfl
  nocell := by decide
  loc := by
    intro x hx
    rcases List.mem_cons.mp hx with rfl | hx
    · rfl
    · rw [List.mem_singleton.mp hx]; rfl
theorem fn_init (X : (KK w.params).In h₀) : FnAt nmW h₀ 53 [.self, .ws] (stScope (metSt 1)) (stBody (metSt 1)) where
  ex := ⟨_, _, 52, _, _, _, X 53 _ rfl, (fun h => nomatch h), rfl, rfl, rfl, rfl, rfl, rfl, rfl, X 52 _ rfl, (fun h => nomatch h), rfl, rfl, by exact bind2 fun _ _ => rfl⟩
  kind := rfl
  gen := rfl
  co := rfl
  nocell := by decide
  loc := by
    intro x hx
    rcases List.mem_cons.mp hx with rfl | hx
    · rfl
    · rw [List.mem_singleton.mp hx]; rfl
theorem fn_il (X : (KK w.params).In h₀) : FnAt nmI h₀ 67 [.self, .tabsize] (stScope (metSt 3)) (stBody (metSt 3)) where
  ex := ⟨_, _, 66, _, _, _, X 67 _ rfl, (fun h => nomatch h), rfl, rfl, rfl, rfl, rfl, rfl, rfl, X 66 _ rfl, (fun h => nomatch h), rfl, rfl, by exact bind2 fun _ _ => rfl⟩
  kind := rfl
  gen := rfl
  co := rfl
  nocell := by decide
  loc := by
    intro x hx
    rcases List.mem_cons.mp hx with rfl | hx
    · rfl
    · rw [List.mem_singleton.mp hx]; rfl
theorem fn_gen (X : (KK w.params).In h₀) : GFn h₀ 36 where
  ex := ⟨_, _, 35, _, _, _, X 36 _ rfl, (fun h => nomatch h), rfl, rfl, rfl, rfl, rfl, rfl, rfl, X 35 _ rfl, (fun h => nomatch h), rfl, rfl, fun v => rfl⟩

theorem ws_lay (X : (KK w.params).In h₀) {mg : Str → Option Value} (g : mg "Whitespace" = some (.ref 98)) : WsLay (KK w.params) h₀ mg 98 53 67 where
  k := ⟨X, by
    have hall : (KK w.params).all (fun p => match p.2.cls with | .none => p.1 == cStatics | _ => true) = true := by rfl
    intro a o h
    have := List.all_eq_true.mp hall (a, o) (lk_mem' h)
    cases hc : o.cls with
    | none =>
      right
      simp only [hc] at this
      exact beq_iff_eq.mp this
    | _ => exact .inl (fun q => nomatch q)⟩
  g := g
  init := ⟨⟨by rfl, by rfl, by rfl⟩, by rfl, by rfl, ⟨Value.type "type", _, _, by rfl, by rfl, by rfl⟩, by rfl, by rfl, by rfl, by rfl, by rfl⟩
  cls := ⟨by rfl, by rfl, by rfl, by rfl, by rfl, by rfl, by rfl⟩
  keep := by rfl
  makes := by rfl
  fi := by rfl
  ft := by rfl
  fn := fn_init X
  il := fn_il X
end
end Mine

-- E3
namespace Mine
open PySem PySem.Calls PyProof.Rows PySem.W

section
variable {prog : Program} {w : World} {h₀ : Heap}

theorem glob_at (X : (KK w.params).In h₀) {mg : Str → Option Value} (g : h₀.Ns mainGlobals mg) {x : Str} {v : Option Value} (hv : ∀ o, (KK w.params).lookup 3 = some o → ∀ es ep, o.data = .dict es ep → nsFind es x = v) : mg x = v := by
  obtain ⟨o, es, ep, ho, hd', _, hm⟩ := g
  obtain ⟨o', ho'⟩ : ∃ o', (KK w.params).lookup 3 = some o' := ⟨_, rfl⟩
  have h3 := X 3 o' ho'
  have : o = o' := by
    have e : h₀.get? 3 = some o := ho
    rw [h3] at e; cases e; rfl
  subst this
  rw [← hm]
  exact hv o ho' es ep hd'
/-- the same by evaluation -/
theorem glob_of (X : (KK w.params).In h₀) {mg : Str → Option Value} (g : h₀.Ns mainGlobals mg) {x : Str} {v : Option Value} (hv : (match (KK w.params).lookup 3 with | some o => (match o.data with | .dict es _ => nsFind es x | _ => none) | none => none) = v) : mg x = v :=
  glob_at X g fun o ho es ep hd' => by
    rw [ho] at hv
    simp only [hd'] at hv
    exact hv

theorem glo (X : (KK w.params).In h₀) {mg mb : Str → Option Value} (g : h₀.Ns mainGlobals mg) (b : h₀.Ns builtinsNs mb) (lim : h₀.NoLimit) : Glo h₀ mg mb := ⟨g, (fun o ho => by
  have e : h₀.get? 3 = some o := ho
  rw [X 3 _ rfl] at e
  cases e
  exact fun q => nomatch q), b, lim⟩

theorem tab_at (X : (KK w.params).In h₀) : TabAt prog w h₀ 22 where
  map := by
    have h22 := X 22 _ rfl
    refine ⟨fun k => findBy Value.isInt _ k, Heap.IntMap.mapOf ⟨_, _, _, h22, rfl, rfl, ?_, fun _ => rfl⟩ (fun o ho => by rw [h22] at ho; cases ho; exact ⟨rfl, rfl⟩), fun k => ?_⟩
    · intro e he
      simp only [List.mem_toArray, List.mem_cons, List.not_mem_nil, or_false] at he
      rcases he with rfl | rfl | rfl | rfl | rfl | rfl | rfl | rfl | rfl | rfl <;> exact ⟨_, _, rfl, by decide⟩
    · by_cases h1 : k = 1
      · subst h1; exact ⟨(fun q => nomatch q), fun d q => by cases q; exact ⟨_, rfl⟩⟩
      by_cases h2 : k = 2
      · subst h2; exact ⟨(fun q => nomatch q), fun d q => by cases q; exact ⟨_, rfl⟩⟩
      by_cases h4 : k = 4
      · subst h4; exact ⟨(fun q => nomatch q), fun d q => by cases q; exact ⟨_, rfl⟩⟩
      by_cases h8 : k = 8
      · subst h8; exact ⟨(fun q => nomatch q), fun d q => by cases q; exact ⟨_, rfl⟩⟩
      by_cases h16 : k = 16
      · subst h16; exact ⟨(fun q => nomatch q), fun d q => by cases q; exact ⟨_, rfl⟩⟩
      by_cases h32 : k = 32
      · subst h32; exact ⟨(fun q => nomatch q), fun d q => by cases q; exact ⟨_, rfl⟩⟩
      by_cases h64 : k = 64
      · subst h64; exact ⟨(fun q => nomatch q), fun d q => by cases q; exact ⟨_, rfl⟩⟩
      by_cases h128 : k = 128
      · subst h128; exact ⟨(fun q => nomatch q), fun d q => by cases q; exact ⟨_, rfl⟩⟩
      by_cases h256 : k = 256
      · subst h256; exact ⟨(fun q => nomatch q), fun d q => by cases q; exact ⟨_, rfl⟩⟩
      by_cases h512 : k = 512
      · subst h512; exact ⟨(fun q => nomatch q), fun d q => by cases q; exact ⟨_, rfl⟩⟩
      have hn : tabG k = none := by
        show tabL.lookup k = none
        rw [List.lookup_eq_none_iff]
        intro p hp
        simp only [tabL, List.mem_cons, List.not_mem_nil, or_false] at hp
        rcases hp with rfl | rfl | rfl | rfl | rfl | rfl | rfl | rfl | rfl | rfl
        · simpa using h1
        · simpa using h2
        · simpa using h4
        · simpa using h8
        · simpa using h16
        · simpa using h32
        · simpa using h64
        · simpa using h128
        · simpa using h256
        · simpa using h512
      refine ⟨fun _ => ?_, fun d q => by rw [hn] at q; cases q⟩
      simp [iE, findBy, Value.isInt, beq_eq_false_iff_ne, Ne.symm h1, Ne.symm h2, Ne.symm h4, Ne.symm h8, Ne.symm h16, Ne.symm h32, Ne.symm h64, Ne.symm h128, Ne.symm h256, Ne.symm h512]
  cls := fun o ho => by
    rw [X 22 _ rfl] at ho
    cases ho
    exact ⟨(fun q => nomatch q), rfl⟩
  ne := by decide
end
end Mine

-- E4
namespace Mine
open PySem PySem.Calls PyProof.Rows PySem.W

section
variable {prog : Program} {w : World} {h₀ : Heap}

theorem law_lay (X : (KK w.params).In h₀) {mg mb : Str → Option Value} (g : h₀.Ns mainGlobals mg) (b : h₀.Ns builtinsNs mb) (lim : h₀.NoLimit) (hb : ∀ x : Str, x ≠ "__name__" → mb x = bootBuiltins x) : LawLay prog w h₀ mg mb where
  G := glo X g b lim
  gsum := glob_of X g rfl
  bsum := (hb "sum" (by decide)).trans Boot.«sum»
  gr := glob_of X g rfl
  br := (hb "range" (by decide)).trans Boot.«range»
  gl := glob_of X g rfl
  bl := (hb "len" (by decide)).trans Boot.«len»
  gh := glob_of X g rfl
  bh := (hb "hex" (by decide)).trans Boot.«hex»
  gt := glob_of X g rfl
  bt := (hb "tuple" (by decide)).trans Boot.«tuple»
  gli := glob_of X g rfl
  bli := (hb "list" (by decide)).trans Boot.«list»
  tab := ⟨22, glob_of X g rfl, tab_at X⟩
  measure := ⟨116, glob_of X g rfl, fn_measure X⟩
  name := ⟨109, glob_of X g rfl, fn_name X⟩
  pretty := ⟨29, glob_of X g rfl, fn_pretty X⟩
  ws := ⟨_, 98, 53, 67, ws_lay X (glob_of X g rfl)⟩
theorem q_lay (X : (KK w.params).In h₀) {mg mb : Str → Option Value} (g : h₀.Ns mainGlobals mg) (hb : ∀ x : Str, x ≠ "__name__" → mb x = bootBuiltins x) : QLay h₀ mg mb where
  gr := glob_of X g rfl
  br := (hb "range" (by decide)).trans Boot.«range»
  gz := glob_of X g rfl
  bz := (hb "zip" (by decide)).trans Boot.«zip»
  gv := glob_of X g rfl
  bv := (hb "ValueError" (by decide)).trans Boot.«ValueError»
  gs := glob_of X g rfl
  bs := (hb "str" (by decide)).trans Boot.«str»
  cm := ⟨_, glob_of X g rfl⟩
  gen := ⟨36, glob_of X g rfl, fn_gen X⟩
  told := ⟨121, glob_of X g rfl, fn_told X⟩
end
end Mine

-- E5
namespace Mine
open PySem PySem.Calls PyProof.Rows PySem.W

theorem lookup_mem {α : Type} : ∀ {l : List (Str × α)}, (l.map (·.1)).Nodup → ∀ q ∈ l, l.lookup q.1 = some q.2
  | [], _, _, h => nomatch h
  | (k, v) :: l, hn, q, h => by
    rw [List.lookup_cons]
    rcases List.mem_cons.mp h with rfl | h
    · simp
    · have hne : q.1 ≠ k := fun e => (List.nodup_cons.mp hn).1 (e ▸ List.mem_map.mpr ⟨q, h, rfl⟩)
      have hb : (q.1 == k) = false := by simpa using hne
      rw [hb]
      exact lookup_mem (List.nodup_cons.mp hn).2 q h

section
variable {prog : Program} {w : World}

theorem law_call {s₁ : Shared} (X : (KK w.params).In s₁.heap) {mg mb : Str → Option Value} (g : s₁.heap.Ns mainGlobals mg) (b : s₁.heap.Ns builtinsNs mb) (lim : s₁.heap.NoLimit) (hb : ∀ x : Str, x ≠ "__name__" → mb x = bootBuiltins x) (hgens : s₁.gens = #[])
    {l : Addr} {vs : List Value} {ns : List Int} (hl : s₁.heap.IsList l (List.toArray vs)) (hi : IntsAre vs ns) (hlen : ns.length ≤ 63) :
    codeAny (model prog w) callerA (.call (.ref 126) ⟨[.ref l], []⟩) (fun r s' => r = .ok (.ret (.bool true)) ∧ OldK s₁.heap s'.heap ∧ s'.os = s₁.os ∧ AllBare s'.gens) s₁ := by
  have YL := law_lay (prog := prog) X g b lim hb
  have YQ := q_lay X g hb
  refine codeAny_call_cells (by decide) (X 126 _ rfl) rfl lim ⟨125, _, _, _, rfl, X 125 _ rfl, rfl, rfl⟩ rfl (binds := [(("script" : Str), .ref l)]) rfl rfl (fun x hx => .inl (by rw [List.mem_singleton.mp hx]; rfl)) (fun s₂ C => ?_)
  generalize henv : callEnvC _ _ _ = env at C ⊢
  have eL : env.locals = s₁.heap.objs.size := by rw [← henv]; rfl
  have eS : env.scope = stScope (topSt 13) := by rw [← henv]; rfl
  have eC : env.cells = cellsFrom (env.locals + 1) (stScope (topSt 13)).names [] := by rw [← henv]; rfl
  have eF : env.frame = some env.locals := by rw [← henv]; rfl
  have eG : env.globals = mainGlobals := by rw [← henv]; rfl
  have eB : env.builtins = builtinsNs := by rw [← henv]; rfl
  clear henv
  show wpAny _ _ (execs (stBody (topSt 13)) env) _ _ s₂
  have above : ∀ c ∈ env.cells, env.locals < c.2 := fun c hc => C.above c.1 c.2 hc
  have K : EnvOk s₁.heap env := ⟨⟨by rw [eS]; rfl, eG, eB⟩, by rw [eL]; exact fresh_none, fun c hc => Heap.get?_none_of_le (by have := above c hc; rw [eL] at this; exact Nat.le_of_lt this), fun c hc => Nat.ne_of_gt (above c hc), fun x y c hx hy => name_of_addr C.apart (PySem.mem_of_lookup hx) (PySem.mem_of_lookup hy)⟩
  have keep := C.toInCall.keep
  obtain ⟨h₂, tk₂, e₂⟩ := C.toInCall.same
  have g₂ : s₂.gens = #[] := by rw [e₂]; exact hgens
  have o₂ : s₂.os = s₁.os := by rw [e₂]
  have ks : env.kindOf "script" = some .local := by unfold Env.kindOf; rw [eS]; rfl
  have hnod : (env.cells.map (·.1)).Nodup := by
    rw [eC]
    have : (cellsFrom (env.locals + 1) (stScope (topSt 13)).names []).map (·.1) = [("spot" : Str), "whole", "marks", "first", "step", "k", "rulers"] := rfl
    rw [this]; decide
  obtain ⟨ol, hol, _⟩ := id hl
  have lold : ∀ q, Mu env (fun _ : VL => none) q → s₁.heap.get? q = none := by
    rintro q (h | ⟨c, hc, h⟩ | ⟨y, h⟩)
    · rw [h]; exact K.locNew
    · rw [h]; exact K.cellNew c hc
    · cases h
  have S : StO nmL prog w s₁.heap s₁.os env (fun _ => none) (mkσ [(VL.script, .im (.list (ns.map D.int)))]) s₂ := by
    have up : Up s₁.heap s₂.heap := fun b o e _ => keep b o e
    refine ⟨up, OldK.of_keep keep, fun x d hx => ?_, fun x bb hx hbb => ?_, fun x y a h => (nomatch h), fun x a h => (nomatch h), ⟨_, C.toInCall.ns⟩, fun c hc => ⟨_, C.cell c.1 c.2 (lookup_mem hnod c hc)⟩, .of_eq g₂, o₂⟩
    · have hx2 : x = VL.script ∧ d = .list (ns.map D.int) := by
        unfold mkσ at hx
        rw [List.lookup_cons] at hx
        by_cases h : x = VL.script
        · subst h; simp at hx; exact ⟨rfl, hx.symm⟩
        · have hb' : (x == VL.script) = false := by simpa using h
          rw [hb'] at hx; cases hx
      obtain ⟨rfl, rfl⟩ := hx2
      refine ⟨.ref l, .inl ⟨ks, _, C.toInCall.ns, ?_⟩, rd_list.mpr ⟨l, vs, rfl, fun h => ?_, hl.at fun o e => keep l o e, RdL.ofInts hi⟩⟩
      · show bindL env.kindOf [(("script" : Str), Value.ref l)] (fun _ => none) "script" = some (.ref l)
        simp [bindL, ks]
      · rw [lold l h] at hol; cases hol
    · have : bb = .im (.list (ns.map D.int)) := by
        unfold mkσ at hx
        rw [List.lookup_cons] at hx
        by_cases h : x = VL.script
        · subst h; simp at hx; exact hx.symm
        · have hb' : (x == VL.script) = false := by simpa using h
          rw [hb'] at hx; cases hx
      subst this; cases hbb
  have hA : Ok 6 (callerA.deeper env) := Ok.deeper (n := 6) ⟨rfl, by decide, by decide⟩ env
  have kx : env.kindOf "_law_told" = some .globalImplicit := by unfold Env.kindOf; rw [eS]; rfl
  have kt : env.kindOf (nmL .told) = some .local := by unfold Env.kindOf; rw [eS]; rfl
  have hT : ToldSpec prog w s₁.heap s₁.os (callerA.deeper env) env := toldSpec (k := 4) YL.G YQ hA (Around.frames_deeper rfl) eF K kx (.loc kt)
  have T := tr_law YL (n := 0) hA ⟨K, eS, eC⟩ hT mathOk ns hlen
  refine ev_mono (T.run (fun _ => none) s₂ S) ?_
  rintro f s' ⟨fd, ow', σ', S', t', hf, rfl⟩
  obtain ⟨v, rfl, hv⟩ := hf
  obtain rfl := rd_bool.mp hv
  exact ⟨rfl, S'.old, S'.os, S'.bare⟩
end
end Mine

-- E6
namespace Mine
open PySem PySem.Calls PyProof.Rows PySem.W
end Mine
open PySem PySem.W PyProof.Rows PySem.Calls
set_option maxHeartbeats 8000000 in
theorem PySem.Challenge.cw_wn0087_01_holds : PySem.Challenge.rw_wn0087_01.Holds := by
  refine holds_law Mine.saidV fun said => ?_
  refine holds_open (q := Mine.qV) (loose := Mine.looseV) (Xt := Mine.xtV) (XP := XL Mine.qV []) (Yf := Hook.obs Mine.HK) (Ya := Hook.val Mine.HK) (YP := Hook.says Mine.HK) (N := 1878) Mine.leftV (Hook.of Mine.HK) (Hook.keeps Mine.HK) (fun s e => xl_of s (Bool.and_eq_true_iff.mp e).1) XL.keeps (by rfl) (by rfl) (by rfl) (fun s e => recFacts_of (Bool.and_eq_true_iff.mp e).2) (by rfl) (by first | assumption | decide +kernel) (by decide +kernel) ⟨rfl, rfl, rfl, rfl, rfl, by decide +kernel⟩ ?hw ?hc
  case hw => w_witness2
  intro w s₀ s₁ mg mb G Y fa o pm cd doc dV kV ho hod hcd hD hmg hg args vals as hpre hlay hrd hwl hlo
  have KX := kIn_of Y
  have T := G.T
  have hfa : fa = 126 := by
    have h1 : mg "law" = some (.ref 126) := Mine.glob_of KX T.g rfl
    have h2 : mg "law" = some (.ref fa) := hmg
    rw [h1] at h2
    cases h2; rfl
  subst hfa
  clear ho hod hcd hD hmg G Y
  w_on
  wrow_args hpre hlay hrd hwl hlo
  rename_i hI _ hcond _
  refine enter_call (codeAny_mono (Mine.law_call KX T.g T.b T.nolimit T.builtins hg ‹_› hI (by omega)) ?_)
  rintro r s' ⟨rfl, h1, h2, h3⟩
  refine ⟨.inl ⟨.bool true, .bool true, [], rfl, fun cls => ?_, .bool true, ?_, fun _ => ⟨.nil, fun _ ha => nomatch ha⟩⟩, h1, h2, h3⟩
  · rfl
  · wrow_post

